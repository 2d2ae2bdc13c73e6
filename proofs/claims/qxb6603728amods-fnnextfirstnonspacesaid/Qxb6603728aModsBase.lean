/-
  Seat b6603728aM: the contracts of the leaves on the road of FnNextFirstNonSpace: strings.IndexByte, zzBytes, apiB1IsWS.
-/
import Derived.Test.Qxb6603728aModsRows
import Derived.WalkKit
import Derived.WalkSpells
import Derived.WalkLawsBesides
import Derived.Lib.Strings
import Derived.Lib.Slices
import Derived.Lib.Walk
import Derived.Lib.Bytealg
namespace Go.Proofs.Qxb6603728aMods
open Go.RowKit

/-- Is c one of JSON's four white-space bytes? -/
def wsB (c : Int) : Bool := c == 32 || c == 9 || c == 13 || c == 10

set_option maxHeartbeats 1000000 in
set_option maxRecDepth 100000 in
theorem lite_indexByte (s : ByteArray) (c : Int) (w : World) :
    Calls Trym.prog 27 #[.string s, .int .u8 c] w fun e w' => e = .returned (.int .i64 (Lib.indexByte s.data.toList c.toNat.toUInt8)) ∧ w' = w := by
  go_enter Trym.func27, Trym.ntmps27
  go_wp2
  rw [run_callFunc_extern Trym.func29 (by kernel_rfl) (by kernel_rfl) (by kernel_rfl) (e := Extern.BytealgIndexByte.indexByte) (by kernel_rfl), Lib.run_indexByteString]
  simp only [Result.andThen]
  rw [Oper.upon_value]
  go_wp2
  go_ret
  exact ⟨rfl, rfl⟩

set_option maxHeartbeats 1000000 in
theorem indexByte_any (s : ByteArray) (c : Int) (w : World) :
    Calls Trym.prog 24 #[.string s, .int .u8 c] w fun e w' => e = .returned (.int .i64 (Lib.indexByte s.data.toList c.toNat.toUInt8)) ∧ w' = w := by
  go_enter Trym.func24, Trym.ntmps24
  go_wp2_with (go_at_call 27; refine (lite_indexByte _ _ _).mono ?_; rintro e w' ⟨rfl, rfl⟩)
  go_ret
  exact ⟨rfl, rfl⟩

set_option maxHeartbeats 400000 in
theorem bytes_small (a : Option Addr) (len cap : Nat) (p : Int) (w : World) (h : (len : Int) ≤ 1048576) :
    Calls Trym.prog 10 #[.slice a len cap, .int .i64 p] w fun e w' => e = .returned (.bool true) ∧ w = w' := by
  go_enter Trym.func10, Trym.ntmps10
  go_wp2
  go_ret
  exact ⟨rfl, rfl⟩

set_option maxHeartbeats 400000 in
theorem bytes_great (a : Option Addr) (len cap : Nat) (p : Int) (w : World) (h : (1048576 : Int) < (len : Int)) :
    Calls Trym.prog 10 #[.slice a len cap, .int .i64 p] w fun e w' => e = .returned (.bool false) ∧ w = w' := by
  go_enter Trym.func10, Trym.ntmps10
  go_wp2
  go_ret
  exact ⟨rfl, rfl⟩

set_option maxHeartbeats 400000 in
theorem isWS_any (c : Int) (w : World) :
    Calls Trym.prog 11 #[.int .u8 c] w fun e w' => e = .returned (.bool (wsB c)) ∧ w = w' := by
  by_cases h1 : c = 32
  · subst h1
    go_enter Trym.func11, Trym.ntmps11
    go_wp2
    go_ret
    exact ⟨rfl, rfl⟩
  · by_cases h2 : c = 9
    · subst h2
      go_enter Trym.func11, Trym.ntmps11
      go_wp2
      go_ret
      exact ⟨rfl, rfl⟩
    · by_cases h3 : c = 13
      · subst h3
        go_enter Trym.func11, Trym.ntmps11
        go_wp2
        go_ret
        exact ⟨rfl, rfl⟩
      · have e1 : (c == 32) = false := by simpa using h1
        have e2 : (c == 9) = false := by simpa using h2
        have e3 : (c == 13) = false := by simpa using h3
        have E : Hid (wsB c = (c == 10)) := by simp [Hid, wsB, e1, e2, e3]
        go_enter Trym.func11, Trym.ntmps11
        go_wp2
        go_ret
        exact ⟨by rw [E.out]; rfl, rfl⟩

end Go.Proofs.Qxb6603728aMods
