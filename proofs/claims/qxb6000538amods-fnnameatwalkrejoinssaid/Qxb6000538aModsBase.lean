/-
  Seat b6000538aM: the contracts of the leaves: strings.IndexByte, the two zzBytes, hasSlash, nameAt, ZZNameAt.
-/
import Derived.Test.Qxb6000538aModsRows
import Derived.Test.Qxb6000538aModsPlain
import Derived.WalkKit
import Derived.WalkSpells
import Derived.WalkLawsBesides
import Derived.Lib.Strings
import Derived.Lib.IndexBytes
import Derived.Lib.Walk
import Derived.Lib.Bytealg
namespace Go.Proofs.Qxb6000538aMods
open Go.RowKit

set_option maxHeartbeats 1000000 in
set_option maxRecDepth 100000 in
theorem lite_indexByte (s : ByteArray) (c : Int) (w : World) :
    Calls Trym.prog 21 #[.string s, .int .u8 c] w fun e w' => e = .returned (.int .i64 (Lib.indexByte s.data.toList c.toNat.toUInt8)) ∧ w' = w := by
  go_enter Trym.func21, Trym.ntmps21
  go_wp2
  rw [run_callFunc_extern Trym.func22 (by kernel_rfl) (by kernel_rfl) (by kernel_rfl) (e := Extern.BytealgIndexByte.indexByte) (by kernel_rfl), Lib.run_indexByteString]
  simp only [Result.andThen]
  rw [Oper.upon_value]
  go_wp2
  go_ret
  exact ⟨rfl, rfl⟩

set_option maxHeartbeats 1000000 in
theorem indexByte_any (s : ByteArray) (c : Int) (w : World) :
    Calls Trym.prog 20 #[.string s, .int .u8 c] w fun e w' => e = .returned (.int .i64 (Lib.indexByte s.data.toList c.toNat.toUInt8)) ∧ w' = w := by
  go_enter Trym.func20, Trym.ntmps20
  go_wp2_with (go_at_call 21; refine (lite_indexByte _ _ _).mono ?_; rintro e w' ⟨rfl, rfl⟩)
  go_ret
  exact ⟨rfl, rfl⟩

/-- The call that nameAt makes: no slash from a on. -/
theorem index_none (p : ByteArray) (a : Nat) (w : World) (h : NoSlash p.data.toList a p.data.toList.length) :
    Calls Trym.prog 20 #[.string (p.extract a p.size), .int .u8 47] w fun e w' => e = .returned (.int .i64 (-1)) ∧ w = w' := by
  refine (indexByte_any (p.extract a p.size) 47 w).mono ?_
  rintro e w' ⟨rfl, rfl⟩
  refine ⟨?_, rfl⟩
  rw [Lib.extract_to_end]
  have := idx_none p.data.toList a h
  exact congrArg (fun i => Ending.returned (.int .i64 i)) this

/-- The call that nameAt makes: the first slash from a on stands at e. -/
theorem index_some (p : ByteArray) (a e : Nat) (w : World) (hae : a ≤ e) (h : NoSlash p.data.toList a e) (he : p.data.toList[e]? = some 47) :
    Calls Trym.prog 20 #[.string (p.extract a p.size), .int .u8 47] w fun r w' => r = .returned (.int .i64 ((e : Int) - (a : Int))) ∧ w = w' := by
  refine (indexByte_any (p.extract a p.size) 47 w).mono ?_
  rintro r w' ⟨rfl, rfl⟩
  refine ⟨?_, rfl⟩
  rw [Lib.extract_to_end]
  have := idx_some p.data.toList a e hae h he
  exact congrArg (fun i => Ending.returned (.int .i64 i)) this

set_option maxHeartbeats 400000 in
theorem bytes14_small (s : ByteArray) (w : World) (h : (s.size : Int) ≤ 1048576) :
    Calls Trym.prog 14 #[.string s] w fun e w' => e = .returned (.bool true) ∧ w = w' := by
  go_enter Trym.func14, Trym.ntmps14
  go_wp2
  go_ret
  exact ⟨rfl, rfl⟩

set_option maxHeartbeats 400000 in
theorem bytes14_great (s : ByteArray) (w : World) (h : (1048576 : Int) < (s.size : Int)) :
    Calls Trym.prog 14 #[.string s] w fun e w' => e = .returned (.bool false) ∧ w = w' := by
  go_enter Trym.func14, Trym.ntmps14
  go_wp2
  go_ret
  exact ⟨rfl, rfl⟩

set_option maxHeartbeats 400000 in
theorem bytes17_small (s : ByteArray) (i : Int) (w : World) (h : (s.size : Int) ≤ 1048576) :
    Calls Trym.prog 17 #[.string s, .int .i64 i] w fun e w' => e = .returned (.bool true) ∧ w = w' := by
  go_enter Trym.func17, Trym.ntmps17
  go_wp2
  go_ret
  exact ⟨rfl, rfl⟩

set_option maxHeartbeats 400000 in
theorem bytes17_great (s : ByteArray) (i : Int) (w : World) (h : (1048576 : Int) < (s.size : Int)) :
    Calls Trym.prog 17 #[.string s, .int .i64 i] w fun e w' => e = .returned (.bool false) ∧ w = w' := by
  go_enter Trym.func17, Trym.ntmps17
  go_wp2
  go_ret
  exact ⟨rfl, rfl⟩

set_option maxHeartbeats 400000 in
theorem hasSlash_no (s : ByteArray) (w : World) (hs : (s.size : Int) ≤ 1048576) (h : ∀ j (hj : j < s.size), ((s[j].toNat : Int) == 47) = false) :
    Calls Trym.prog 16 #[.string s] w fun e w' => e = .returned (.bool false) ∧ w = w' := by
  go_enter Trym.func16, Trym.ntmps16
  go_wp2
  go_loop [3] (fun i => ∃ k : Nat, k ≤ s.size ∧ i = .int .i64 k) (fun i => s.size - (intOf i).toNat)
  case atStart => exact ⟨0, Nat.zero_le _, rfl⟩
  case round =>
    obtain ⟨k, hk, rfl⟩ := hrel
    by_cases hlt : k < s.size
    · have hb := h k hlt
      go_wp2
      go_round
      case rel => exact ⟨k + 1, by omega, by go_num⟩
      case measure => simp [intOf]; omega
    · go_wp2
      go_ret
      exact ⟨rfl, rfl⟩

set_option maxHeartbeats 400000 in
theorem nameAt_last (p : ByteArray) (a : Nat) (w : World) (hp : (p.size : Int) ≤ 1048576) (ha : a ≤ p.size) (h : NoSlash p.data.toList a p.data.toList.length) :
    Calls Trym.prog 19 #[.string p, .int .i64 a] w fun r w' => r = .returned (.tuple #[.string (p.extract a p.size), .int .i64 ((p.size : Int) + 1)]) ∧ w = w' := by
  go_enter Trym.func19, Trym.ntmps19
  go_wp2_with (go_at_call 20; refine (index_none p a _ h).mono ?_; rintro e w' ⟨rfl, rfl⟩)
  go_ret2
  exact ⟨rfl, rfl⟩

theorem ret_name (p : ByteArray) (a e : Nat) (h : a ≤ e) : Ending.returned (.tuple #[.string (p.extract a (a + (e - a))), .int .i64 ((a : Int) + ((e : Int) - (a : Int)) + 1)]) = .returned (.tuple #[.string (p.extract a e), .int .i64 ((e : Int) + 1)]) := by
  rw [show a + (e - a) = e by omega, show (a : Int) + ((e : Int) - (a : Int)) + 1 = (e : Int) + 1 by omega]

set_option maxHeartbeats 400000 in
theorem nameAt_mid (p : ByteArray) (a e : Nat) (w : World) (hp : (p.size : Int) ≤ 1048576) (hae : a ≤ e) (hes : e < p.size) (h : NoSlash p.data.toList a e) (he : p.data.toList[e]? = some 47) :
    Calls Trym.prog 19 #[.string p, .int .i64 a] w fun r w' => r = .returned (.tuple #[.string (p.extract a e), .int .i64 ((e : Int) + 1)]) ∧ w = w' := by
  go_enter Trym.func19, Trym.ntmps19
  go_wp2_with (go_at_call 20; refine (index_some p a e _ hae h he).mono ?_; rintro e w' ⟨rfl, rfl⟩)
  go_ret2
  exact ⟨ret_name p a e hae, rfl⟩

theorem zzNameAt_any (p : ByteArray) (a e : Nat) (w : World) (hp : (p.size : Int) ≤ 1048576) (hs : Stops p.data.toList a e) :
    Calls Trym.prog 15 #[.string p, .int .i64 a] w fun r w' => r = .returned (.tuple #[.string (p.extract a e), .int .i64 ((e : Int) + 1)]) ∧ w = w' := by
  obtain ⟨h1, h2, h3, h4⟩ := hs
  have hsz : p.data.toList.length = p.size := by simp
  by_cases hc : e = p.size
  · subst hc
    have h3' : NoSlash p.data.toList a p.data.toList.length := by rw [hsz]; exact h3
    clear h2 h3 h4 hsz
    go_enter Trym.func15, Trym.ntmps15
    go_wp2_with (go_at_call 19; refine (nameAt_last p a _ hp h1 h3').mono ?_; rintro e w' ⟨rfl, rfl⟩)
    go_ret2
    exact ⟨rfl, rfl⟩
  · have h5 : p.data.toList[e]? = some 47 := by
      rcases h4 with h4 | h4
      · omega
      · exact h4
    have h6 : e < p.size := by omega
    clear h2 h4 hsz hc
    go_enter Trym.func15, Trym.ntmps15
    go_wp2_with (go_at_call 19; refine (nameAt_mid p a e _ hp h1 h6 h3 h5).mono ?_; rintro e w' ⟨rfl, rfl⟩)
    go_ret2
    exact ⟨rfl, rfl⟩

end Go.Proofs.Qxb6000538aMods
