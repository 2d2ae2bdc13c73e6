/-
  Seat b6003653aM: the contracts of the leaves: strings.IndexByte, isUIDDash, zzUIDDash, zzHexVal, zzUIDCharOK, zzBytes.
-/
import Derived.Test.Qxb6003653aModsRows
import Derived.Test.Qxb6003653aModsPlain
import Derived.WalkKit
import Derived.WalkSpells
import Derived.WalkLawsBesides
import Derived.Lib.Strings
import Derived.Lib.Walk
import Derived.Lib.Bytealg
namespace Go.Proofs.Qxb6003653aMods
open Go.RowKit

abbrev Hex : ByteArray := ⟨#[48, 49, 50, 51, 52, 53, 54, 55, 56, 57, 97, 98, 99, 100, 101, 102]⟩

set_option maxHeartbeats 1000000 in
set_option maxRecDepth 100000 in
theorem lite_indexByte (s : ByteArray) (c : Int) (w : World) :
    Calls Trym.prog 23 #[.string s, .int .u8 c] w fun e w' => e = .returned (.int .i64 (Lib.indexByte s.data.toList c.toNat.toUInt8)) ∧ w' = w := by
  go_enter Trym.func23, Trym.ntmps23
  go_wp2
  rw [run_callFunc_extern Trym.func25 (by kernel_rfl) (by kernel_rfl) (by kernel_rfl) (e := Extern.BytealgIndexByte.indexByte) (by kernel_rfl), Lib.run_indexByteString]
  simp only [Result.andThen]
  rw [Oper.upon_value]
  go_wp2
  go_ret
  exact ⟨rfl, rfl⟩

set_option maxHeartbeats 1000000 in
theorem indexByte_any (s : ByteArray) (c : Int) (w : World) :
    Calls Trym.prog 21 #[.string s, .int .u8 c] w fun e w' => e = .returned (.int .i64 (Lib.indexByte s.data.toList c.toNat.toUInt8)) ∧ w' = w := by
  go_enter Trym.func21, Trym.ntmps21
  go_wp2_with (go_at_call 23; refine (lite_indexByte _ _ _).mono ?_; rintro e w' ⟨rfl, rfl⟩)
  go_ret
  exact ⟨rfl, rfl⟩

theorem hex_table : ∀ n : Nat, n < 256 → Lib.indexByte Hex.data.toList (UInt8.ofNat n) = hexV n := by decide +kernel

/-- strings.IndexByte over the hex digits is the digit's value, or -1. -/
theorem indexHex (c : Nat) (hc : c < 256) (w : World) :
    Calls Trym.prog 21 #[.string Hex, .int .u8 c] w fun e w' => e = .returned (.int .i64 (hexV c)) ∧ w = w' := by
  refine (indexByte_any Hex c w).mono ?_
  rintro e w' ⟨rfl, rfl⟩
  refine ⟨?_, rfl⟩
  have h := hex_table c hc
  exact congrArg (fun i => Ending.returned (.int .i64 i)) h

set_option maxHeartbeats 400000 in
theorem bytes_small (s : ByteArray) (w : World) (h : (s.size : Int) ≤ 1048576) :
    Calls Trym.prog 7 #[.string s] w fun e w' => e = .returned (.bool true) ∧ w = w' := by
  go_enter Trym.func7, Trym.ntmps7
  go_wp2
  go_ret
  exact ⟨rfl, rfl⟩

set_option maxHeartbeats 400000 in
theorem bytes_great (s : ByteArray) (w : World) (h : (1048576 : Int) < (s.size : Int)) :
    Calls Trym.prog 7 #[.string s] w fun e w' => e = .returned (.bool false) ∧ w = w' := by
  go_enter Trym.func7, Trym.ntmps7
  go_wp2
  go_ret
  exact ⟨rfl, rfl⟩

theorem ret_bool {a b : Bool} (h : a = b) : Ending.returned (.bool a) = .returned (.bool b) := by rw [h]

set_option maxHeartbeats 1000000 in
theorem isDash_any (i : Nat) (w : World) :
    Calls Trym.prog 20 #[.int .i64 i] w fun e w' => e = .returned (.bool (dash i)) ∧ w = w' := by
  by_cases h1 : i = 8
  · subst h1
    go_enter Trym.func20, Trym.ntmps20
    go_wp2
    go_ret
    exact ⟨rfl, rfl⟩
  · by_cases h2 : i = 13
    · subst h2
      go_enter Trym.func20, Trym.ntmps20
      go_wp2
      go_ret
      exact ⟨rfl, rfl⟩
    · by_cases h3 : i = 18
      · subst h3
        go_enter Trym.func20, Trym.ntmps20
        go_wp2
        go_ret
        exact ⟨rfl, rfl⟩
      · have e1 : ((i : Int) == 8) = false := by simp; omega
        have e2 : ((i : Int) == 13) = false := by simp; omega
        have e3 : ((i : Int) == 18) = false := by simp; omega
        have E : Hid (((i : Int) == 23) = dash i) := by
          show ((i : Int) == 23) = dash i
          rw [Bool.eq_iff_iff, dash_eq, beq_iff_eq]
          omega
        clear h1 h2 h3
        go_enter Trym.func20, Trym.ntmps20
        go_wp2
        go_ret
        exact ⟨ret_bool E.out, rfl⟩

set_option maxHeartbeats 1000000 in
theorem uidDash_any (i : Nat) (w : World) :
    Calls Trym.prog 11 #[.int .i64 i] w fun e w' => e = .returned (.bool (dash i)) ∧ w = w' := by
  by_cases h1 : i = 8
  · subst h1
    go_enter Trym.func11, Trym.ntmps11
    go_wp2
    go_ret
    exact ⟨rfl, rfl⟩
  · by_cases h2 : i = 13
    · subst h2
      go_enter Trym.func11, Trym.ntmps11
      go_wp2
      go_ret
      exact ⟨rfl, rfl⟩
    · by_cases h3 : i = 18
      · subst h3
        go_enter Trym.func11, Trym.ntmps11
        go_wp2
        go_ret
        exact ⟨rfl, rfl⟩
      · have e1 : ((i : Int) == 8) = false := by simp; omega
        have e2 : ((i : Int) == 13) = false := by simp; omega
        have e3 : ((i : Int) == 18) = false := by simp; omega
        have E : Hid (((i : Int) == 23) = dash i) := by
          show ((i : Int) == 23) = dash i
          rw [Bool.eq_iff_iff, dash_eq, beq_iff_eq]
          omega
        clear h1 h2 h3
        go_enter Trym.func11, Trym.ntmps11
        go_wp2
        go_ret
        exact ⟨ret_bool E.out, rfl⟩

theorem ret_int {k : IntKind} {a b : Int} (h : a = b) : Ending.returned (.int k a) = .returned (.int k b) := by rw [h]

set_option maxHeartbeats 1000000 in
theorem hexVal_any (c : Nat) (hc : c < 256) (w : World) :
    Calls Trym.prog 12 #[.int .u8 c] w fun e w' => e = .returned (.int .i64 (hexV c)) ∧ w = w' := by
  by_cases h1 : 48 ≤ c ∧ c ≤ 57
  · have E : Hid (hexV c = (c : Int) - 48) := by show hexV c = _; unfold hexV; rw [if_pos h1]
    obtain ⟨a1, a2⟩ := h1
    have b1 : (48 : Int) ≤ (c : Int) := by omega
    have b2 : (c : Int) ≤ 57 := by omega
    go_enter Trym.func12, Trym.ntmps12
    go_wp2
    go_ret
    exact ⟨ret_int E.out.symm, rfl⟩
  · by_cases h2 : 97 ≤ c ∧ c ≤ 102
    · have E : Hid (hexV c = (c : Int) - 87) := by show hexV c = _; unfold hexV; rw [if_neg h1, if_pos h2]
      obtain ⟨a1, a2⟩ := h2
      have b0 : (57 : Int) < (c : Int) := by omega
      have b1 : (97 : Int) ≤ (c : Int) := by omega
      have b2 : (c : Int) ≤ 102 := by omega
      clear h1
      go_enter Trym.func12, Trym.ntmps12
      go_wp2
      go_ret
      exact ⟨ret_int (by rw [E.out]; omega), rfl⟩
    · have E : Hid (hexV c = -1) := by show hexV c = _; unfold hexV; rw [if_neg h1, if_neg h2]
      have hh : c < 48 ∨ (57 < c ∧ c < 97) ∨ 102 < c := by omega
      clear h1 h2
      rcases hh with h | ⟨h, h'⟩ | h
      · have b1 : (c : Int) < 48 := by omega
        have b2 : (c : Int) < 97 := by omega
        go_enter Trym.func12, Trym.ntmps12
        go_wp2
        go_ret
        exact ⟨ret_int E.out.symm, rfl⟩
      · have b1 : (57 : Int) < (c : Int) := by omega
        have b2 : (c : Int) < 97 := by omega
        go_enter Trym.func12, Trym.ntmps12
        go_wp2
        go_ret
        exact ⟨ret_int E.out.symm, rfl⟩
      · have b1 : (102 : Int) < (c : Int) := by omega
        go_enter Trym.func12, Trym.ntmps12
        go_wp2
        go_ret
        exact ⟨ret_int E.out.symm, rfl⟩

set_option maxHeartbeats 1000000 in
theorem charOK_any (c i : Nat) (hc : c < 256) (w : World) :
    Calls Trym.prog 9 #[.int .u8 c, .int .i64 i] w fun e w' => e = .returned (.bool (okAt c i)) ∧ w = w' := by
  cases hd : dash i with
  | true =>
    have E : Hid (((c : Int) == 45) = okAt c i) := by
      show _ = okAt c i
      unfold okAt
      rw [hd, if_pos rfl, Bool.eq_iff_iff, beq_iff_eq, beq_iff_eq]
      omega
    go_enter Trym.func9, Trym.ntmps9
    go_wp2_with (go_at_call 11; refine (uidDash_any i _).mono ?_; rintro e w' ⟨rfl, rfl⟩)
    go_ret
    exact ⟨ret_bool E.out, rfl⟩
  | false =>
    have E : Hid (decide (0 ≤ hexV c) = okAt c i) := by
      show _ = okAt c i
      unfold okAt
      rw [hd]
      rfl
    go_enter Trym.func9, Trym.ntmps9
    go_wp2_with (first | (go_at_call 11; refine (uidDash_any i _).mono ?_; rintro e w' ⟨rfl, rfl⟩) | (go_at_call 12; refine (hexVal_any c hc _).mono ?_; rintro e w' ⟨rfl, rfl⟩))
    go_ret
    exact ⟨ret_bool E.out, rfl⟩

end Go.Proofs.Qxb6003653aMods
