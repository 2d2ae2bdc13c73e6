/-
  Seat b6000698aM: the contracts of the leaves: strings.IndexByte, strings.CutPrefix, isSecret, ZZisSecret.
-/
import Derived.Test.Qxb6000698aModsRows
import Derived.WalkKit
import Derived.WalkSpells
import Derived.WalkLawsBesides
import Derived.Lib.Strings
import Derived.Lib.Walk
import Derived.Lib.Bytealg
namespace Go.Proofs.Qxb6000698aMods
open Go.RowKit

/-- The digits' alphabet. -/
abbrev B62 : ByteArray := ⟨#[48, 49, 50, 51, 52, 53, 54, 55, 56, 57, 65, 66, 67, 68, 69, 70, 71, 72, 73, 74, 75, 76, 77, 78, 79, 80, 81, 82, 83, 84, 85, 86, 87, 88, 89, 90, 97, 98, 99, 100, 101, 102, 103, 104, 105, 106, 107, 108, 109, 110, 111, 112, 113, 114, 115, 116, 117, 118, 119, 120, 121, 122]⟩

/-- 'tmas_' -/
abbrev Pre : ByteArray := ⟨#[116, 109, 97, 115, 95]⟩

/-- c is one of the 62 digits. -/
def In62 (c : Int) : Prop := 0 ≤ Lib.indexByte B62.data.toList c.toNat.toUInt8

set_option maxHeartbeats 1000000 in
set_option maxRecDepth 100000 in
theorem lite_indexByte (s : ByteArray) (c : Int) (w : World) :
    Calls Trym.prog 41 #[.string s, .int .u8 c] w fun e w' => e = .returned (.int .i64 (Lib.indexByte s.data.toList c.toNat.toUInt8)) ∧ w' = w := by
  go_enter Trym.func41, Trym.ntmps41
  go_wp2
  rw [run_callFunc_extern Trym.func43 (by kernel_rfl) (by kernel_rfl) (by kernel_rfl) (e := Extern.BytealgIndexByte.indexByte) (by kernel_rfl), Lib.run_indexByteString]
  simp only [Result.andThen]
  rw [Oper.upon_value]
  go_wp2
  go_ret
  exact ⟨rfl, rfl⟩

set_option maxHeartbeats 1000000 in
theorem indexByte_any (s : ByteArray) (c : Int) (w : World) :
    Calls Trym.prog 39 #[.string s, .int .u8 c] w fun e w' => e = .returned (.int .i64 (Lib.indexByte s.data.toList c.toNat.toUInt8)) ∧ w' = w := by
  go_enter Trym.func39, Trym.ntmps39
  go_wp2_with (go_at_call 41; refine (lite_indexByte _ _ _).mono ?_; rintro e w' ⟨rfl, rfl⟩)
  go_ret
  exact ⟨rfl, rfl⟩

theorem index62 (c : Int) (w : World) (h : In62 c) :
    Calls Trym.prog 39 #[.string B62, .int .u8 c] w fun e w' => ∃ n : Int, e = .returned (.int .i64 n) ∧ 0 ≤ n ∧ w = w' := by
  refine (indexByte_any B62 c w).mono ?_
  rintro e w' ⟨rfl, rfl⟩
  exact ⟨_, rfl, h, rfl⟩

set_option maxHeartbeats 1000000 in
theorem cut_yes (s p : ByteArray) (w : World) (h1 : p.size ≤ s.size) (h2 : ((s.extract 0 p.size).toList == p.toList) = true) :
    Calls Trym.prog 38 #[.string s, .string p] w fun e w' => e = .returned (.tuple #[.string (s.extract p.size s.size), .bool true]) ∧ w = w' := by
  have h3 : (p.size : Int) ≤ (s.size : Int) := by omega
  go_enter Trym.func38, Trym.ntmps38
  go_wp2
  go_ret2
  exact ⟨rfl, rfl⟩

theorem data_append (a b : ByteArray) : (a ++ b).data.toList = a.data.toList ++ b.data.toList := by
  rw [ByteArray.data_append]; simp

theorem cut_secret (d : ByteArray) (w : World) :
    Calls Trym.prog 38 #[.string (Pre ++ d), .string Pre] w fun e w' => e = .returned (.tuple #[.string d, .bool true]) ∧ w = w' := by
  have hs : (Pre ++ d).size = 5 + d.size := by rw [ByteArray.size_append]; rfl
  have hl : d.data.toList.length = d.size := by simp
  have e1 : (Pre ++ d).extract Pre.size (Pre ++ d).size = d := by
    apply ByteArray.ext
    apply Array.ext'
    rw [Lib.extract_data, data_append, hs]
    have : Pre.data.toList.length = Pre.size := by decide
    rw [← this, List.drop_left, List.take_of_length_le]
    rw [this]
    show d.data.toList.length ≤ 5 + d.size - 5
    omega
  have e2 : ((Pre ++ d).extract 0 Pre.size).toList = Pre.toList := by
    rw [Lib.toList_data, Lib.toList_data, Lib.extract_data, data_append]
    have : Pre.data.toList.length = Pre.size := by decide
    rw [← this]
    simp
  have h1 : Pre.size ≤ (Pre ++ d).size := by rw [hs]; show 5 ≤ 5 + d.size; omega
  refine (cut_yes (Pre ++ d) Pre w h1 (by rw [e2]; exact beq_self_eq_true _)).mono ?_
  rintro e w' ⟨rfl, rfl⟩
  rw [e1]
  exact ⟨rfl, rfl⟩

set_option maxHeartbeats 1000000 in
theorem isSecret_yes (s d : ByteArray) (w : World) (hs : Hid (s = Pre ++ d)) (hd : d.size = 43) (hall : ∀ j (hj : j < d.size), In62 (d[j].toNat : Int)) :
    Calls Trym.prog 37 #[.string s] w fun e w' => e = .returned (.bool true) ∧ w = w' := by
  go_enter Trym.func37, Trym.ntmps37
  go_wp2_with (go_at_call 38; refine (show Calls Trym.prog 38 #[.string s, .string Pre] w _ from by rw [hs.out]; exact cut_secret d w).mono ?_; rintro e w' ⟨rfl, rfl⟩)
  go_loop [20, 5] (fun i _ => ∃ k : Nat, k ≤ 43 ∧ i = .int .i64 k) (fun i _ => 43 - (intOf i).toNat)
  case atStart => exact ⟨0, Nat.zero_le _, rfl⟩
  case round =>
    obtain ⟨k, hk, rfl⟩ := hrel
    by_cases hlt : k < 43
    · have hkd : k < d.size := by omega
      have hi := hall k hkd
      have hk0 : (0 : Int) ≤ (k : Int) := by omega
      have hk1 : (k : Int) < 43 := by omega
      go_wp2_with (go_at_call 39; refine (index62 _ _ hi).mono ?_; rintro e w' ⟨n, rfl, hn, rfl⟩)
      go_round
      case rel => exact ⟨k + 1, by omega, by go_num⟩
      case measure => simp [intOf]; omega
    · go_wp2
      go_ret
      exact ⟨rfl, rfl⟩

set_option maxHeartbeats 400000 in
theorem zzIsSecret_yes (s d : ByteArray) (w : World) (hs : Hid (s = Pre ++ d)) (hd : d.size = 43) (hall : ∀ j (hj : j < d.size), In62 (d[j].toNat : Int)) :
    Calls Trym.prog 27 #[.string s] w fun e w' => e = .returned (.bool true) ∧ w = w' := by
  go_enter Trym.func27, Trym.ntmps27
  go_wp2_with (go_at_call 37; refine (isSecret_yes s d _ hs hd hall).mono ?_; rintro e w' ⟨rfl, rfl⟩)
  go_ret
  exact ⟨rfl, rfl⟩

end Go.Proofs.Qxb6000698aMods
