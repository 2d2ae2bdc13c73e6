/-
  Seat b6000538aM: the walk of FnNameAtStepIsLongestSlashFreeName.
-/
import Derived.Test.Qxb6000538aModsBase
namespace Go.Proofs.Qxb6000538aMods
open Go.RowKit

theorem get_data (s : ByteArray) (j : Nat) (h : j < s.size) : s.data.toList[j]? = some s[j] := by
  rw [List.getElem?_eq_getElem (by simpa using h)]
  rfl

/-- The name bears no slash. -/
theorem ex_noSlash (p : ByteArray) (a e : Nat) (h : NoSlash p.data.toList a e) (j : Nat) (hj : j < (p.extract a e).size) : (((p.extract a e)[j].toNat : Int) == 47) = false := by
  have h1 := get_data (p.extract a e) j hj
  rw [Lib.extract_data] at h1
  have hje : j < e - a := by
    have := ByteArray.size_extract (a := p) (b := a) (e := e)
    omega
  rw [List.getElem?_take_of_lt hje, List.getElem?_drop] at h1
  have h2 := h (a + j) (by omega) (by omega)
  rw [h1] at h2
  rw [beq_eq_false_iff_ne]
  intro hc
  apply h2
  congr 1
  apply UInt8.toNat_inj.1
  have : (47 : UInt8).toNat = 47 := rfl
  omega

theorem slash_at (p : ByteArray) (e : Nat) (he : e < p.size) (h : p.data.toList[e]? = some 47) : (((p[e]'he).toNat : Int) == 47) = true := by
  have h1 := get_data p e he
  rw [h1] at h
  simp only [Option.some.injEq] at h
  rw [h]
  rfl

set_option maxHeartbeats 400000 in
theorem step_great (p : ByteArray) (i : Int) (w : World) (h : (1048576 : Int) < (p.size : Int)) :
    Calls Trym.prog 7 #[.string p, .int .i64 i] w fun e w' => e = .returned (.bool true) ∧ w = w' := by
  go_enter Trym.func7, Trym.ntmps7
  go_wp2_with (go_at_call 17; refine (bytes17_great _ _ _ h).mono ?_; rintro e w' ⟨rfl, rfl⟩)
  go_ret
  exact ⟨rfl, rfl⟩

set_option maxHeartbeats 400000 in
theorem step_out (p : ByteArray) (i : Int) (w : World) (h : (p.size : Int) ≤ 1048576) (hp : i < 0 ∨ (p.size : Int) < i) :
    Calls Trym.prog 7 #[.string p, .int .i64 i] w fun e w' => e = .returned (.bool true) ∧ w = w' := by
  by_cases hn : i < 0
  · go_enter Trym.func7, Trym.ntmps7
    go_wp2_with (go_at_call 17; refine (bytes17_small _ _ _ h).mono ?_; rintro e w' ⟨rfl, rfl⟩)
    go_ret
    exact ⟨rfl, rfl⟩
  · have h0 : 0 ≤ i := by omega
    have h1 : (p.size : Int) < i := by omega
    clear hp hn
    go_enter Trym.func7, Trym.ntmps7
    go_wp2_with (go_at_call 17; refine (bytes17_small _ _ _ h).mono ?_; rintro e w' ⟨rfl, rfl⟩)
    go_ret
    exact ⟨rfl, rfl⟩

theorem ret_true {b : Bool} (h : b = true) : Ending.returned (.bool b) = .returned (.bool true) := by rw [h]

set_option maxHeartbeats 1000000 in
theorem step_in (p : ByteArray) (a d : Nat) (w : World) (hp : (p.size : Int) ≤ 1048576) (hs : Stops p.data.toList a (a + d)) :
    Calls Trym.prog 7 #[.string p, .int .i64 a] w fun e w' => e = .returned (.bool true) ∧ w = w' := by
  have hsz : p.data.toList.length = p.size := by simp
  have h2 : a + d ≤ p.size := by have := hs.2.1; omega
  have hsl := ex_noSlash p a (a + d) hs.2.2.1
  have hsize : (p.extract a (a + d)).size = d := by rw [ByteArray.size_extract]; omega
  have hle : ((p.extract a (a + d)).size : Int) ≤ 1048576 := by omega
  have h2' : (a : Int) + (d : Int) ≤ (p.size : Int) := by omega
  by_cases he : a + d = p.size
  · have h3 : (p.size : Int) ≤ (a : Int) + (d : Int) := by omega
    clear he hsz
    go_enter Trym.func7, Trym.ntmps7
    go_wp2_with (first | (go_at_call 17; refine (bytes17_small _ _ _ hp).mono ?_; rintro e w' ⟨rfl, rfl⟩) | (go_at_call 15; refine (zzNameAt_any p a (a + d) _ hp hs).mono ?_; rintro e w' ⟨rfl, rfl⟩) | (go_at_call 16; refine (hasSlash_no _ _ hle hsl).mono ?_; rintro e w' ⟨rfl, rfl⟩))
    go_ret
    exact ⟨ret_true (by simp; omega), rfl⟩
  · have h3 : (a : Int) + (d : Int) < (p.size : Int) := by omega
    have h4 : a + d < p.size := by omega
    have h5 : p.data.toList[a + d]? = some 47 := by
      rcases hs.2.2.2 with h | h
      · omega
      · exact h
    have h6 := slash_at p (a + d) h4 h5
    clear he hsz h5
    go_enter Trym.func7, Trym.ntmps7
    go_wp2_with (first | (go_at_call 17; refine (bytes17_small _ _ _ hp).mono ?_; rintro e w' ⟨rfl, rfl⟩) | (go_at_call 15; refine (zzNameAt_any p a (a + d) _ hp hs).mono ?_; rintro e w' ⟨rfl, rfl⟩) | (go_at_call 16; refine (hasSlash_no _ _ hle hsl).mono ?_; rintro e w' ⟨rfl, rfl⟩))
    go_ret
    exact ⟨ret_true (by simp), rfl⟩
end Go.Proofs.Qxb6000538aMods
