/-
  Seat b6603728aM: the walk of FnNextFirstNonSpace, over the contracts.
-/
import Derived.Test.Qxb6603728aModsClone
import Derived.Test.Qxb6603728aModsNext
namespace Go.Proofs.Qxb6603728aMods
open Go.RowKit

/-- From pos on: white space alone, or a first byte that is none. -/
theorem first_or_none (f : Nat → Int) (pos len : Nat) : (∀ j, pos ≤ j → j < len → wsB (f j) = true) ∨ ∃ p, pos ≤ p ∧ p < len ∧ wsB (f p) = false ∧ ∀ j, pos ≤ j → j < p → wsB (f j) = true := by
  induction len with
  | zero => exact .inl fun j _ h => absurd h (Nat.not_lt_zero _)
  | succ n ih =>
    rcases ih with h | ⟨p, h1, h2, h3, h4⟩
    · by_cases hp : pos ≤ n
      · by_cases hw : wsB (f n) = true
        · refine .inl fun j a b => ?_
          by_cases e : j = n
          · subst e; exact hw
          · exact h j a (by omega)
        · exact .inr ⟨n, hp, by omega, by simpa using hw, h⟩
      · exact .inl fun j a b => absurd b (by omega)
    · exact .inr ⟨p, h1, by omega, h3, h4⟩

set_option maxHeartbeats 400000 in
theorem law_great (a : Option Addr) (len cap : Nat) (p : Int) (w : World) (h : (1048576 : Int) < (len : Int)) :
    Calls Trym.prog 4 #[.slice a len cap, .int .i64 p] w fun e w' => e = .returned (.bool true) ∧ w' = w := by
  go_enter Trym.func4, Trym.ntmps4
  go_wp2_with (go_at_call 10; refine (bytes_great _ _ _ _ _ h).mono ?_; rintro e w' ⟨rfl, rfl⟩)
  go_ret
  exact ⟨rfl, rfl⟩

set_option maxHeartbeats 400000 in
theorem law_out (a : Option Addr) (len cap : Nat) (p : Int) (w : World) (h : (len : Int) ≤ 1048576) (hp : p < 0 ∨ (len : Int) ≤ p) :
    Calls Trym.prog 4 #[.slice a len cap, .int .i64 p] w fun e w' => e = .returned (.bool true) ∧ w' = w := by
  by_cases hn : p < 0
  · go_enter Trym.func4, Trym.ntmps4
    go_wp2_with (go_at_call 10; refine (bytes_small _ _ _ _ _ h).mono ?_; rintro e w' ⟨rfl, rfl⟩)
    go_ret
    exact ⟨rfl, rfl⟩
  · have h0 : 0 ≤ p := by omega
    have h1 : (len : Int) ≤ p := by omega
    clear hp hn
    go_enter Trym.func4, Trym.ntmps4
    go_wp2_with (go_at_call 10; refine (bytes_small _ _ _ _ _ h).mono ?_; rintro e w' ⟨rfl, rfl⟩)
    go_ret
    exact ⟨rfl, rfl⟩

set_option maxHeartbeats 1000000 in
theorem law_none (b off len cap pos : Nat) (f : Nat → Int) (w : World) (hlen : (len : Int) ≤ 1048576) (hpos : pos < len)
    (hc : ∀ i, i < len → w.cell? ⟨b, off + i, none⟩ = some (.int .u8 (f i))) (hall : ∀ j, pos ≤ j → j < len → wsB (f j) = true) :
    Calls Trym.prog 4 #[.slice (some ⟨b, off, none⟩) len cap, .int .i64 pos] w fun e w' => e = .returned (.bool true) ∧ w' = w := by
  have hp0 : (0 : Int) ≤ (pos : Int) := by omega
  have hp1 : (pos : Int) < (len : Int) := by omega
  have q1 : decide ((pos : Int) < 0) = false := by simp
  have q2 : decide (len ≤ pos) = false := by simp; omega
  have q3 : decide ((1048576 : Int) < (len : Int)) = false := by simp; omega
  go_enter Trym.func4, Trym.ntmps4
  go_wp2_with (go_at_call 10; refine (bytes_small _ _ _ _ _ hlen).mono ?_; rintro e w' ⟨rfl, rfl⟩)
  go_loop [5, 6] (fun t i => ∃ k : Nat, pos ≤ k ∧ k ≤ len ∧ t = .bool false ∧ i = .int .i64 k) (fun _ i => len - (intOf i).toNat)
  case atStart => exact ⟨pos, by omega, by omega, rfl, rfl⟩
  case round =>
    obtain ⟨k, hk1, hk2, rfl, rfl⟩ := hrel
    by_cases hlt : k < len
    · have hcx := hc k hlt
      have hw := hall k hk1 hlt
      go_wp2_with (go_at_call 11; refine (isWS_any _ _).mono ?_; rintro e w' ⟨rfl, rfl⟩)
      go_round
      case rel => exact ⟨k + 1, by omega, by omega, rfl, by go_num⟩
      case measure => simp [intOf]; omega
    · go_wp2
      go_ret
      exact ⟨rfl, rfl⟩

set_option maxHeartbeats 1000000 in
theorem law_some (b off len cap pos p : Nat) (f : Nat → Int) (w : World) (hlen : (len : Int) ≤ 1048576) (hb : b < w.heap.size)
    (hc : ∀ i, i < len → w.cell? ⟨b, off + i, none⟩ = some (.int .u8 (f i))) (hf : ∀ i, i < len → 0 ≤ f i ∧ f i ≤ 255)
    (hpp : pos ≤ p) (hpl : p < len) (hws : ∀ j, pos ≤ j → j < p → wsB (f j) = true) (hnw : wsB (f p) = false) :
    Calls Trym.prog 4 #[.slice (some ⟨b, off, none⟩) len cap, .int .i64 pos] w fun e w' => e = .returned (.bool true) ∧ Below w.heap.size w w' := by
  have hp0 : (0 : Int) ≤ (pos : Int) := by omega
  have hp1 : (pos : Int) < (len : Int) := by omega
  have q1 : decide ((pos : Int) < 0) = false := by simp
  have q2 : decide (len ≤ pos) = false := by simp; omega
  have q3 : decide ((1048576 : Int) < (len : Int)) = false := by simp; omega
  go_enter Trym.func4, Trym.ntmps4
  go_wp2_with (go_at_call 10; refine (bytes_small _ _ _ _ _ hlen).mono ?_; rintro e w' ⟨rfl, rfl⟩)
  go_loop [5, 6] (fun t i => ∃ k : Nat, pos ≤ k ∧ k ≤ p ∧ t = .bool false ∧ i = .int .i64 k) (fun _ i => len - (intOf i).toNat)
  case atStart => exact ⟨pos, by omega, by omega, rfl, rfl⟩
  case round =>
    obtain ⟨k, hk1, hk2, rfl, rfl⟩ := hrel
    by_cases hlt : k < p
    · have hcx := hc k (by omega)
      have hw := hws k hk1 hlt
      go_wp2_with (go_at_call 11; refine (isWS_any _ _).mono ?_; rintro e w' ⟨rfl, rfl⟩)
      go_round
      case rel => exact ⟨k + 1, by omega, by omega, rfl, by go_num⟩
      case measure => simp [intOf]; omega
    · have hkp : k = p := by omega
      subst hkp
      have hcx := hc k hpl
      go_wp2_with (go_at_call 11; refine (isWS_any _ _).mono ?_; rintro e w' ⟨rfl, rfl⟩)
      refine (clone_any b off len cap f _ hlen hb hc).mono ?_
      rintro e w1 ⟨rfl, hc1, hb1, hs1⟩
      go_wp2_with fail
      refine (zznext_any w.heap.size 0 len len pos k f _ hlen hs1 (fun i hi => by rw [Nat.zero_add]; exact hc1 i hi) hf hpp hpl hws hnw).mono ?_
      rintro e w2 ⟨rfl, hb2⟩
      have hcell2 : w2.cell? ⟨w.heap.size, k, none⟩ = some (.int .u8 (f k)) := (hb2.cell (by exact hs1)).trans (hc1 k hpl)
      have r1 : decide (k < pos) = false := by simp; omega
      have r2 : decide (len ≤ k) = false := by simp; omega
      have hall2 : ∀ j, pos ≤ j → j < k → w2.cell? ⟨w.heap.size, j, none⟩ = some (.int .u8 (f j)) ∧ wsB (f j) = true := fun j h1 h2 => ⟨(hb2.cell (by exact hs1)).trans (hc1 j (by omega)), hws j h1 h2⟩
      have HB : Hid (Below w.heap.size w w2) := hb1.trans (hb2.mono (by omega))
      clear hc hc1 hb1 hb2 hws hcx
      go_wp2_with (go_at_call 11; refine (isWS_any _ _).mono ?_; rintro e w' ⟨rfl, rfl⟩)
      go_loop [9] (fun i => ∃ j : Nat, pos ≤ j ∧ j ≤ k ∧ i = .int .i64 j) (fun i => len - (intOf i).toNat)
      case atStart => exact ⟨pos, by omega, by omega, rfl⟩
      case round =>
        obtain ⟨j, hj1, hj2, rfl⟩ := hrel
        by_cases hjt : j < k
        · obtain ⟨hcj, hwj⟩ := hall2 j hj1 hjt
          go_wp2_with (go_at_call 11; refine (isWS_any _ _).mono ?_; rintro e w' ⟨rfl, rfl⟩)
          go_round
          case rel => exact ⟨j + 1, by omega, by omega, by go_num⟩
          case measure => simp [intOf]; omega
        · go_wp2
          go_ret
          exact ⟨rfl, HB.out⟩

end Go.Proofs.Qxb6603728aMods
