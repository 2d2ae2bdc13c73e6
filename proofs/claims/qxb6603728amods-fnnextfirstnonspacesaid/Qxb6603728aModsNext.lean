/-
  Seat b6603728aM: (*memberScanner).next and ZZNext by their contracts.
-/
import Derived.Test.Qxb6603728aModsBase
import Derived.Deep.LoopGhost
import Derived.Deep.QuietTactic
import Derived.BigQuiet
import Derived.WalkSmall
namespace Go.Proofs.Qxb6603728aMods
open Go.RowKit

theorem byte_cases (c : Int) (h0 : 0 ≤ c) (h1 : c ≤ 255) : ∃ n : Nat, n < 256 ∧ c = n := ⟨c.toNat, by omega, by omega⟩

theorem ws_table : ∀ n : Nat, n < 256 → decide (0 ≤ Lib.indexByte [32, 9, 13, 10] (UInt8.ofNat n)) = wsB n := by decide +kernel

theorem ws_yes {c : Int} (h0 : 0 ≤ c) (h1 : c ≤ 255) (h : wsB c = true) : 0 ≤ Lib.indexByte [32, 9, 13, 10] (UInt8.ofNat c.toNat) := by
  obtain ⟨n, hn, rfl⟩ := byte_cases c h0 h1
  have := ws_table n hn
  rw [h] at this
  simpa using this

theorem ws_no {c : Int} (h0 : 0 ≤ c) (h1 : c ≤ 255) (h : wsB c = false) : Lib.indexByte [32, 9, 13, 10] (UInt8.ofNat c.toNat) < 0 := by
  obtain ⟨n, hn, rfl⟩ := byte_cases c h0 h1
  have := ws_table n hn
  rw [h] at this
  simpa using this

theorem next_step {b off len cap sb pos p q : Nat} {w wr : World} (hlt : q < p) (hpq : pos ≤ q) (d0 : wr.cell? ⟨sb, 0, none⟩ = some (.slice (some ⟨b, off, none⟩) len cap)) (d1 : wr.cell? ⟨sb, 1, none⟩ = some (.int .i64 q)) (dz : wr.frozen? ⟨sb, 1, none⟩ = false) (hbel : Below sb w wr) (nq : Nat) :
    ∃ q' : Nat, q' + (p - q - 1) = p ∧ pos ≤ q' ∧ ((wr.drewN nq).setCell ⟨sb, 1, none⟩ (.int .i64 ((q : Int) + 1))).cell? ⟨sb, 0, none⟩ = some (.slice (some ⟨b, off, none⟩) len cap) ∧ ((wr.drewN nq).setCell ⟨sb, 1, none⟩ (.int .i64 ((q : Int) + 1))).cell? ⟨sb, 1, none⟩ = some (.int .i64 q') ∧ ((wr.drewN nq).setCell ⟨sb, 1, none⟩ (.int .i64 ((q : Int) + 1))).frozen? ⟨sb, 1, none⟩ = false ∧ Below sb w ((wr.drewN nq).setCell ⟨sb, 1, none⟩ (.int .i64 ((q : Int) + 1))) := by
  have e1 : (wr.drewN nq).cell? ⟨sb, 1, none⟩ = some (.int .i64 q) := by simpa using d1
  refine ⟨q + 1, by omega, by omega, ?_, ?_, by simpa using dz, (below_drewN hbel _).setCell (Nat.le_refl _) _⟩
  · rw [World.cell?_setCell_other _ _ _ _ (by simp)]; simpa using d0
  · rw [World.cell?_setCell_same _ _ _ e1]; simp

set_option maxHeartbeats 1000000 in
theorem next_any (b off len cap sb pos p : Nat) (f : Nat → Int) (w : World) (hlen : (len : Int) ≤ 1048576) (hb : b < sb)
    (hc : ∀ i, i < len → w.cell? ⟨b, off + i, none⟩ = some (.int .u8 (f i))) (hf : ∀ i, i < len → 0 ≤ f i ∧ f i ≤ 255)
    (c0 : w.cell? ⟨sb, 0, none⟩ = some (.slice (some ⟨b, off, none⟩) len cap)) (c1 : w.cell? ⟨sb, 1, none⟩ = some (.int .i64 pos)) (fz : w.frozen? ⟨sb, 1, none⟩ = false)
    (hpp : pos ≤ p) (hpl : p < len) (hws : ∀ j, pos ≤ j → j < p → wsB (f j) = true) (hnw : wsB (f p) = false) :
    Calls Trym.prog 20 #[.pointer (some ⟨sb, 0, none⟩)] w fun e w' => e = .returned (.int .u8 (f p)) ∧ w'.cell? ⟨sb, 1, none⟩ = some (.int .i64 p) ∧ Below sb w w' := by
  go_enter Trym.func20, Trym.ntmps20
  go_wp2
  go_loopg [] (p - pos) (fun k wr => ∃ q : Nat, q + k = p ∧ pos ≤ q ∧ wr.cell? ⟨sb, 0, none⟩ = some (.slice (some ⟨b, off, none⟩) len cap) ∧ wr.cell? ⟨sb, 1, none⟩ = some (.int .i64 q) ∧ wr.frozen? ⟨sb, 1, none⟩ = false ∧ Below sb w wr)
  case atStart => exact ⟨pos, by omega, by omega, c0, c1, fz, Below.refl _ _⟩
  case round =>
    obtain ⟨q, hq, hpq, d0, d1, dz, hbel⟩ := hrel
    have hql : q < len := by omega
    have hcx : wr.cell? ⟨b, off + q, none⟩ = some (.int .u8 (f q)) := (hbel.cell (by exact hb)).trans (hc q hql)
    have hi1 : (0 : Int) ≤ (q : Int) := by omega
    have hi2 : (q : Int) < (len : Int) := by omega
    have hfq := hf q hql
    by_cases hlt : q < p
    · have hx := ws_yes hfq.1 hfq.2 (hws q hpq hlt)
      clear hws hnw hc c0 c1 fz hf
      go_wp2
      go_quiet ((go_at_call 24; exact Calls.quiet_of_same (indexByte_any _ _ _)))
      go_wp2
      go_roundg (p - q - 1)
      case measure => omega
      case rel => exact next_step hlt hpq d0 d1 dz hbel nq
    · have hqp : q = p := by omega
      subst hqp
      have hx := ws_no hfq.1 hfq.2 hnw
      clear hws hnw hc c0 c1 fz hf
      go_wp2
      go_quiet ((go_at_call 24; exact Calls.quiet_of_same (indexByte_any _ _ _)))
      go_wp2
      go_quiet (fail)
      go_wp2
      go_ret
      exact ⟨rfl, by simpa using d1, below_drewN (below_drewN hbel _) _⟩

set_option maxHeartbeats 1000000 in
theorem zznext_any (b off len cap pos p : Nat) (f : Nat → Int) (w : World) (hlen : (len : Int) ≤ 1048576) (hb : b < w.heap.size)
    (hc : ∀ i, i < len → w.cell? ⟨b, off + i, none⟩ = some (.int .u8 (f i))) (hf : ∀ i, i < len → 0 ≤ f i ∧ f i ≤ 255)
    (hpp : pos ≤ p) (hpl : p < len) (hws : ∀ j, pos ≤ j → j < p → wsB (f j) = true) (hnw : wsB (f p) = false) :
    Calls Trym.prog 13 #[.slice (some ⟨b, off, none⟩) len cap, .int .i64 pos] w fun e w' => e = .returned (.tuple #[.int .u8 (f p), .int .i64 p]) ∧ Below w.heap.size w w' := by
  go_enter Trym.func13, Trym.ntmps13
  go_wp2_with fail
  refine (next_any b off len cap w.heap.size pos p f _ hlen hb ?_ hf ?_ ?_ ?_ hpp hpl hws hnw).mono ?_
  · intro i hi
    rw [World.cell?_alloc_lt _ _ _ (by exact hb)]
    exact hc i hi
  · simp
  · simp
  · simp
  · rintro e w' ⟨rfl, hp1, hbel⟩
    go_wp2
    go_quiet (fail)
    go_wp2
    go_ret2
    exact ⟨rfl, below_drewN (((Below.refl _ _).alloc (Nat.le_refl _) _).trans hbel) _⟩
end Go.Proofs.Qxb6603728aMods
