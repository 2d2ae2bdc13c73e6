/-
  Seat b6603728aM: apiB1Clone by its contract.
-/
import Derived.Test.Qxb6603728aModsBase
namespace Go.Proofs.Qxb6603728aMods
open Go.RowKit

theorem Trym.info5 : (Trym.prog.info? 5).map (fun i => (i.zero, i.size, i.bytes)) = some (some (.int .u8 0), 1, 1) := by kernel_rfl

/-- Behind k rounds: the first k cells of the row hold f. -/
def Copied (f : Nat → Int) (k : Nat) (xs : List Value) : Prop := ∀ j, j < k → xs[j]? = some (.int .u8 (f j))

theorem Copied.zero (f : Nat → Int) (xs : List Value) : Copied f 0 xs := fun _ h => absurd h (Nat.not_lt_zero _)
theorem Copied.succ {f : Nat → Int} {k : Nat} {xs : List Value} (h : Copied f k xs) (hk : k < xs.length) : Copied f (k + 1) (xs.set k (.int .u8 (f k))) := by
  intro j hj
  by_cases e : j = k
  · subst e; simp [hk]
  · rw [List.getElem?_set_ne (by omega)]; exact h j (by omega)

/-- What a round leaves. -/
theorem clone_step {B len k : Nat} {f : Nat → Int} {w wr : World} {xs : List Value} (hk : k < len)
    (hown : wr.ownsRow B 5 1 (.slice (some ⟨B, 0, none⟩) len len) len xs) (hc : Copied f k xs) (hb : Below B w wr) :
    ∃ xs', (wr.setCell ⟨B, k, none⟩ (.int .u8 (f k))).ownsRow B 5 1 (.slice (some ⟨B, 0, none⟩) len len) len xs' ∧ Copied f (k + 1) xs' ∧ Below B w (wr.setCell ⟨B, k, none⟩ (.int .u8 (f k))) := by
  have hl : xs.length = len := by simpa using hown.1
  exact ⟨_, (hown.stored k _).1, hc.succ (by omega), hb.setCell (Nat.le_refl _) _⟩

theorem cell_isSome {B len k : Nat} {wr : World} {xs : List Value} (hk : k < len) (hown : wr.ownsRow B 5 1 (.slice (some ⟨B, 0, none⟩) len len) len xs) : ∃ v, wr.cell? ⟨B, k, none⟩ = some v := by
  have hl : xs.length = len := by simpa using hown.1
  have h := hown.cellAt k (by omega)
  rw [List.getElem?_eq_getElem (by omega)] at h
  exact ⟨_, h⟩

theorem own_size {B len : Nat} {wr : World} {xs : List Value} (hown : wr.ownsRow B 5 1 (.slice (some ⟨B, 0, none⟩) len len) len xs) : B < wr.heap.size := by
  rcases hown.2 with ⟨h', _⟩ | ⟨g', cap', cur, h', _, hg, _⟩
  · simp at h'
  · simp only [Value.slice.injEq, Option.some.injEq, Addr.mk.injEq, and_true, true_and] at h'
    obtain ⟨rfl, rfl⟩ := h'
    exact (Array.getElem?_eq_some_iff.1 hg).1

set_option maxHeartbeats 1000000 in
theorem clone_any (b off len cap : Nat) (f : Nat → Int) (w : World) (hlen : (len : Int) ≤ 1048576) (hb : b < w.heap.size)
    (hc : ∀ i, i < len → w.cell? ⟨b, off + i, none⟩ = some (.int .u8 (f i))) :
    Calls Trym.prog 12 #[.slice (some ⟨b, off, none⟩) len cap] w fun e w' => e = .returned (.slice (some ⟨w.heap.size, 0, none⟩) len len) ∧
      (∀ i, i < len → w'.cell? ⟨w.heap.size, i, none⟩ = some (.int .u8 (f i))) ∧ Below w.heap.size w w' ∧ w.heap.size < w'.heap.size := by
  obtain ⟨i0, hi, hz0, hz1, hz2⟩ := info_parts Trym.info5
  have heq := fun wx => Lib.run_eql_slice_nil (P := Trym.prog) wx 23 5 (some ⟨b, off, none⟩) len cap 0 0 Trym.underlying23
  go_enter Trym.func12, Trym.ntmps12
  go_wp2_with (at_make; refine wpList_make_full _ rfl _ _ 23 rfl w.heap.size 5 i0 (.int .u8 0) 1 Trym.underlying23 hi hz0 hz1 .i64 .i64 _ _ len rfl rfl rfl rfl (by rw [hz2]; omega) (by unfold maxLen; omega) (Nat.le_refl _) ?_; intro w0 hown0 hgrow0)
  go_loopw [4] (fun i wr => ∃ k : Nat, k ≤ len ∧ i = .int .i64 k ∧ ∃ xs, wr.ownsRow w.heap.size 5 1 (.slice (some ⟨w.heap.size, 0, none⟩) len len) len xs ∧ Copied f k xs ∧ Below w.heap.size w wr) (fun i _ => len - (intOf i).toNat)
  case atStart => exact ⟨0, Nat.zero_le _, rfl, _, hown0, Copied.zero _ _, (Below.refl _ _).grown hgrow0 (Nat.le_refl _) (by intro k h; cases h)⟩
  case round =>
    obtain ⟨k, hk, rfl, xs, hown, hcp, hbel⟩ := hrel
    by_cases hlt : k < len
    · have hcx : wr.cell? ⟨b, off + k, none⟩ = some (.int .u8 (f k)) := (hbel.cell (by exact hb)).trans (hc k hlt)
      obtain ⟨v, hv⟩ := cell_isSome hlt hown
      have hfz := hown.frozenAt k
      have HR := clone_step hlt hown hcp hbel
      clear hown hcp hbel hown0 hgrow0
      go_wp2
      go_roundw
      case rel => exact ⟨k + 1, by omega, by go_num, HR⟩
      case measure => simp [intOf]; omega
    · have hkl : k = len := by omega
      subst hkl
      have HR : (∀ i, i < k → wr.cell? ⟨w.heap.size, i, none⟩ = some (.int .u8 (f i))) ∧ Below w.heap.size w wr ∧ w.heap.size < wr.heap.size :=
        ⟨fun i hi => (hown.cellAt i (by omega)).trans (hcp i hi), hbel, own_size hown⟩
      clear hown hcp hbel hown0 hgrow0
      go_wp2
      go_ret
      exact ⟨rfl, HR⟩
end Go.Proofs.Qxb6603728aMods
