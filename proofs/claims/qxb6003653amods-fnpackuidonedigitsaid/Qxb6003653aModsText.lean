/-
  Seat b6003653aM: zzUIDText by its contract.
-/
import Derived.Test.Qxb6003653aModsPack
import Derived.Laws.IdiomStrings
namespace Go.Proofs.Qxb6003653aMods
open Go.RowKit

/-- What round n adds to the text. -/
def chunk (nb : Nat → Nat) (n : Nat) : List UInt8 := (if n = 4 ∨ n = 6 ∨ n = 8 ∨ n = 10 then [45] else []) ++ [hexD (nb (2 * n)), hexD (nb (2 * n + 1))]
/-- The text behind n rounds. -/
def textTo (nb : Nat → Nat) : Nat → List UInt8
  | 0 => []
  | n + 1 => textTo nb n ++ chunk nb n

theorem textTo_all (nb : Nat → Nat) : textTo nb 16 = text nb := by kernel_rfl

theorem chunk_le (nb : Nat → Nat) (n : Nat) : (chunk nb n).length ≤ 3 := by unfold chunk; split <;> simp
theorem textTo_le (nb : Nat → Nat) (n : Nat) : (textTo nb n).length ≤ 3 * n := by
  induction n with
  | zero => simp [textTo]
  | succ n ih =>
    rw [textTo, List.length_append]
    have := chunk_le nb n
    omega

/-- Bytes as cells. -/
def bc (l : List UInt8) : List Value := l.map fun b => Value.int .u8 b.toNat
theorem bc_append (a b : List UInt8) : bc (a ++ b) = bc a ++ bc b := by simp [bc]

theorem Trym.info5 : (Trym.prog.info? 5).map (fun i => (i.zero, i.size, i.bytes)) = some (some (.int .u8 0), 1, 1) := by kernel_rfl

theorem own_block {B : Nat} {w : World} {v : Value} {n : Nat} {xs : List Value} (h : w.ownsRow B 5 1 v n xs) : ∀ k, v.ownBlock = some k → B ≤ k := by
  intro k hk
  rcases h.2 with ⟨rfl, _⟩ | ⟨g, cap, cur, rfl, hg, _⟩
  · simp [Value.ownBlock] at hk
  · simp [Value.ownBlock] at hk; omega

theorem own_out {B : Nat} {w : World} {v : Value} {l : List UInt8} (h : w.ownsRow B 5 1 v l.length (bc l)) (hv : ¬ v = .slice none 0 0) :
    ∃ g cap, v = .slice (some ⟨g, 0, none⟩) l.length cap ∧ ∀ j (hj : j < l.length), w.cell? ((⟨g, 0, none⟩ : Addr).add j) = some (.int .u8 (l[j].toNat : Int)) := by
  have h' := h
  rcases h.2 with ⟨h1, _⟩ | ⟨g, cap, cur, rfl, _, hg, _⟩
  · exact absurd h1 hv
  · refine ⟨g, cap, rfl, fun j hj => ?_⟩
    have hc := h'.cellAt j (by omega)
    have e : (⟨g, 0, none⟩ : Addr).add j = ⟨g, j, none⟩ := by
      by_cases hj0 : j = 0
      · subst hj0; rfl
      · simp [Addr.add, hj0]
    rw [e, hc, bc, List.getElem?_map, List.getElem?_eq_getElem hj]
    rfl

theorem and15 : ∀ x : Nat, x < 256 → bits BinOp.and IntKind.u8 (x : Int) 15 = ((x % 16 : Nat) : Int) := by decide +kernel
theorem hex_get : ∀ v : Nat, (h : v < 16) → ((Hex[v]'h).toNat) = (hexD v).toNat := by decide +kernel

/-- Behind an append of one element to what is owned: nothing below the base has turned. -/
theorem app_below {B k : Nat} {wr w1 : World} {v : Value} {ys : List Value} {o : Obj} (hown : wr.ownsRow B 5 1 v k ys) (hB : B ≤ wr.heap.size) (hg : (wr.alloc o).grownBy w1 v.ownBlock) : Below B wr w1 :=
  ((Below.refl _ _).alloc hB _).grown hg (by simp; omega) (own_block hown)

theorem own_dash {B : Nat} {w : World} {v : Value} {l : List UInt8} (h : w.ownsRow B 5 1 v (l.length + 1) (bc l ++ [.int .u8 45])) : w.ownsRow B 5 1 v (l ++ [45]).length (bc (l ++ [45])) := by
  rw [bc_append, List.length_append]
  exact h

/-- What a round hands on. -/
theorem text_end {B : Nat} {W0 w1 w2 : World} {v v1 v2 : Value} {L0 : List UInt8} {nb : Nat → Nat} {n a1 a2 : Nat} (e : textTo nb (n + 1) = L0 ++ [hexD (nb (2 * n))] ++ [hexD (nb (2 * n + 1))])
    (h1 : a1 = (hexD (nb (2 * n))).toNat) (h2 : a2 = (hexD (nb (2 * n + 1))).toNat) (hn : n < 16) (hv : ¬ v = .slice none 0 0)
    (hb : Below B W0 w1) (hs1 : B ≤ w1.heap.size) (hn1 : v1 = .slice none 0 0 ↔ v = .slice none 0 0 ∧ 1 = 0)
    (ho1 : w1.ownsRow B 5 1 v1 (L0.length + 1) (bc L0 ++ [.int .u8 (a1 : Int)]))
    (ho2 : w2.ownsRow B 5 1 v2 (L0.length + 1 + 1) (bc L0 ++ [.int .u8 (a1 : Int)] ++ [.int .u8 (a2 : Int)])) (hg2 : (w1.alloc (.cells #[.int .u8 (a2 : Int)] 5)).grownBy w2 v1.ownBlock)
    (hn2 : v2 = .slice none 0 0 ↔ v1 = .slice none 0 0 ∧ 1 = 0) :
    ∃ n' : Nat, n' ≤ 16 ∧ Value.int .i64 ((n : Int) + 1) = .int .i64 n' ∧ w2.ownsRow B 5 1 v2 (textTo nb n').length (bc (textTo nb n')) ∧ (¬ v2 = .slice none 0 0) ∧ Below B W0 w2 := by
  refine ⟨n + 1, by omega, by go_num, ?_, fun h => hv (hn1.1 (hn2.1 h).1).1, hb.trans (app_below ho1 hs1 hg2)⟩
  rw [e, bc_append, bc_append, List.length_append, List.length_append]
  rw [h1, h2] at ho2
  exact ho2

set_option maxHeartbeats 2000000 in
theorem text_any (xs : List UInt8) (hx : xs.length = 16) (w : World) :
    Calls Trym.prog 10 #[.agg (rowV xs)] w fun e w' => e = .returned (.string ⟨(text (nib xs)).toArray⟩) ∧ Below w.heap.size w w' := by
  obtain ⟨i0, hi, hz0, hz1, hz2⟩ := info_parts Trym.info5
  go_enter Trym.func10, Trym.ntmps10
  go_wp2_with (at_make; refine wpList_make_own _ rfl _ _ 28 rfl (w.heap.size + 1) 5 i0 (.int .u8 0) 1 Trym.underlying28 hi hz0 hz1 .i64 .i64 _ 36 rfl rfl rfl (by rw [hz2]; omega) (by unfold maxLen; omega) (by simp) ?_; intro w0 hown0 hgrow0)
  go_loopw [3, 4] (fun v i wr => ∃ n : Nat, n ≤ 16 ∧ i = .int .i64 n ∧ wr.ownsRow (w.heap.size + 1) 5 1 v (textTo (nib xs) n).length (bc (textTo (nib xs) n)) ∧ (¬ v = .slice none 0 0) ∧ Below (w.heap.size + 1) (w.alloc (.cells (rowV xs) 23)) wr) (fun _ i _ => 16 - (intOf i).toNat)
  case atStart =>
    have hown0' : w0.ownsRow (w.heap.size + 1) 5 1 (.slice (some ⟨w.heap.size + 1, 0, none⟩) 0 36) 0 [] := by simpa using hown0
    exact ⟨0, Nat.zero_le _, rfl, hown0', by simp, (Below.refl _ _).grown hgrow0 (by simp) (by intro k h; cases h)⟩
  case round =>
    obtain ⟨n, hn, rfl, hown, hv, hbel⟩ := hrel
    clear hown0 hgrow0
    by_cases hlt : n < 16
    · obtain ⟨x, hxn⟩ : ∃ x, x = (xs.getD n 0).toNat := ⟨_, rfl⟩
      have hc0 : (w.alloc (.cells (rowV xs) 23)).cell? ⟨w.heap.size, n, none⟩ = some (.int .u8 (x : Int)) := by
        rw [cell_of_row _ _ _ _ 23 (0, 0) (heap_alloc_new w _), hxn]
        apply rowV_get
        simp [List.getD, show n < xs.length by omega]
      have hc := (hbel.cell (p := ⟨w.heap.size, n, none⟩) (by simp)).trans hc0
      have hn0 : (0 : Int) ≤ (n : Int) := by omega
      have hn1 : (n : Int) < 16 := by omega
      have hx256 : x < 256 := by rw [hxn]; exact UInt8.toNat_lt _
      have htl := textTo_le (nib xs) n
      have hh : x / 16 < 16 := by omega
      have hl : x % 16 < 16 := by omega
      obtain ⟨a1, ha1⟩ : ∃ a1, (({ data := #[48, 49, 50, 51, 52, 53, 54, 55, 56, 57, 97, 98, 99, 100, 101, 102] } : ByteArray)[x / 16]'hh).toNat = a1 := ⟨_, rfl⟩
      obtain ⟨a2, ha2⟩ : ∃ a2, (({ data := #[48, 49, 50, 51, 52, 53, 54, 55, 56, 57, 97, 98, 99, 100, 101, 102] } : ByteArray)[x % 16]'hl).toNat = a2 := ⟨_, rfl⟩
      have hand := and15 x hx256
      have HA1 : Hid (a1 = (hexD (nib xs (2 * n))).toNat) := by
        show a1 = _
        rw [← ha1, nib, if_pos (by omega), show 2 * n / 2 = n by omega, ← hxn]
        exact hex_get _ hh
      have HA2 : Hid (a2 = (hexD (nib xs (2 * n + 1))).toNat) := by
        show a2 = _
        rw [← ha2, nib, if_neg (by omega), show (2 * n + 1) / 2 = n by omega, ← hxn]
        exact hex_get _ hl
      have HC0 : Hid ((w.alloc (.cells (rowV xs) 23)).cell? ⟨w.heap.size, n, none⟩ = some (.int .u8 (x : Int))) := hc0
      have hBs : w.heap.size + 1 ≤ wr.heap.size := by have := hbel.size; simpa using this
      clear hxn hc0
      by_cases hd : n = 4 ∨ n = 6 ∨ n = 8 ∨ n = 10
      · have HE : Hid (textTo (nib xs) (n + 1) = (textTo (nib xs) n ++ [45]) ++ [hexD (nib xs (2 * n))] ++ [hexD (nib xs (2 * n + 1))]) := by
          show textTo (nib xs) (n + 1) = _
          rw [textTo, chunk, if_pos hd]; simp
        obtain ⟨L, hL⟩ : ∃ L, L = textTo (nib xs) n := ⟨_, rfl⟩
        rw [← hL] at hown htl HE
        have hown' := hown.alloc (.cells #[.int .u8 45] 5)
        have hB' : w.heap.size + 1 ≤ (wr.alloc (.cells #[.int .u8 45] 5)).heap.size := by simp; omega
        clear hL
        rcases hd with rfl | rfl | rfl | rfl
        all_goals
          go_wp2_with (first | (at_builtin; refine wpList_append_own _ rfl (.tmp 24) (.tmp 25) 28 rfl (w.heap.size + 1) 5 i0 (.int .u8 0) 1 1 Trym.underlying28 hi hz0 hz1 hz2 rfl (by decide) _ L.length (bc L) rfl hown' ⟨wr.heap.size, 0, none⟩ 1 1 [.int .u8 45] rfl rfl (cell_one_new _ _ _) (by intro u hu; simp at hu; subst hu; rfl) (by unfold maxLen; omega) (by omega) hB' ?_; intro v0 w9 hown9 hgrow9 hnil9; have hb9 := app_below hown hBs hgrow9; have hc9 := (hb9.cell (p := ⟨w.heap.size, _, none⟩) (by simp)).trans hc; have ho9 := own_dash hown9; have ho9' := ho9.alloc (.cells #[.int .u8 (a1 : Int)] 5); have hs9 : w.heap.size + 1 ≤ w9.heap.size := Nat.le_trans hBs hb9.size; have hs9' : w.heap.size + 1 ≤ (w9.alloc (.cells #[.int .u8 (a1 : Int)] 5)).heap.size := (by simp; omega); have hl9 : (L ++ [(45 : UInt8)]).length ≤ 60 := (by simp; omega)) | (at_builtin; refine wpList_append_own _ rfl (.tmp 27) (.tmp 33) 28 rfl (w.heap.size + 1) 5 i0 (.int .u8 0) 1 1 Trym.underlying28 hi hz0 hz1 hz2 rfl (by decide) v0 _ _ rfl ho9' ⟨w9.heap.size, 0, none⟩ 1 1 [.int .u8 (a1 : Int)] rfl rfl (cell_one_new _ _ _) (by intro u hu; simp at hu; subst hu; rfl) (by unfold maxLen; omega) (by omega) hs9' ?_; intro v1 w1 hown1 hgrow1 hnil1; have hb1 := app_below ho9 hs9 hgrow1; have hc1 := (hb1.cell (p := ⟨w.heap.size, _, none⟩) (by simp)).trans hc9; have hown1' := hown1.alloc (.cells #[.int .u8 (a2 : Int)] 5); have hs1 : w.heap.size + 1 ≤ w1.heap.size := Nat.le_trans hs9 hb1.size; have hs1' : w.heap.size + 1 ≤ (w1.alloc (.cells #[.int .u8 (a2 : Int)] 5)).heap.size := (by simp; omega)) | (at_builtin; refine wpList_append_own _ rfl (.tmp 35) (.tmp 41) 28 rfl (w.heap.size + 1) 5 i0 (.int .u8 0) 1 1 Trym.underlying28 hi hz0 hz1 hz2 rfl (by decide) v1 _ _ rfl hown1' ⟨w1.heap.size, 0, none⟩ 1 1 [.int .u8 (a2 : Int)] rfl rfl (cell_one_new _ _ _) (by intro u hu; simp at hu; subst hu; rfl) (by unfold maxLen; omega) (by omega) hs1' ?_; intro v2 w2 hown2 hgrow2 hnil2))
          have HR := text_end HE.out HA1.out HA2.out (by omega) (fun h => hv (hnil9.1 h).1) (hbel.trans (hb9.trans hb1)) hs1 hnil1 hown1 hown2 hgrow2 hnil2
          go_roundw
          case rel => exact HR
          case measure => simp [intOf]
      · have q1 : ((n : Int) == 4) = false := by simp; omega
        have q2 : ((n : Int) == 6) = false := by simp; omega
        have q3 : ((n : Int) == 8) = false := by simp; omega
        have q4 : ((n : Int) == 10) = false := by simp; omega
        have HE : Hid (textTo (nib xs) (n + 1) = textTo (nib xs) n ++ [hexD (nib xs (2 * n))] ++ [hexD (nib xs (2 * n + 1))]) := by
          show textTo (nib xs) (n + 1) = _
          rw [textTo, chunk, if_neg hd]; simp
        obtain ⟨L, hL⟩ : ∃ L, L = textTo (nib xs) n := ⟨_, rfl⟩
        rw [← hL] at hown htl HE
        have hown' := hown.alloc (.cells #[.int .u8 (a1 : Int)] 5)
        have hB' : w.heap.size + 1 ≤ (wr.alloc (.cells #[.int .u8 (a1 : Int)] 5)).heap.size := by simp; omega
        clear hL hd
        go_wp2_with (first | (at_builtin; refine wpList_append_own _ rfl (.tmp 27) (.tmp 33) 28 rfl (w.heap.size + 1) 5 i0 (.int .u8 0) 1 1 Trym.underlying28 hi hz0 hz1 hz2 rfl (by decide) _ L.length (bc L) rfl hown' ⟨wr.heap.size, 0, none⟩ 1 1 [.int .u8 (a1 : Int)] rfl rfl (cell_one_new _ _ _) (by intro u hu; simp at hu; subst hu; rfl) (by unfold maxLen; omega) (by omega) hB' ?_; intro v1 w1 hown1 hgrow1 hnil1; have hb1 := app_below hown hBs hgrow1; have hc1 := (hb1.cell (p := ⟨w.heap.size, n, none⟩) (by simp)).trans hc; have hown1' := hown1.alloc (.cells #[.int .u8 (a2 : Int)] 5); have hs1 : w.heap.size + 1 ≤ w1.heap.size := Nat.le_trans hBs hb1.size; have hs1' : w.heap.size + 1 ≤ (w1.alloc (.cells #[.int .u8 (a2 : Int)] 5)).heap.size := (by simp; omega)) | (at_builtin; refine wpList_append_own _ rfl (.tmp 35) (.tmp 41) 28 rfl (w.heap.size + 1) 5 i0 (.int .u8 0) 1 1 Trym.underlying28 hi hz0 hz1 hz2 rfl (by decide) v1 _ _ rfl hown1' ⟨w1.heap.size, 0, none⟩ 1 1 [.int .u8 (a2 : Int)] rfl rfl (cell_one_new _ _ _) (by intro u hu; simp at hu; subst hu; rfl) (by unfold maxLen; omega) (by omega) hs1' ?_; intro v2 w2 hown2 hgrow2 hnil2))
        have HR := text_end HE.out HA1.out HA2.out hlt hv (hbel.trans hb1) hs1 hnil1 hown1 hown2 hgrow2 hnil2
        go_roundw
        case rel => exact HR
        case measure => simp [intOf]; omega
    · have hn16 : n = 16 := by omega
      subst hn16
      rw [textTo_all] at hown
      obtain ⟨g, cap, rfl, hcells⟩ := own_out hown hv
      have hconv := run_convert_bytes_back (P := Trym.prog) wr 28 9 5 ⟨g, 0, none⟩ cap (text (nib xs)) Trym.underlying28 Trym.underlying5 Trym.underlying9 hcells
      have HB : Hid (Below w.heap.size w wr) := ((Below.refl _ _).alloc (Nat.le_refl _) _).trans (hbel.mono (by simp))
      clear hown hv hcells hbel
      go_wp2
      go_ret
      exact ⟨rfl, HB.out⟩
end Go.Proofs.Qxb6003653aMods
