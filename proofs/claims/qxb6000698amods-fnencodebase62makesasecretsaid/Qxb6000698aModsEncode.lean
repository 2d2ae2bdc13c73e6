/-
  Seat b6000698aM: encodeBase62, ZZencodeBase62: 43 digits of the alphabet come out, whatever the 32 bytes.
-/
import Derived.Test.Qxb6000698aModsBase
import Derived.Laws.IdiomStrings
import Derived.Laws.Rows
import Derived.OpenShut
namespace Go.Proofs.Qxb6000698aMods
open Go.RowKit

/-- A row of n bytes. -/
def ByteRow (n : Nat) (cs : Array Value) : Prop := cs.size = n ∧ ∀ i, i < n → ∃ x : Int, cs[i]? = some (.int .u8 x) ∧ 0 ≤ x ∧ x ≤ 255

theorem ByteRow.set {n k : Nat} {cs : Array Value} (h : ByteRow n cs) (y : Int) (h0 : 0 ≤ y) (h1 : y ≤ 255) : ByteRow n (cs.setIfInBounds k (.int .u8 y)) := by
  refine ⟨by simpa using h.1, fun i hi => ?_⟩
  by_cases e : k = i
  · subst e
    exact ⟨y, by rw [Array.getElem?_setIfInBounds_self_of_lt (by rw [h.1]; exact hi)], h0, h1⟩
  · obtain ⟨x, hx, b⟩ := h.2 i hi
    exact ⟨x, by rw [Array.getElem?_setIfInBounds_ne e]; exact hx, b⟩

/-- The world in the midst of the call: the bytes' box, the digits' block (from n on digits of the alphabet), nothing old has turned. -/
def St (w : World) (n : Nat) (wr : World) : Prop := ∃ cb cd : Array Value, wr.heap[w.heap.size]? = some (.cells cb 52 (0, 0)) ∧ ByteRow 32 cb ∧ wr.heap[w.heap.size + 1]? = some (.cells cd 67 (0, 0)) ∧ ByteRow 43 cd ∧
  (∀ j, n ≤ j → j < 43 → ∃ x : Int, cd[j]? = some (.int .u8 x) ∧ In62 x) ∧ Below w.heap.size w wr

theorem St.start {w : World} {cs cd : Array Value} (h : ByteRow 32 cs) (h2 : ByteRow 43 cd) : St w 43 ((w.alloc (.cells cs 52)).alloc (.cells cd 67)) :=
  ⟨cs, cd, heap_alloc2_old w _ _, h, heap_alloc2_new w _ _, h2, fun j h1 h2 => absurd h2 (by omega), ((Below.refl _ _).alloc (Nat.le_refl _) _).alloc (by simp) _⟩

theorem St.cellB {w wr : World} {n k : Nat} (h : St w n wr) (hk : k < 32) : ∃ x : Int, wr.cell? ⟨w.heap.size, k, none⟩ = some (.int .u8 x) ∧ 0 ≤ x ∧ x ≤ 255 := by
  obtain ⟨cb, cd, h1, h2, _⟩ := h
  obtain ⟨x, hx, b⟩ := h2.2 k hk
  exact ⟨x, by rw [cell_of_row wr _ _ cb 52 _ h1]; exact hx, b⟩

theorem St.cellD {w wr : World} {n k : Nat} (h : St w n wr) (hk : k < 43) : ∃ x : Int, wr.cell? ⟨w.heap.size + 1, k, none⟩ = some (.int .u8 x) := by
  obtain ⟨cb, cd, _, _, h1, h2, _⟩ := h
  obtain ⟨x, hx, b⟩ := h2.2 k hk
  exact ⟨x, by rw [cell_of_row wr _ _ cd 67 _ h1]; exact hx⟩

theorem St.frozenB {w wr : World} {n : Nat} (h : St w n wr) (k : Nat) : wr.frozen? ⟨w.heap.size, k, none⟩ = false := by
  obtain ⟨cb, cd, h1, _⟩ := h
  exact frozen_of_row wr _ _ cb 52 h1

theorem St.frozenD {w wr : World} {n : Nat} (h : St w n wr) (k : Nat) : wr.frozen? ⟨w.heap.size + 1, k, none⟩ = false := by
  obtain ⟨cb, cd, _, _, h1, _⟩ := h
  exact frozen_of_row wr _ _ cd 67 h1

theorem St.storeB {w wr : World} {n k : Nat} (h : St w n wr) (y : Int) (h0 : 0 ≤ y) (h1 : y ≤ 255) : St w n (wr.setCell ⟨w.heap.size, k, none⟩ (.int .u8 y)) := by
  obtain ⟨cb, cd, a1, a2, a3, a4, a5, a6⟩ := h
  exact ⟨_, cd, heap_setCell_same wr _ k cb 52 _ a1, a2.set y h0 h1, by rw [heap_setCell_other _ _ _ _ (by simp)]; exact a3, a4, a5, a6.setCell (Nat.le_refl _) _⟩

theorem St.storeD {w wr : World} {m : Nat} (h : St w (m + 1) wr) (hm : m < 43) (y : Int) (h0 : 0 ≤ y) (h1 : y ≤ 255) (hy : In62 y) : St w m (wr.setCell ⟨w.heap.size + 1, m, none⟩ (.int .u8 y)) := by
  obtain ⟨cb, cd, a1, a2, a3, a4, a5, a6⟩ := h
  refine ⟨cb, _, by rw [heap_setCell_other _ _ _ _ (by simp)]; exact a1, a2, heap_setCell_same wr _ m cd 67 _ a3, a4.set y h0 h1, fun j h2 h3 => ?_, a6.setCell (by simp) _⟩
  by_cases e : m = j
  · subst e
    exact ⟨y, by rw [Array.getElem?_setIfInBounds_self_of_lt (by rw [a4.1]; exact hm)], hy⟩
  · rw [Array.getElem?_setIfInBounds_ne e]
    exact a5 j (by omega) h3

theorem zeros43 : ByteRow 43 (Array.replicate 43 (.int .u8 0)) := by
  refine ⟨by simp, fun i hi => ⟨0, by simp [hi], by omega, by omega⟩⟩

theorem or_nonneg (a b : Int) : 0 ≤ bits BinOp.or IntKind.u64 a b := (bounds_u64 (wf_bits _ _ _ _)).1

theorem round_inner {w wr : World} {n k : Nat} (h : St w n wr) (hk : k < 32) (a b : Int) :
    ∃ k' : Nat, k' ≤ 32 ∧ Value.int .i64 ((k : Int) + 1) = .int .i64 k' ∧ ∃ q : Int, Value.int .u64 ((bits BinOp.or IntKind.u64 a b).tmod 62) = .int .u64 q ∧ 0 ≤ q ∧ q < 62 ∧
      St w n (wr.setCell ⟨w.heap.size, k, none⟩ (.int .u8 (IntKind.u64.wrap ((bits BinOp.or IntKind.u64 a b).tdiv 62) % 256))) := by
  have h0 := or_nonneg a b
  refine ⟨k + 1, by omega, by go_num, _, rfl, Int.tmod_nonneg _ h0, Int.tmod_lt_of_pos _ (by omega), h.storeB _ (by omega) (by omega)⟩

theorem digit62 : ∀ r : Nat, (h : r < 62) → In62 ((B62[r]'h).toNat : Int) := by
  unfold In62
  decide +kernel

theorem round_outer {w wr : World} {m : Nat} (h : St w (m + 1) wr) (hm : m < 43) (r : Nat) (hr : r < 62) :
    (∃ m' : Nat, m' < 43 ∧ Value.int .i64 ((m : Int) - 1) = .int .i64 m' ∧ St w (m' + 1) (wr.setCell ⟨w.heap.size + 1, m, none⟩ (.int .u8 ((B62[r]'hr).toNat : Int)))) ∨
      (Value.int .i64 ((m : Int) - 1) = .int .i64 (-1) ∧ St w 0 (wr.setCell ⟨w.heap.size + 1, m, none⟩ (.int .u8 ((B62[r]'hr).toNat : Int)))) := by
  have hlt := UInt8.toNat_lt (B62[r]'hr)
  have hs := h.storeD hm ((B62[r]'hr).toNat : Int) (by omega) (by omega) (digit62 r hr)
  cases m with
  | zero => exact .inr ⟨by simp, hs⟩
  | succ m => exact .inl ⟨m, by omega, by simp, hs⟩

/-- The digits at the end, as bytes. -/
theorem St.bytes {w wr : World} (h : St w 0 wr) : ∃ l : List UInt8, l.length = 43 ∧ (∀ j (hj : j < l.length), wr.cell? ((⟨w.heap.size + 1, 0, none⟩ : Addr).add j) = some (.int .u8 (l[j].toNat : Int))) ∧ (∀ j (hj : j < l.length), In62 (l[j].toNat : Int)) := by
  obtain ⟨cb, cd, _, _, h1, h2, h3, _⟩ := h
  have key : ∀ j (hj : j < (cd.toList.map fun v => UInt8.ofNat (intOf v).toNat).length), ∃ x : Int, cd[j]? = some (.int .u8 x) ∧ ((cd.toList.map fun v => UInt8.ofNat (intOf v).toNat)[j].toNat : Int) = x := by
    intro j hj
    have hj43 : j < 43 := by simpa [h2.1] using hj
    obtain ⟨x, hx, x0, x1⟩ := h2.2 j hj43
    refine ⟨x, hx, ?_⟩
    have hjc : j < cd.size := by rw [h2.1]; exact hj43
    rw [Array.getElem?_eq_getElem hjc] at hx
    simp only [Option.some.injEq] at hx
    simp only [List.getElem_map, Array.getElem_toList, hx, intOf]
    rw [UInt8.toNat_ofNat']
    omega
  refine ⟨cd.toList.map fun v => UInt8.ofNat (intOf v).toNat, by simp [h2.1], fun j hj => ?_, fun j hj => ?_⟩
  · obtain ⟨x, hx, e⟩ := key j hj
    have ea : (⟨w.heap.size + 1, 0, none⟩ : Addr).add j = ⟨w.heap.size + 1, j, none⟩ := by
      by_cases hj0 : j = 0
      · subst hj0; rfl
      · simp [Addr.add, hj0]
    rw [ea, cell_of_row wr _ _ cd 67 _ h1, hx, e]
  · obtain ⟨x, hx, e⟩ := key j hj
    obtain ⟨y, hy, hin⟩ := h3 j (Nat.zero_le _) (by simpa [h2.1] using hj)
    rw [hx] at hy
    simp only [Option.some.injEq, Value.int.injEq, true_and] at hy
    rw [e, hy]
    exact hin

set_option maxHeartbeats 1000000 in
theorem encode_any (cs : Array Value) (w : World) (hb : ByteRow 32 cs) :
    Calls Trym.prog 35 #[.agg cs] w fun e w' => ∃ d : ByteArray, e = .returned (.string d) ∧ d.size = 43 ∧ (∀ j (hj : j < d.size), In62 (d[j].toNat : Int)) ∧ Below w.heap.size w w' := by
  have hst : St w 43 ((w.alloc (.cells cs 52)).alloc (.cells (Array.replicate 43 (.int .u8 0)) 67)) := St.start hb zeros43
  clear hb
  go_enter Trym.func35, Trym.ntmps35
  go_wp2
  go_loopw [4] (fun i wr => (∃ m : Nat, m < 43 ∧ i = .int .i64 m ∧ St w (m + 1) wr) ∨ (i = .int .i64 (-1) ∧ St w 0 wr)) (fun i _ => (intOf i + 1).toNat)
  case atStart => exact .inl ⟨42, by omega, rfl, hst⟩
  case round =>
    clear hst
    rcases hrel with ⟨m, hm, rfl, hs⟩ | ⟨rfl, hs⟩
    · have hm0 : (0 : Int) ≤ (m : Int) := by omega
      have hm1 : (m : Int) < 43 := by omega
      go_wp2
      go_loopw [12, 5] (fun j r wr2 => ∃ k : Nat, k ≤ 32 ∧ j = .int .i64 k ∧ ∃ q : Int, r = .int .u64 q ∧ 0 ≤ q ∧ q < 62 ∧ St w (m + 1) wr2) (fun j _ _ => 32 - (intOf j).toNat)
      case atStart => exact ⟨0, Nat.zero_le _, rfl, 0, rfl, by omega, by omega, hs⟩
      case round =>
        obtain ⟨k, hk, rfl, q, rfl, hq0, hq1, hs2⟩ := hrel
        clear hs
        by_cases hlt : k < 32
        · obtain ⟨x, hx, x0, x1⟩ := hs2.cellB hlt
          have hfz := hs2.frozenB k
          have hk0 : (0 : Int) ≤ (k : Int) := by omega
          have hk1 : (k : Int) < 32 := by omega
          have HR := fun a b => round_inner hs2 hlt a b
          clear hs2
          go_wp2
          go_roundw
          case rel => exact HR _ _
          case measure => simp [intOf]; omega
        · have hk32 : k = 32 := by omega
          subst hk32
          obtain ⟨qn, rfl⟩ : ∃ qn : Nat, q = qn := ⟨q.toNat, by omega⟩
          have hqn : qn < 62 := by omega
          obtain ⟨v, hv⟩ := hs2.cellD hm
          have hfz := hs2.frozenD m
          have HR := round_outer hs2 hm qn hqn
          clear hs2
          go_wp2
          go_roundw
          case rel => exact HR
          case measure => simp [intOf]
    · obtain ⟨l, hl, hcell, hin⟩ := hs.bytes
      have hconv := run_convert_bytes_back (P := Trym.prog) wr 68 9 5 ⟨w.heap.size + 1, 0, none⟩ 43 l Trym.underlying68 Trym.underlying5 Trym.underlying9 hcell
      rw [hl] at hconv
      have hbel : Below w.heap.size w wr := by obtain ⟨_, _, _, _, _, _, _, h⟩ := hs; exact h
      clear hs hcell
      have HL : Hid (l.length = 43) := hl
      clear hl
      go_wp2
      go_ret
      exact ⟨⟨l.toArray⟩, rfl, by rw [← HL.out]; rfl, fun j hj => hin j hj, hbel⟩

theorem Trym.size52 : (Trym.prog.info? 52).map (·.size) = some 32 := by kernel_rfl

set_option maxHeartbeats 400000 in
theorem zzEncode_any (cs : Array Value) (w : World) (hb : ByteRow 32 cs) :
    Calls Trym.prog 23 #[.agg cs] w fun e w' => ∃ d : ByteArray, e = .returned (.string d) ∧ d.size = 43 ∧ (∀ j (hj : j < d.size), In62 (d[j].toNat : Int)) ∧ Below w.heap.size w w' := by
  have hsz : (Trym.prog.info? 52).map (·.size) = some cs.size := by rw [hb.1]; exact Trym.size52
  go_enter Trym.func23, Trym.ntmps23
  go_wp2_with (refine wpList_load_row rfl 52 _ rfl w.heap.size rfl 52 cs (0, 0) _ (heap_alloc_new w _) Trym.underlying52 rfl hsz ?_)
  refine (encode_any cs _ hb).mono ?_
  rintro e w' ⟨d, rfl, hd, hin, hbel⟩
  go_wp2
  go_ret
  exact ⟨d, rfl, hd, hin, ((Below.refl _ _).alloc (Nat.le_refl _) _).trans (hbel.mono (by simp))⟩

set_option maxHeartbeats 400000 in
theorem law_any (cs : Array Value) (w : World) (hb : ByteRow 32 cs) :
    Calls Trym.prog 8 #[.agg cs] w fun e w' => e = .returned (.bool true) ∧ Below w.heap.size w w' := by
  have hsz : (Trym.prog.info? 52).map (·.size) = some cs.size := by rw [hb.1]; exact Trym.size52
  go_enter Trym.func8, Trym.ntmps8
  go_wp2_with (refine wpList_load_row rfl 52 _ rfl w.heap.size rfl 52 cs (0, 0) _ (heap_alloc_new w _) Trym.underlying52 rfl hsz ?_)
  refine (zzEncode_any cs _ hb).mono ?_
  rintro e w' ⟨d, rfl, hd, hin, hbel⟩
  go_wp2_with fail
  refine (zzIsSecret_yes _ d _ rfl hd hin).mono ?_
  rintro e w2 ⟨rfl, rfl⟩
  go_wp2
  go_ret
  exact ⟨rfl, ((Below.refl _ _).alloc (Nat.le_refl _) _).trans (hbel.mono (by simp))⟩
end Go.Proofs.Qxb6000698aMods
