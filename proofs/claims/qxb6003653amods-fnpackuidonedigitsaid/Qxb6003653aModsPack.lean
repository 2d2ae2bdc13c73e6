/-
  Seat b6003653aM: packUID, ZZPackUID by their contracts.
-/
import Derived.Test.Qxb6003653aModsBase
import Derived.Stop.BytesEq
import Derived.Laws.Tables
import Derived.Laws.Rows
import Derived.Laws.ResultCell
import Derived.Laws.CopyOwn
import Derived.BigRegion
namespace Go.Proofs.Qxb6003653aMods
open Go.RowKit

/-- Bytes as the cells of an array. -/
def rowV (xs : List UInt8) : Array Value := (xs.map Extern.Stop.cell).toArray

theorem rowV_size (xs : List UInt8) : (rowV xs).size = xs.length := by simp [rowV]
theorem rowV_one (xs : List UInt8) : (rowV xs).all (·.oneCell') = true := by
  rw [Array.all_eq_true_iff_forall_mem]
  intro v hv
  simp [rowV] at hv
  obtain ⟨b, _, rfl⟩ := hv
  rfl
theorem rowV_get {xs : List UInt8} {n : Nat} {b : UInt8} (h : xs[n]? = some b) : (rowV xs)[n]? = some (.int .u8 (b.toNat : Int)) := by
  simp [rowV, h]
  rfl
theorem rowV_set (xs : List UInt8) (n : Nat) (b : UInt8) : (rowV xs).setIfInBounds n (.int .u8 (b.toNat : Int)) = rowV (xs.set n b) := by
  simp [rowV]
  rfl
theorem rowV_zero : rowV (bytesOf fun _ => 0) = #[.int .u8 0, .int .u8 0, .int .u8 0, .int .u8 0, .int .u8 0, .int .u8 0, .int .u8 0, .int .u8 0, .int .u8 0, .int .u8 0, .int .u8 0, .int .u8 0, .int .u8 0, .int .u8 0, .int .u8 0, .int .u8 0] := rfl

theorem Trym.size23 : (Trym.prog.info? 23).map (·.size) = some 16 := by kernel_rfl

theorem row_sz (xs : List UInt8) (h : xs.length = 16) : (Trym.prog.info? 23).map (·.size) = some (rowV xs).size := by rw [rowV_size, h]; exact Trym.size23

/-- What packUID and ZZPackUID hand back: the array in the block, and the bool. -/
theorem res18 (tmps : Array Value) (w : World) (g : Nat) (cs : Array Value) (b : Bool) (hp : tmps.getD 2 undef = .pointer (some ⟨g, 0, none⟩)) (hb : tmps.getD 3 undef = .bool b)
    (hrow : w.heap[g]? = some (.cells cs 23 (0, 0))) (hs : cs.size = 16) : (results Trym.f18 tmps).run Trym.prog w = .ok (.tuple #[.agg cs, .bool b]) w := by
  rw [results_cell_tmp Trym.results18, hp, hb]
  simp [asAddr, run_loadVar_row (P := Trym.prog) w g 23 23 cs (0, 0) _ hrow Trym.underlying23 rfl (by rw [hs]; exact Trym.size23)]

set_option maxHeartbeats 1000000 in
theorem pack_short (u : ByteArray) (w : World) (hu : ¬ u.size = 36) :
    Calls Trym.prog 18 #[.string u] w fun e w' => e = .returned (.tuple #[.agg (rowV (bytesOf fun _ => 0)), .bool false]) ∧ Below w.heap.size w w' := by
  have h1 : ((u.size : Int) != 36) = true := by rw [bne_iff_ne]; omega
  have hsz := row_sz (bytesOf fun _ => 0) (bytesOf_length _)
  have h1c := rowV_one (bytesOf fun _ => 0)
  rw [rowV_zero] at hsz h1c ⊢
  go_enter Trym.func18, Trym.ntmps18
  go_wp2_with (first | (refine wpList_load_row rfl 23 _ rfl w.heap.size rfl 23 _ (0, 0) _ (heap_alloc_new w _) Trym.underlying23 rfl hsz ?_) | (refine wpList_store_row rfl 23 _ _ rfl w.heap.size _ rfl rfl 23 _ (heap_alloc_new w _) hsz rfl h1c ?_))
  refine bodyPost_ret (res18 _ _ w.heap.size _ false rfl rfl (setRow_heap _ _ _ _ 23 (0, 0) (heap_alloc_new w _)) rfl) rfl ⟨rfl, ?_⟩
  exact below_setRow ((Below.refl _ _).alloc (Nat.le_refl _) _) (Nat.le_refl _) _

/-- The world in the midst of packUID: the packed bytes, nothing old has turned. -/
def Ps (w : World) (xs : List UInt8) (wr : World) : Prop := wr.heap[w.heap.size]? = some (.cells (rowV xs) 23 (0, 0)) ∧ Below w.heap.size w wr

theorem getD_data (u : ByteArray) (k : Nat) (h : k < u.size) : (u.data.toList.getD k 0) = u[k] := by
  rw [List.getD, List.getElem?_eq_getElem (by simpa using h)]
  rfl

theorem Ps.set {w wr : World} {xs : List UInt8} (h : Ps w xs wr) (n : Nat) (b : UInt8) (x : Int) (hx : x = (b.toNat : Int)) : Ps w (xs.set n b) (wr.setCell ⟨w.heap.size, n, none⟩ (.int .u8 x)).drew := by
  subst hx
  refine ⟨?_, (h.2.setCell (Nat.le_refl _) _).drew⟩
  show (wr.setCell ⟨w.heap.size, n, none⟩ _).heap[w.heap.size]? = _
  rw [heap_setCell_same wr _ n _ 23 _ h.1, rowV_set]

theorem or_even : ∀ v : Nat, v < 16 → bits BinOp.or IntKind.u8 0 ((v : Int) * 16) = 16 * (v : Int) := by decide +kernel
theorem or_odd : ∀ a : Nat, a < 16 → ∀ v : Nat, v < 16 → bits BinOp.or IntKind.u8 (16 * (a : Int)) (v : Int) = 16 * (a : Int) + (v : Int) := by decide +kernel

theorem toNat_small (x : Nat) (h : x < 256) : ((UInt8.ofNat x).toNat : Int) = (x : Int) := by
  rw [UInt8.toNat_ofNat']
  omega

theorem even_step {w wr : World} {l : List UInt8} {k n v c : Nat} (h : Ps w (bytesOf (nbU l k)) wr) (hk : k < 36) (hd : dash k = false) (hn : dg k = 2 * n) (hlc : (l.getD k 0).toNat = c) (hvv : hexV c = (v : Int)) (hv : v < 16) :
    Value.int .i64 (2 * (n : Int) + 1) = .int .i64 (dg (k + 1) : Nat) ∧ Ps w (bytesOf (nbU l (k + 1))) (wr.setCell ⟨w.heap.size, n, none⟩ (.int .u8 (bits BinOp.or IntKind.u8 0 ((v : Int) * 16)))).drew := by
  refine ⟨by rw [dg_next hd, hn]; go_num, ?_⟩
  rw [(bytes_even l k n hk hd hn).2]
  apply h.set
  rw [hlc, hvv, or_even v hv, toNat_small _ (by omega)]
  omega

theorem odd_step {w wr : World} {l : List UInt8} {k n v c : Nat} (h : Ps w (bytesOf (nbU l k)) wr) (hk : k < 36) (hd : dash k = false) (hn : dg k = 2 * n + 1) (hlc : (l.getD k 0).toNat = c) (hvv : hexV c = (v : Int)) (hv : v < 16) (a : Nat) (ha : a = nbU l k (2 * n)) :
    Value.int .i64 (2 * (n : Int) + 1 + 1) = .int .i64 (dg (k + 1) : Nat) ∧ Ps w (bytesOf (nbU l (k + 1))) (wr.setCell ⟨w.heap.size, n, none⟩ (.int .u8 (bits BinOp.or IntKind.u8 (16 * (a : Int)) (v : Int)))).drew := by
  have ha16 : a < 16 := by rw [ha]; exact nbU_lt _ _ _
  refine ⟨by rw [dg_next hd, hn]; go_num, ?_⟩
  rw [(bytes_odd l k n hk hd hn).2]
  apply h.set
  rw [hlc, hvv, or_odd a ha16 v hv, ← ha, toNat_small _ (by omega)]
  omega

set_option maxHeartbeats 2000000 in
theorem pack_any (u : ByteArray) (w : World) (hu : u.size = 36) (j : Nat) (hj : j ≤ 36) (hok : ∀ i, i < j → okAt (u.data.toList.getD i 0).toNat i = true) (hbad : j < 36 → okAt (u.data.toList.getD j 0).toNat j = false) :
    Calls Trym.prog 18 #[.string u] w fun e w' => e = .returned (.tuple #[.agg (rowV (bytesOf (nbU u.data.toList j))), .bool (decide (j = 36))]) ∧ Below w.heap.size w w' := by
  have h1 : ((u.size : Int) != 36) = false := by rw [hu]; rfl
  have hst : Ps w (bytesOf (nbU u.data.toList 0)) (w.alloc (.cells #[.int .u8 0, .int .u8 0, .int .u8 0, .int .u8 0, .int .u8 0, .int .u8 0, .int .u8 0, .int .u8 0, .int .u8 0, .int .u8 0, .int .u8 0, .int .u8 0, .int .u8 0, .int .u8 0, .int .u8 0, .int .u8 0] 23)) := by
    rw [nbU_zero, ← rowV_zero]
    exact ⟨heap_alloc_new w _, (Below.refl _ _).alloc (Nat.le_refl _) _⟩
  obtain ⟨l, hl⟩ : ∃ l, l = u.data.toList := ⟨_, rfl⟩
  rw [← hl] at hok hbad hst ⊢
  have HL : Hid (l = u.data.toList) := hl
  clear hl
  go_enter Trym.func18, Trym.ntmps18
  go_wp2
  go_loopw [4, 14] (fun d i wr => ∃ k : Nat, k ≤ j ∧ i = .int .i64 k ∧ d = .int .i64 (dg k : Nat) ∧ Ps w (bytesOf (nbU l k)) wr) (fun _ i _ => 36 - (intOf i).toNat)
  case atStart => exact ⟨0, Nat.zero_le _, rfl, rfl, hst⟩
  case round =>
    obtain ⟨k, hk, rfl, rfl, hps⟩ := hrel
    clear hst
    by_cases hk36 : k < 36
    · have hku : k < u.size := by omega
      have hlk : l.getD k 0 = u[k] := by rw [HL.out]; exact getD_data u k hku
      obtain ⟨c, hc⟩ : ∃ c, u[k].toNat = c := ⟨_, rfl⟩
      have hc256 : c < 256 := by rw [← hc]; exact UInt8.toNat_lt _
      have hlc : (l.getD k 0).toNat = c := by rw [hlk, hc]
      have hk0 : (0 : Int) ≤ (k : Int) := by omega
      have hk1 : (k : Int) < 36 := by omega
      clear hlk
      by_cases hkj : k < j
      · have ho := hok k hkj
        rw [hlc] at ho
        by_cases hd : dash k = true
        · have hc45 : c = 45 := by simpa [okAt, hd] using ho
          subst hc45
          have HP : Hid (Ps w (bytesOf (nbU l (k + 1))) wr) := by show Ps _ _ _; rw [nbU_dash l k hd]; exact hps
          have HD : Hid (dg (k + 1) = dg k) := dg_dash hd
          clear hps hok hbad hlc ho
          go_wp2_with (go_at_call 20; refine (isDash_any k _).mono ?_; rintro e w' ⟨rfl, rfl⟩)
          go_roundw
          case rel => exact ⟨k + 1, by omega, by go_num, by rw [HD.out], HP.out⟩
          case measure => simp [intOf]; omega
        · have hd' : dash k = false := by simpa using hd
          have hv : 0 ≤ hexV c := by simpa [okAt, hd'] using ho
          obtain ⟨v, hvv⟩ : ∃ v : Nat, hexV c = v := ⟨(hexV c).toNat, by omega⟩
          have hv16 : v < 16 := by have := hexV_lt c; omega
          clear ho hv hd
          rcases Nat.mod_two_eq_zero_or_one (dg k) with hpar | hpar
          · obtain ⟨n, hn⟩ : ∃ n, dg k = 2 * n := ⟨dg k / 2, by omega⟩
            have hn16 : n < 16 := by have := dg_lt hk36 hd'; omega
            obtain ⟨e1, e2⟩ := bytes_even l k n hk36 hd' hn
            have hcell : wr.cell? ⟨w.heap.size, n, none⟩ = some (.int .u8 0) := by rw [cell_of_row wr _ _ _ 23 _ hps.1]; exact rowV_get e1
            have hfz : wr.frozen? ⟨w.heap.size, n, none⟩ = false := frozen_of_row wr _ _ _ 23 hps.1
            have hn0 : (0 : Int) ≤ (n : Int) := by omega
            have hn1 : (n : Int) < 16 := by omega
            have HR := even_step hps hk36 hd' hn hlc hvv hv16
            clear hpar hok hbad e1 e2 hlc hps
            go_wp2_with (first | (go_at_call 20; refine (isDash_any k _).mono ?_; rintro e w' ⟨rfl, rfl⟩) | (go_at_call 21; refine (indexHex c hc256 _).mono ?_; rintro e w' ⟨rfl, rfl⟩))
            go_region
            all_goals go_wp2
            all_goals go_roundw
            case rel => exact ⟨k + 1, by omega, by go_num, HR⟩
            case measure => simp [intOf]; omega
          · obtain ⟨n, hn⟩ : ∃ n, dg k = 2 * n + 1 := ⟨dg k / 2, by omega⟩
            have hn16 : n < 16 := by have := dg_lt hk36 hd'; omega
            obtain ⟨e1, e2⟩ := bytes_odd l k n hk36 hd' hn
            obtain ⟨a, ha⟩ : ∃ a, a = nbU l k (2 * n) := ⟨_, rfl⟩
            rw [← ha] at e1
            have ha16 : a < 16 := by rw [ha]; exact nbU_lt _ _ _
            have hcell : wr.cell? ⟨w.heap.size, n, none⟩ = some (.int .u8 (16 * (a : Int))) := by
              rw [cell_of_row wr _ _ _ 23 _ hps.1, rowV_get e1, toNat_small _ (by omega)]
              simp
            have hfz : wr.frozen? ⟨w.heap.size, n, none⟩ = false := frozen_of_row wr _ _ _ 23 hps.1
            have hn0 : (0 : Int) ≤ (n : Int) := by omega
            have hn1 : (n : Int) < 16 := by omega
            have q1 : ((2 * (n : Int) + 1) / 2) = (n : Int) := by omega
            have q2 : ((2 * (n : Int) + 1) % 2) = 1 := by omega
            have HR := odd_step hps hk36 hd' hn hlc hvv hv16 a ha
            clear hpar hok hbad e1 e2 hlc hps ha
            go_wp2_with (first | (go_at_call 20; refine (isDash_any k _).mono ?_; rintro e w' ⟨rfl, rfl⟩) | (go_at_call 21; refine (indexHex c hc256 _).mono ?_; rintro e w' ⟨rfl, rfl⟩))
            go_region
            all_goals go_wp2
            all_goals go_roundw
            case rel => exact ⟨k + 1, by omega, by go_num, HR⟩
            case measure => simp [intOf]; omega
      · have hkj' : k = j := by omega
        subst hkj'
        have hb := hbad hk36
        rw [hlc] at hb
        obtain ⟨hrow, hbel⟩ := hps
        have hsz := row_sz (bytesOf (nbU l k)) (bytesOf_length _)
        have h1c := rowV_one (bytesOf (nbU l k))
        have HE : Hid (decide (k = 36) = false) := by show decide (k = 36) = false; rw [decide_eq_false_iff_not]; omega
        have hlen : (rowV (bytesOf (nbU l k))).size = 16 := by rw [rowV_size, bytesOf_length]
        have HLEN : Hid ((rowV (bytesOf (nbU l k))).size = 16) := hlen
        have HROW : Hid ((wr.setRow w.heap.size (rowV (bytesOf (nbU l k)))).heap[w.heap.size]? = some (.cells (rowV (bytesOf (nbU l k))) 23 (0, 0))) := setRow_heap wr _ _ _ 23 (0, 0) hrow
        clear hok hbad hlc hkj hlen
        by_cases hd : dash k = true
        · have hc45 : ((c : Int) != 45) = true := by
            rw [bne_iff_ne]
            have : ¬ c = 45 := by simpa [okAt, hd] using hb
            omega
          clear hb
          go_wp2_with (first | (go_at_call 20; refine (isDash_any k _).mono ?_; rintro e w' ⟨rfl, rfl⟩) | (refine wpList_load_row rfl 23 _ rfl w.heap.size rfl 23 (rowV (bytesOf (nbU l k))) (0, 0) _ hrow Trym.underlying23 rfl hsz ?_) | (refine wpList_store_row rfl 23 _ _ rfl w.heap.size (rowV (bytesOf (nbU l k))) rfl rfl 23 (rowV (bytesOf (nbU l k))) hrow hsz rfl h1c ?_))
          refine bodyPost_ret (res18 _ _ w.heap.size _ false rfl rfl HROW.out HLEN.out) rfl ⟨?_, below_setRow hbel (Nat.le_refl _) _⟩
          rw [HE.out]
        · have hd' : dash k = false := by simpa using hd
          have hv : hexV c < 0 := by simpa [okAt, hd'] using hb
          clear hb hd
          go_wp2_with (first | (go_at_call 20; refine (isDash_any k _).mono ?_; rintro e w' ⟨rfl, rfl⟩) | (go_at_call 21; refine (indexHex c hc256 _).mono ?_; rintro e w' ⟨rfl, rfl⟩) | (refine wpList_load_row rfl 23 _ rfl w.heap.size rfl 23 (rowV (bytesOf (nbU l k))) (0, 0) _ hrow Trym.underlying23 rfl hsz ?_) | (refine wpList_store_row rfl 23 _ _ rfl w.heap.size (rowV (bytesOf (nbU l k))) rfl rfl 23 (rowV (bytesOf (nbU l k))) hrow hsz rfl h1c ?_))
          refine bodyPost_ret (res18 _ _ w.heap.size _ false rfl rfl HROW.out HLEN.out) rfl ⟨?_, below_setRow hbel (Nat.le_refl _) _⟩
          rw [HE.out]
    · have hk' : k = 36 := by omega
      have hj' : j = 36 := by omega
      subst hk'
      subst hj'
      obtain ⟨hrow, hbel⟩ := hps
      have hsz := row_sz (bytesOf (nbU l 36)) (bytesOf_length _)
      have h1c := rowV_one (bytesOf (nbU l 36))
      have HLEN : Hid ((rowV (bytesOf (nbU l 36))).size = 16) := by show _ = 16; rw [rowV_size, bytesOf_length]
      have HROW : Hid ((wr.setRow w.heap.size (rowV (bytesOf (nbU l 36)))).heap[w.heap.size]? = some (.cells (rowV (bytesOf (nbU l 36))) 23 (0, 0))) := setRow_heap wr _ _ _ 23 (0, 0) hrow
      clear hok hbad
      go_wp2_with (first | (refine wpList_load_row rfl 23 _ rfl w.heap.size rfl 23 (rowV (bytesOf (nbU l 36))) (0, 0) _ hrow Trym.underlying23 rfl hsz ?_) | (refine wpList_store_row rfl 23 _ _ rfl w.heap.size (rowV (bytesOf (nbU l 36))) rfl rfl 23 (rowV (bytesOf (nbU l 36))) hrow hsz rfl h1c ?_))
      refine bodyPost_ret (res18 _ _ w.heap.size _ true rfl rfl HROW.out HLEN.out) rfl ⟨?_, below_setRow hbel (Nat.le_refl _) _⟩
      rfl
end Go.Proofs.Qxb6003653aMods
