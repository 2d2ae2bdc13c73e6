/-
  Seat b6003653aM: the walk of FnPackUIDWhole at a text of 36 bytes.
-/
import Derived.Test.Qxb6003653aModsWhole
import Derived.Deep.RegionHeld3
import Derived.Deep.MidRow
import Derived.Deep.DrawnRows
namespace Go.Proofs.Qxb6003653aMods
open Go.RowKit

theorem text_of_bytes (l : List UInt8) (j : Nat) : text (nib (bytesOf (nbU l j))) = text (nbU l j) :=
  text_congr (a := nib (bytesOf (nbU l j))) (b := nbU l j) (fun d hd => nib_bytes (nbU l j) (fun d _ => nbU_lt l j d) d hd)

theorem getD_byte (u : ByteArray) (k : Nat) (h : k < u.size) : (u.data.toList.getD k 0).toNat = u[k].toNat := by rw [getD_data u k h]

set_option maxHeartbeats 2000000 in
theorem whole_good (u : ByteArray) (w : World) (hu : u.size = 36) (hok : ∀ i, i < 36 → okAt (u.data.toList.getD i 0).toNat i = true) :
    Calls Trym.prog 3 #[.string u] w fun e w' => e = .returned (.bool true) ∧ Below w.heap.size w w' := by
  have h1 : ((u.size : Int) != 36) = false := by rw [hu]; rfl
  have hle : (u.size : Int) ≤ 1048576 := by omega
  have q3 : decide ((1048576 : Int) < (u.size : Int)) = false := by simp; omega
  have hcon := zzPack_any u w hu 36 (Nat.le_refl _) hok (fun h => absurd h (by omega))
  simp only [decide_true] at hcon
  obtain ⟨ps, hps⟩ : ∃ ps, ps = bytesOf (nbU u.data.toList 36) := ⟨_, rfl⟩
  rw [← hps] at hcon
  have hp16 : ps.length = 16 := by rw [hps]; exact bytesOf_length _
  have hsz := row_sz ps hp16
  have h1c := rowV_one ps
  have hs16 : Z16.size = (rowV ps).size := by rw [rowV_size, hp16]; rfl
  have htx : (⟨(text (nib ps)).toArray⟩ : ByteArray) = u := by
    have e : text (nib ps) = u.data.toList := by
      rw [hps, text_of_bytes]
      exact text_whole _ (by simpa using hu) hok
    rw [e]
  have htext := fun wx => text_any ps hp16 wx
  rw [htx] at htext
  have HT : Hid (∀ wx : World, Calls Trym.prog 10 #[.agg (rowV ps)] wx fun e w' => e = .returned (.string u) ∧ Below wx.heap.size wx w') := htext
  have HC : Hid (Calls Trym.prog 8 #[.string u] w fun e w' => e = .returned (.tuple #[.agg (rowV ps), .bool true]) ∧ Below w.heap.size w w') := hcon
  clear hcon hps hp16 htext htx
  go_enter Trym.func3, Trym.ntmps3
  go_wp2_with (go_at_call 7; refine (bytes_small _ _ hle).mono ?_; rintro e w' ⟨rfl, rfl⟩)
  refine HC.out.mono ?_
  rintro e w1 ⟨rfl, hb1⟩
  have hrow1 : ((w1.alloc (.cells Z16 23)).setRow w1.heap.size (rowV ps)).heap[w1.heap.size]? = some (.cells (rowV ps) 23 (0, 0)) := setRow_heap _ _ _ _ 23 (0, 0) (heap_alloc_new w1 _)
  have HB2 : Hid (Below w.heap.size w ((w1.alloc (.cells Z16 23)).setRow w1.heap.size (rowV ps))) := below_setRow (hb1.alloc hb1.size _) hb1.size _
  go_wp2_with (refine wpList_store_row rfl 23 _ _ rfl w1.heap.size (rowV ps) rfl rfl 23 Z16 (heap_alloc_new w1 _) hsz hs16 h1c ?_)
  go_loop [5] (fun i => ∃ k : Nat, k ≤ 36 ∧ i = .int .i64 k) (fun i => 36 - (intOf i).toNat)
  case atStart => exact ⟨0, Nat.zero_le _, rfl⟩
  case round =>
    obtain ⟨k, hk, rfl⟩ := hrel
    by_cases hlt : k < 36
    · have hku : k < u.size := by omega
      have ho := hok k hlt
      rw [getD_byte u k hku] at ho
      have hc256 : u[k].toNat < 256 := UInt8.toNat_lt _
      obtain ⟨c, hc⟩ : ∃ c, u[k].toNat = c := ⟨_, rfl⟩
      rw [hc] at ho hc256
      have hk0 : (0 : Int) ≤ (k : Int) := by omega
      have hk1 : (k : Int) < 36 := by omega
      have hk2 : decide ((k : Int) < 36) = true := by simp; omega
      clear hok
      go_wp2_with (go_at_call 9; refine (charOK_any c k hc256 _).mono ?_; rintro e w' ⟨rfl, rfl⟩)
      go_round
      case rel => exact ⟨k + 1, by omega, by go_num⟩
      case measure => simp [intOf]; omega
    · have hk36 : k = 36 := by omega
      subst hk36
      clear hok
      go_wp2_with (refine wpList_load_yes rfl 23 _ rfl w1.heap.size rfl 23 (rowV ps) (0, 0) _ hrow1 Trym.underlying23 rfl hsz ?_)
      refine (HT.out _).mono ?_
      rintro e w2 ⟨rfl, hb2⟩
      have HB3 : Hid (Below w.heap.size w w2) := HB2.out.trans (hb2.mono HB2.out.size)
      clear hb2
      go_wp2
      go_ret
      exact ⟨rfl, HB3.out⟩

/-- The text of all zeros. -/
abbrev Zt : ByteArray := ⟨#[48, 48, 48, 48, 48, 48, 48, 48, 45, 48, 48, 48, 48, 45, 48, 48, 48, 48, 45, 48, 48, 48, 48, 45, 48, 48, 48, 48, 48, 48, 48, 48, 48, 48, 48, 48]⟩
theorem Zt_text : Zt.data.toList = text fun _ => 0 := by decide +kernel

theorem joined_text (u : ByteArray) (j : Nat) : (u.extract 0 j ++ Zt.extract j 36).data.toList = u.data.toList.take j ++ (text fun _ => 0).drop j := by
  rw [ByteArray.data_append, Array.toList_append, Lib.extract_data, Lib.extract_data, Zt_text]
  rw [List.drop_zero, Nat.sub_zero, List.take_of_length_le (l := (text fun _ => 0).drop j) (by rw [List.length_drop, text_length]; omega)]

theorem range_keep {W W' : World} {b : Nat} {cs : List Value} (h : Below W.heap.size W W') (hb : b < W.heap.size) (hr : W.rangeAt b 0 cs) : W'.rangeAt b 0 cs := by
  intro j v hv
  rw [h.cell (p := ⟨b, 0 + j, none⟩) hb]
  exact hr j v hv

theorem range_row {W : World} {b : Nat} {cs : List Value} (h : W.heap[b]? = some (.cells cs.toArray 23 (0, 0))) : W.rangeAt b 0 cs := by
  intro j v hv
  rw [cell_of_row W b (0 + j) _ 23 _ h, Nat.zero_add]
  simpa using hv

set_option maxHeartbeats 2000000 in
theorem whole_bad (u : ByteArray) (w : World) (hu : u.size = 36) (j : Nat) (hj : j < 36) (hok : ∀ i, i < j → okAt (u.data.toList.getD i 0).toNat i = true) (hbad : okAt (u.data.toList.getD j 0).toNat j = false) :
    Calls Trym.prog 3 #[.string u] w fun e w' => e = .returned (.bool true) ∧ Below w.heap.size w w' := by
  have h1 : ((u.size : Int) != 36) = false := by rw [hu]; rfl
  have hle : (u.size : Int) ≤ 1048576 := by omega
  have q3 : decide ((1048576 : Int) < (u.size : Int)) = false := by simp; omega
  have hcon := zzPack_any u w hu j (by omega) hok (fun _ => hbad)
  rw [show decide (j = 36) = false from decide_eq_false (by omega)] at hcon
  obtain ⟨ps, hps⟩ : ∃ ps, ps = bytesOf (nbU u.data.toList j) := ⟨_, rfl⟩
  rw [← hps] at hcon
  have hp16 : ps.length = 16 := by rw [hps]; exact bytesOf_length _
  have hsz := row_sz ps hp16
  have h1c := rowV_one ps
  have hs16 : Z16.size = (rowV ps).size := by rw [rowV_size, hp16]; rfl
  obtain ⟨tx, htx⟩ : ∃ tx : ByteArray, tx = ⟨(text (nib ps)).toArray⟩ := ⟨_, rfl⟩
  have hteq : tx = u.extract 0 j ++ Zt.extract j 36 := by
    apply ByteArray.ext
    apply Array.ext'
    rw [joined_text u j, htx, ← text_nbU u.data.toList (by simpa using hu) j (by omega) hok, ← text_of_bytes, hps]
  have htext := fun wx => text_any ps hp16 wx
  rw [← htx] at htext
  have HT : Hid (∀ wx : World, Calls Trym.prog 10 #[.agg (rowV ps)] wx fun e w' => e = .returned (.string tx) ∧ Below wx.heap.size wx w') := htext
  have HC : Hid (Calls Trym.prog 8 #[.string u] w fun e w' => e = .returned (.tuple #[.agg (rowV ps), .bool false]) ∧ Below w.heap.size w w') := hcon
  have HTE : Hid (tx = u.extract 0 j ++ Zt.extract j 36) := hteq
  clear hcon hps hp16 htext htx hteq
  go_enter Trym.func3, Trym.ntmps3
  go_wp2_with (go_at_call 7; refine (bytes_small _ _ hle).mono ?_; rintro e w' ⟨rfl, rfl⟩)
  refine HC.out.mono ?_
  rintro e w1 ⟨rfl, hb1⟩
  have hrow1 : ((w1.alloc (.cells Z16 23)).setRow w1.heap.size (rowV ps)).heap[w1.heap.size]? = some (.cells (rowV ps) 23 (0, 0)) := setRow_heap _ _ _ _ 23 (0, 0) (heap_alloc_new w1 _)
  have HB2 : Hid (Below w.heap.size w ((w1.alloc (.cells Z16 23)).setRow w1.heap.size (rowV ps))) := below_setRow (hb1.alloc hb1.size _) hb1.size _
  go_wp2_with (refine wpList_store_row rfl 23 _ _ rfl w1.heap.size (rowV ps) rfl rfl 23 Z16 (heap_alloc_new w1 _) hsz hs16 h1c ?_)
  generalize hW : (w1.alloc (.cells Z16 23)).setRow w1.heap.size (rowV ps) = W1 at hrow1 HB2 ⊢
  clear hW
  go_loop [5] (fun i => ∃ k : Nat, k ≤ j ∧ i = .int .i64 k) (fun i => 36 - (intOf i).toNat)
  case atStart => exact ⟨0, Nat.zero_le _, rfl⟩
  case round =>
    obtain ⟨k, hk, rfl⟩ := hrel
    have hlt : k < 36 := by omega
    have hku : k < u.size := by omega
    have hc256 : u[k].toNat < 256 := UInt8.toNat_lt _
    have hk0 : (0 : Int) ≤ (k : Int) := by omega
    have hk1 : (k : Int) < 36 := by omega
    have hk2 : decide ((k : Int) < 36) = true := by simp; omega
    by_cases hkj : k < j
    · have ho := hok k hkj
      rw [getD_byte u k hku] at ho
      obtain ⟨c, hc⟩ : ∃ c, u[k].toNat = c := ⟨_, rfl⟩
      rw [hc] at ho hc256
      clear hok hbad
      go_wp2_with (go_at_call 9; refine (charOK_any c k hc256 _).mono ?_; rintro e w' ⟨rfl, rfl⟩)
      go_round
      case rel => exact ⟨k + 1, by omega, by go_num⟩
      case measure => simp [intOf]; omega
    · have hkj' : k = j := by omega
      subst hkj'
      rw [getD_byte u k hku] at hbad
      obtain ⟨c, hc⟩ : ∃ c, u[k].toNat = c := ⟨_, rfl⟩
      rw [hc] at hbad hc256
      have q5 : ((k : Int) == 36) = false := by simp; omega
      go_wp2_with (go_at_call 9; refine (charOK_any c k hc256 _).mono ?_; rintro e w' ⟨rfl, rfl⟩)
      obtain ⟨cs, hcs⟩ : ∃ cs : List Value, cs.toArray = rowV ps := ⟨(rowV ps).toList, by simp⟩
      have hcl : cs.length = 16 := by have e : cs.toArray.size = (rowV ps).size := by rw [hcs]
                                      rw [← hs16] at e; simpa using e
      have hrg : W1.rangeAt w1.heap.size 0 cs := range_row (by rw [hcs]; exact hrow1)
      have hu23 := Trym.underlying23
      have hi23 : (Trym.prog.info? 23).map (·.size) = some cs.length := by rw [hcl]; exact Trym.size23
      have hbk : w1.heap.size < W1.heap.size := (Array.getElem?_eq_some_iff.1 hrow1).1
      have hone : ∀ v ∈ cs, v.oneCell' = true := by
        intro v hv
        rw [Array.all_eq_true_iff_forall_mem] at h1c
        apply h1c
        rw [← hcs]
        simpa using hv
      have HT' : Hid (∀ wx : World, Calls Trym.prog 10 #[.agg cs.toArray] wx fun e w' => e = .returned (.string tx) ∧ Below wx.heap.size wx w') := by rw [hcs]; exact HT.out
      have hkk : (k : Int) ≤ 36 := by omega
      have hcat : ¬ 9223372036854775807 < min k 36 + (36 - k) := by omega
      clear hcs hrow1 h1c hsz hs16 HT hb1 hok
      go_region_held3 (fun w' => w'.rangeAt w1.heap.size 0 cs) (first | go_keep_ranges | (exact range_keep hb2 (by simpa using hbk) (by simpa using hrg))) ((go_at_call 10; refine (HT'.out _).mono ?_; rintro e w2 ⟨rfl, hb2⟩))
      have HEQ : (tx.toList == (u.extract 0 k ++ Zt.extract k 36).toList) = true := by rw [← HTE.out]; exact beq_self_eq_true _
      have HB3 : Hid (Below w.heap.size w w2) := HB2.out.trans (Below.trans ((Below.refl _ _).drew) (hb2.mono (by simpa using HB2.out.size)))
      clear hb2
      go_wp2
      go_ret
      exact ⟨ret_bool HEQ, HB3.out⟩
end Go.Proofs.Qxb6003653aMods
