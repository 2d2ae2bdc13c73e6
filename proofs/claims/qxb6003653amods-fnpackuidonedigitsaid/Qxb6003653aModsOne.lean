/-
  Seat b6003653aM: the walk of FnPackUIDOneDigit.
-/
import Derived.Test.Qxb6003653aModsWhole2
import Derived.Test.Qxb6003653aModsOnePlain
import Derived.Lib.ConvBytes
namespace Go.Proofs.Qxb6003653aMods
open Go.RowKit

set_option maxHeartbeats 400000 in
theorem one_out (xs : List UInt8) (i : Int) (c : Int) (w : World) (h : i < 0 ∨ 36 ≤ i) :
    Calls Trym.prog 4 #[.agg (rowV xs), .int .i64 i, .int .u8 c] w fun e w' => e = .returned (.bool true) ∧ Below w.heap.size w w' := by
  by_cases hn : i < 0
  · go_enter Trym.func4, Trym.ntmps4
    go_wp2
    go_ret
    exact ⟨rfl, (Below.refl _ _).alloc (Nat.le_refl _) _⟩
  · have h0 : 0 ≤ i := by omega
    have h1 : 36 ≤ i := by omega
    clear h hn
    go_enter Trym.func4, Trym.ntmps4
    go_wp2
    go_ret
    exact ⟨rfl, (Below.refl _ _).alloc (Nat.le_refl _) _⟩

/-- A row of 16 bytes in block b. -/
def Row (W : World) (b : Nat) (xs : List UInt8) : Prop := W.heap[b]? = some (.cells (rowV xs) 23 (0, 0))

theorem Row.below {W W' : World} {b B : Nat} {xs : List UInt8} (h : Row W b xs) (hb : Below B W W') (hB : b < B) : Row W' b xs := (hb.block b hB).trans h
theorem Row.lt {W : World} {b : Nat} {xs : List UInt8} (h : Row W b xs) : b < W.heap.size := (Array.getElem?_eq_some_iff.1 h).1
theorem Row.new (w : World) (xs : List UInt8) : Row ((w.alloc (.cells Z16 23)).setRow w.heap.size (rowV xs)) w.heap.size xs := setRow_heap _ _ _ _ 23 (0, 0) (heap_alloc_new w _)
theorem Row.old {w : World} {b : Nat} {xs : List UInt8} (h : Row w b xs) (cs : Array Value) : Row ((w.alloc (.cells Z16 23)).setRow w.heap.size cs) b xs := by
  have := h.lt
  show (((w.alloc (.cells Z16 23)).setRow w.heap.size cs).heap[b]?) = _
  rw [setRow_other _ _ _ _ (by omega), heap_alloc_old _ _ this]
  exact h

theorem Row.cell_old {W : World} {b g : Nat} {xs : List UInt8} (h : Row W b xs) (hne : b ≠ g) (o : Nat) (v : Value) : Row (W.setCell ⟨g, o, none⟩ v) b xs := (heap_setCell_other W ⟨g, o, none⟩ b v hne).trans h

theorem Row.cell_set {W : World} {b : Nat} {xs : List UInt8} (h : Row W b xs) (n y : Nat) (hy : y < 256) : Row (W.setCell ⟨b, n, none⟩ (.int .u8 (y : Int))) b (xs.set n (UInt8.ofNat y)) := by
  show (W.setCell ⟨b, n, none⟩ _).heap[b]? = _
  rw [← rowV_set, toNat_small y hy]
  exact heap_setCell_same W b n _ 23 _ h

theorem bits_even : ∀ x : Nat, x < 256 → ∀ v : Nat, v < 16 → bits BinOp.or IntKind.u8 (bits BinOp.andNot IntKind.u8 (x : Int) 240) ((v : Int) * 16) = ((16 * v + x % 16 : Nat) : Int) := by decide +kernel
theorem bits_odd : ∀ x : Nat, x < 256 → ∀ v : Nat, v < 16 → bits BinOp.or IntKind.u8 (bits BinOp.andNot IntKind.u8 (x : Int) 15) (v : Int) = ((16 * (x / 16) + v : Nat) : Int) := by decide +kernel

theorem below_row {B : Nat} {w0 w : World} (h : Below B w0 w) (hB : B ≤ w.heap.size) (cs : Array Value) : Below B w0 ((w.alloc (.cells Z16 23)).setRow w.heap.size cs) := below_setRow (h.alloc hB _) hB _

/-- The conversion of a text of 36 bytes into a slice of bytes: where its cells lie. -/
theorem conv_facts (U : ByteArray) (hU : U.size = 36) (W : World) :
    (∀ j, j < 36 → (Lib.bytesWorld W 5 U).cell? ⟨W.heap.size, j, none⟩ = some (.int .u8 ((U.data.toList.getD j 0).toNat : Int)) ∧ (Lib.bytesWorld W 5 U).frozen? ⟨W.heap.size, j, none⟩ = false) ∧ Below W.heap.size W (Lib.bytesWorld W 5 U) := by
  refine ⟨fun j hj => ⟨Lib.bytesWorld_cell W 5 U j (by omega), ?_⟩, ?_⟩
  · have h := Lib.bytesWorld_at_new W 5 U
    simp only [World.frozen?, h]
    have hsz : 36 ≤ (Lib.bytesCells W 5 U).size := by
      simp [Lib.bytesCells]; omega
    simp
    omega
  · refine ⟨rfl, rfl, rfl, ?_, fun k hk => Lib.bytesWorld_at_old W 5 U k hk⟩
    rw [Lib.bytesWorld_size]
    omega

theorem conv_there (U : ByteArray) (hU : U.size = 36) (W : World) : (convert 9 28 (.string U)).run Trym.prog W = .ok (.slice (some ⟨W.heap.size, 0, none⟩) 36 (grownCap W 36 0 5)) (Lib.bytesWorld W 5 U) := by
  have := Lib.run_convert_string_bytes (P := Trym.prog) W 9 28 5 U Trym.underlying9 Trym.underlying28 Trym.underlying5
  rw [hU] at this
  exact this

/-- .. and back, one byte turned. -/
theorem conv_back (U : ByteArray) (hU : U.size = 36) (W : World) (i : Nat) (c : UInt8) (cap : Nat) :
    (convert 28 9 (.slice (some ⟨W.heap.size, 0, none⟩) 36 cap)).run Trym.prog ((Lib.bytesWorld W 5 U).setCell ⟨W.heap.size, i, none⟩ (.int .u8 (c.toNat : Int))) =
      .ok (.string ⟨(U.data.toList.set i c).toArray⟩) ((Lib.bytesWorld W 5 U).setCell ⟨W.heap.size, i, none⟩ (.int .u8 (c.toNat : Int))) := by
  have hl : (U.data.toList.set i c).length = 36 := by simpa using hU
  have h := run_convert_bytes_back (P := Trym.prog) ((Lib.bytesWorld W 5 U).setCell ⟨W.heap.size, i, none⟩ (.int .u8 (c.toNat : Int))) 28 9 5 ⟨W.heap.size, 0, none⟩ cap (U.data.toList.set i c) Trym.underlying28 Trym.underlying5 Trym.underlying9 (by
    intro j hj
    have hj36 : j < 36 := by omega
    have ea : (⟨W.heap.size, 0, none⟩ : Addr).add j = ⟨W.heap.size, j, none⟩ := by
      by_cases hj0 : j = 0
      · subst hj0; rfl
      · simp [Addr.add, hj0]
    have hc := ((conv_facts U hU W).1 j hj36).1
    rw [ea]
    by_cases e : i = j
    · subst e
      rw [World.cell?_setCell_same _ _ _ hc]
      rw [List.getElem_set_self]
    · rw [World.cell?_setCell_other _ _ _ _ (by intro h; exact e (congrArg Addr.off h)), hc]
      simp [List.getElem_set_ne e, List.getD, show j < U.size by omega])
  rw [hl] at h
  exact h

/-- Both conversions, their worlds and capacity behind letters. -/
theorem conv_pack (U : ByteArray) (hU : U.size = 36) (W : World) (i : Nat) (hi : i < 36) (c : UInt8) (cn : Nat) (hcn : c.toNat = cn) (U2 : ByteArray) (hU2 : U2 = ⟨(U.data.toList.set i c).toArray⟩) :
    ∃ (cap : Nat) (WB : World) (x : Int), (convert 9 28 (.string U)).run Trym.prog W = .ok (.slice (some ⟨W.heap.size, 0, none⟩) 36 cap) WB ∧ Below W.heap.size W WB ∧ WB.cell? ⟨W.heap.size, i, none⟩ = some (.int .u8 x) ∧ WB.frozen? ⟨W.heap.size, i, none⟩ = false ∧
      (convert 28 9 (.slice (some ⟨W.heap.size, 0, none⟩) 36 cap)).run Trym.prog (WB.setCell ⟨W.heap.size, i, none⟩ (.int .u8 (cn : Int))) = .ok (.string U2) (WB.setCell ⟨W.heap.size, i, none⟩ (.int .u8 (cn : Int))) := by
  subst hcn hU2
  obtain ⟨h1, h2⟩ := conv_facts U hU W
  exact ⟨_, _, _, conv_there U hU W, h2, (h1 i hi).1, (h1 i hi).2, conv_back U hU W i c _⟩

set_option maxHeartbeats 4000000 in
theorem one_in (xs : List UInt8) (hx : xs.length = 16) (i : Nat) (hi : i < 36) (c : UInt8) (w : World) :
    Calls Trym.prog 4 #[.agg (rowV xs), .int .i64 i, .int .u8 (c.toNat : Int)] w fun e w' => e = .returned (.bool true) ∧ Below w.heap.size w w' := by
  have hsz := row_sz xs hx
  have h1c := rowV_one xs
  have hs16 : Z16.size = (rowV xs).size := by rw [rowV_size, hx]; rfl
  obtain ⟨U, hU⟩ : ∃ U : ByteArray, U = ⟨(text (nib xs)).toArray⟩ := ⟨_, rfl⟩
  have hUl : U.data.toList = text (nib xs) := by rw [hU]
  have hUs : U.size = 36 := by rw [hU]; show (text (nib xs)).toArray.size = 36; simp [text_length]
  have HT : Hid (∀ wx : World, Calls Trym.prog 10 #[.agg (rowV xs)] wx fun e w' => e = .returned (.string U) ∧ Below wx.heap.size wx w') := by rw [hU]; exact fun wx => text_any xs hx wx
  have HP : Hid (∀ wx : World, Calls Trym.prog 8 #[.string U] wx fun e w' => e = .returned (.tuple #[.agg (rowV xs), .bool true]) ∧ Below wx.heap.size wx w') := by
    intro wx
    have h := zzPack_any U wx hUs 36 (Nat.le_refl _) (by rw [hUl]; exact fun k hk => text_ok _ (fun d _ => nib_lt xs d) k hk) (fun h => absurd h (by omega))
    rw [hUl, bytes_text xs hx] at h
    exact h
  have heq : ∀ wx : World, (Op.equalIn 10000 23 (.agg (rowV xs)) (.agg (rowV xs))).run Trym.prog wx = .ok true wx := fun wx => by rw [eq_rows xs xs hx hx wx, beq_self_eq_true]
  have hg23 := Trym.guard23
  have q1 : decide ((i : Int) < 0) = false := by simp
  have q2 : decide ((36 : Int) ≤ (i : Int)) = false := by simp; omega
  have hi0 : (0 : Int) ≤ (i : Int) := by omega
  have hi1 : (i : Int) < 36 := by omega
  obtain ⟨cn, hcn⟩ : ∃ cn, c.toNat = cn := ⟨_, rfl⟩
  have hc256 : cn < 256 := by rw [← hcn]; exact UInt8.toNat_lt _
  have HU : Hid (U.data.toList = text (nib xs)) := hUl
  have HUS : Hid (U.size = 36) := hUs
  have HCN : Hid (c.toNat = cn) := hcn
  have HX : Hid (xs.length = 16) := hx
  rw [hcn]
  clear hU hUl hUs hx hcn
  go_enter Trym.func4, Trym.ntmps4
  go_wp2_with (refine wpList_load_row rfl 23 _ rfl w.heap.size rfl 23 (rowV xs) (0, 0) _ (heap_alloc_new w _) Trym.underlying23 rfl hsz ?_)
  refine (HT.out _).mono ?_
  rintro e w1 ⟨rfl, hb1⟩
  have hr1 : Row w1 w.heap.size xs := Row.below (heap_alloc_new w _) hb1 (by simp)
  have HB1 : Hid (Below w.heap.size w w1) := ((Below.refl _ _).alloc (Nat.le_refl _) _).trans (hb1.mono (by simp))
  clear hb1
  go_wp2_with fail
  refine (HP.out _).mono ?_
  rintro e w2 ⟨rfl, hb2⟩
  have hr2 : Row w2 w.heap.size xs := hr1.below hb2 hr1.lt
  have HB2 : Hid (Below w.heap.size w w2) := HB1.out.trans (hb2.mono HB1.out.size)
  have hr3 := Row.new w2 xs
  have hr4 := hr2.old (rowV xs)
  have HB3 : Hid (Below w.heap.size w ((w2.alloc (.cells Z16 23)).setRow w2.heap.size (rowV xs))) := below_row HB2.out HB2.out.size _
  clear hb2
  obtain ⟨U2, hU2⟩ : ∃ U2 : ByteArray, U2 = ⟨(U.data.toList.set i c).toArray⟩ := ⟨_, rfl⟩
  have HU2 : Hid (U2 = ⟨(U.data.toList.set i c).toArray⟩) := hU2
  clear hU2
  go_wp2_with (first | (refine wpList_store_row rfl 23 (.tmp 8) (.tmp 30) rfl w2.heap.size (rowV xs) rfl rfl 23 Z16 (by exact heap_alloc_new w2 _) hsz hs16 h1c ?_; generalize hW : (w2.alloc (.cells Z16 23)).setRow w2.heap.size (rowV xs) = W3 at hr3 hr4 HB3 ⊢; clear hW; obtain ⟨cap, WB, x0, hconv, hbW, hci, hfi, hcb⟩ := conv_pack U HUS.out W3 i hi c cn HCN.out U2 HU2.out) | (refine wpList_load_yes rfl 23 (.tmp 8) rfl w2.heap.size rfl 23 (rowV xs) (0, 0) _ (by exact hr3) Trym.underlying23 rfl hsz ?_) | (refine wpList_load_yes rfl 23 (.tmp 3) rfl w.heap.size rfl 23 (rowV xs) (0, 0) _ (by exact hr4) Trym.underlying23 rfl hsz ?_))
  have hr5 : Row (WB.setCell ⟨W3.heap.size, i, none⟩ (.int .u8 (cn : Int))) w.heap.size xs := (hr4.below hbW hr4.lt).cell_old (Nat.ne_of_lt hr4.lt) _ _
  have HB5 : Hid (Below w.heap.size w (WB.setCell ⟨W3.heap.size, i, none⟩ (.int .u8 (cn : Int)))) := (HB3.out.trans (hbW.mono HB3.out.size)).setCell HB3.out.size _
  generalize WB.setCell ⟨W3.heap.size, i, none⟩ (.int .u8 (cn : Int)) = WC at hr5 HB5 ⊢
  clear hconv hbW hci hfi hcb hr3 hr4 HB3 hr1 HB1 hr2 HB2 HP
  have hU2l : U2.data.toList = (text (nib xs)).set i c := by rw [HU2.out, HU.out]
  have hU2s : U2.size = 36 := by rw [HU2.out]; show (U.data.toList.set i c).toArray.size = 36; have := HUS.out; simpa using this
  by_cases hokc : okAt cn i = true
  · have hcon := zzPack_any U2 WC hU2s 36 (Nat.le_refl _) (by rw [hU2l]; exact fun k hk => set_ok_all xs i c hi (by rw [HCN.out]; exact hokc) k hk) (fun h => absurd h (by omega))
    rw [hU2l, show decide (36 = 36) = true from rfl] at hcon
    obtain ⟨ps, hps⟩ : ∃ ps, ps = bytesOf (nbU ((text (nib xs)).set i c) 36) := ⟨_, rfl⟩
    rw [← hps] at hcon
    have hp16 : ps.length = 16 := by rw [hps]; exact bytesOf_length _
    have hsz2 := row_sz ps hp16
    have h1c2 := rowV_one ps
    have hs162 : Z16.size = (rowV ps).size := by rw [rowV_size, hp16]; rfl
    have HPS : Hid (ps = bytesOf (nbU ((text (nib xs)).set i c) 36)) := hps
    have HP16 : Hid (ps.length = 16) := hp16
    clear hps hp16 hU2l hU2s heq HT
    refine hcon.mono ?_
    clear hcon
    rintro e w3 ⟨rfl, hb3⟩
    have HB6 : Hid (Below w.heap.size w w3) := HB5.out.trans (hb3.mono HB5.out.size)
    have hr6 := Row.new w3 ps
    have hr7 := (hr5.below hb3 hr5.lt).old (rowV ps)
    have HB7 : Hid (Below w.heap.size w ((w3.alloc (.cells Z16 23)).setRow w3.heap.size (rowV ps))) := below_row HB6.out HB6.out.size _
    clear hb3 hr5 HB5 HB6
    go_wp2_with (first | (refine wpList_store_row rfl 23 (.tmp 12) (.tmp 50) rfl w3.heap.size (rowV ps) rfl rfl 23 Z16 (by exact heap_alloc_new w3 _) hsz2 hs162 h1c2 ?_; generalize hW : (w3.alloc (.cells Z16 23)).setRow w3.heap.size (rowV ps) = W5 at hr6 hr7 HB7 ⊢; clear hW; have hr8 := Row.new W5 xs; have hr9 := hr6.old (rowV xs); have HB9 : Hid (Below w.heap.size w ((W5.alloc (.cells Z16 23)).setRow W5.heap.size (rowV xs))) := below_row HB7.out HB7.out.size _) | (refine wpList_load_row rfl 23 (.tmp 3) rfl w.heap.size rfl 23 (rowV xs) (0, 0) _ (by exact hr7) Trym.underlying23 rfl hsz ?_) | (refine wpList_store_row rfl 23 (.tmp 14) (.tmp 71) rfl W5.heap.size (rowV xs) rfl rfl 23 Z16 (by exact heap_alloc_new W5 _) hsz hs16 h1c ?_; generalize hW : (W5.alloc (.cells Z16 23)).setRow W5.heap.size (rowV xs) = W6 at hr8 hr9 HB9 ⊢; clear hW) | (go_at_call 9; refine (charOK_any cn i hc256 _).mono ?_; rintro e w' ⟨rfl, rfl⟩))
    refine (uidDash_any i _).mono ?_
    rintro e w' ⟨rfl, hw'⟩
    obtain rfl := hw'
    by_cases hd : dash i = true
    · have hpx : ps = xs := by rw [HPS.out, set_dash xs i c hi hd (by rw [HCN.out]; exact hokc)]; exact bytes_text xs HX.out
      have heq2 : ∀ wx : World, (Op.equalIn 10000 23 (.agg (rowV ps)) (.agg (rowV xs))).run Trym.prog wx = .ok true wx := fun wx => by rw [hpx, eq_rows xs xs HX.out HX.out wx, beq_self_eq_true]
      clear hpx
      go_wp2_with (first | (refine wpList_load_row rfl 23 (.tmp 12) rfl w3.heap.size rfl 23 (rowV ps) (0, 0) _ (by exact hr9) Trym.underlying23 rfl hsz2 ?_) | (refine wpList_load_row rfl 23 (.tmp 14) rfl W5.heap.size rfl 23 (rowV xs) (0, 0) _ (by exact hr8) Trym.underlying23 rfl hsz ?_))
      go_ret
      exact ⟨rfl, HB9.out⟩
    · have hd' : dash i = false := by simpa using hd
      have hv : 0 ≤ hexV cn := by simpa [okAt, hd'] using hokc
      obtain ⟨v, hvv⟩ : ∃ v : Nat, hexV cn = v := ⟨(hexV cn).toNat, by omega⟩
      have hv16 : v < 16 := by have := hexV_lt cn; omega
      clear hd hv hokc
      go_wp2
      go_loop [15, 16] (fun d t => ∃ k : Nat, k ≤ i ∧ t = .int .i64 k ∧ d = .int .i64 (dg k : Nat)) (fun _ t => i - (intOf t).toNat)
      case atStart => exact ⟨0, Nat.zero_le _, rfl, rfl⟩
      case round =>
        obtain ⟨k, hk, rfl, rfl⟩ := hrel
        have hdk : dg k ≤ 32 := dg_le (by omega)
        by_cases hki : k < i
        · by_cases hdd : dash k = true
          · have HD : Hid (dg (k + 1) = dg k) := dg_dash hdd
            go_wp2_with (go_at_call 11; refine (uidDash_any k _).mono ?_; rintro e w' ⟨rfl, rfl⟩)
            go_round
            case rel => exact ⟨k + 1, by omega, by go_num, by rw [HD.out]⟩
            case measure => simp [intOf]; omega
          · have hdd' : dash k = false := by simpa using hdd
            have HD : Hid (dg (k + 1) = dg k + 1) := dg_next hdd'
            clear hdd
            go_wp2_with (go_at_call 11; refine (uidDash_any k _).mono ?_; rintro e w' ⟨rfl, rfl⟩)
            go_round
            case rel => exact ⟨k + 1, by omega, by go_num, by rw [HD.out]; go_num⟩
            case measure => simp [intOf]; omega
        · have hki' : k = i := by omega
          subst hki'
          rcases Nat.mod_two_eq_zero_or_one (dg k) with hpar | hpar
          · obtain ⟨n, hn⟩ : ∃ n, dg k = 2 * n := ⟨dg k / 2, by omega⟩
            have hn16 : n < 16 := by have := dg_lt hi hd'; omega
            obtain ⟨x, hxx⟩ : ∃ x, x = (xs.getD n 0).toNat := ⟨_, rfl⟩
            have hx256 : x < 256 := by rw [hxx]; exact UInt8.toNat_lt _
            have hcell : W6.cell? ⟨W5.heap.size, n, none⟩ = some (.int .u8 (x : Int)) := by
              rw [cell_of_row W6 _ _ _ 23 _ hr8, hxx]
              apply rowV_get
              have := HX.out
              simp [List.getD, show n < xs.length by omega]
            have hfz : W6.frozen? ⟨W5.heap.size, n, none⟩ = false := frozen_of_row W6 _ _ _ 23 hr8
            have hn0 : (0 : Int) ≤ (n : Int) := by omega
            have hn1 : (n : Int) < 16 := by omega
            obtain ⟨y, hy⟩ : ∃ y, y = 16 * v + x % 16 := ⟨_, rfl⟩
            have hE : bits BinOp.or IntKind.u8 (bits BinOp.andNot IntKind.u8 (x : Int) 240) ((v : Int) * 16) = (y : Int) := by rw [bits_even x hx256 v hv16, hy]
            have hpse : ps = xs.set n (UInt8.ofNat y) := by
              rw [HPS.out, one_even xs HX.out k n c hi hd' hn, HCN.out, hvv, ← hxx, hy]
              rfl
            have hr10 : Row (W6.setCell ⟨W5.heap.size, n, none⟩ (.int .u8 (y : Int))) W5.heap.size ps := by rw [hpse]; exact hr8.cell_set n y (by omega)
            have hr11 : Row (W6.setCell ⟨W5.heap.size, n, none⟩ (.int .u8 (y : Int))) w3.heap.size ps := hr9.cell_old (Nat.ne_of_lt hr6.lt) _ _
            have HB10 : Hid (Below w.heap.size w (W6.setCell ⟨W5.heap.size, n, none⟩ (.int .u8 (y : Int)))) := HB9.out.setCell HB7.out.size _
            have heq3 : ∀ wx : World, (Op.equalIn 10000 23 (.agg (rowV ps)) (.agg (rowV ps))).run Trym.prog wx = .ok true wx := fun wx => by rw [eq_rows ps ps HP16.out HP16.out wx, beq_self_eq_true]
            clear hpar hxx hpse hy
            go_wp2_with (first | (go_at_call 12; refine (hexVal_any cn hc256 _).mono ?_; rintro e w' ⟨rfl, rfl⟩) | (refine wpList_load_row rfl 23 (.tmp 12) rfl w3.heap.size rfl 23 (rowV ps) (0, 0) _ (by exact hr11) Trym.underlying23 rfl hsz2 ?_) | (refine wpList_load_row rfl 23 (.tmp 14) rfl W5.heap.size rfl 23 (rowV ps) (0, 0) _ (by exact hr10) Trym.underlying23 rfl hsz2 ?_))
            go_ret
            exact ⟨rfl, HB10.out⟩
          · obtain ⟨n, hn⟩ : ∃ n, dg k = 2 * n + 1 := ⟨dg k / 2, by omega⟩
            have hn16 : n < 16 := by have := dg_lt hi hd'; omega
            obtain ⟨x, hxx⟩ : ∃ x, x = (xs.getD n 0).toNat := ⟨_, rfl⟩
            have hx256 : x < 256 := by rw [hxx]; exact UInt8.toNat_lt _
            have hcell : W6.cell? ⟨W5.heap.size, n, none⟩ = some (.int .u8 (x : Int)) := by
              rw [cell_of_row W6 _ _ _ 23 _ hr8, hxx]
              apply rowV_get
              have := HX.out
              simp [List.getD, show n < xs.length by omega]
            have hfz : W6.frozen? ⟨W5.heap.size, n, none⟩ = false := frozen_of_row W6 _ _ _ 23 hr8
            have hn0 : (0 : Int) ≤ (n : Int) := by omega
            have hn1 : (n : Int) < 16 := by omega
            have p1 : ((2 * (n : Int) + 1) / 2) = (n : Int) := by omega
            have p2 : ((2 * (n : Int) + 1) % 2) = 1 := by omega
            obtain ⟨y, hy⟩ : ∃ y, y = 16 * (x / 16) + v := ⟨_, rfl⟩
            have hE : bits BinOp.or IntKind.u8 (bits BinOp.andNot IntKind.u8 (x : Int) 15) (v : Int) = (y : Int) := by rw [bits_odd x hx256 v hv16, hy]
            have hpse : ps = xs.set n (UInt8.ofNat y) := by
              rw [HPS.out, one_odd xs HX.out k n c hi hd' hn, HCN.out, hvv, ← hxx, hy]
              rfl
            have hr10 : Row (W6.setCell ⟨W5.heap.size, n, none⟩ (.int .u8 (y : Int))) W5.heap.size ps := by rw [hpse]; exact hr8.cell_set n y (by omega)
            have hr11 : Row (W6.setCell ⟨W5.heap.size, n, none⟩ (.int .u8 (y : Int))) w3.heap.size ps := hr9.cell_old (Nat.ne_of_lt hr6.lt) _ _
            have HB10 : Hid (Below w.heap.size w (W6.setCell ⟨W5.heap.size, n, none⟩ (.int .u8 (y : Int)))) := HB9.out.setCell HB7.out.size _
            have heq3 : ∀ wx : World, (Op.equalIn 10000 23 (.agg (rowV ps)) (.agg (rowV ps))).run Trym.prog wx = .ok true wx := fun wx => by rw [eq_rows ps ps HP16.out HP16.out wx, beq_self_eq_true]
            clear hpar hxx hpse hy
            go_wp2_with (first | (go_at_call 12; refine (hexVal_any cn hc256 _).mono ?_; rintro e w' ⟨rfl, rfl⟩) | (refine wpList_load_row rfl 23 (.tmp 12) rfl w3.heap.size rfl 23 (rowV ps) (0, 0) _ (by exact hr11) Trym.underlying23 rfl hsz2 ?_) | (refine wpList_load_row rfl 23 (.tmp 14) rfl W5.heap.size rfl 23 (rowV ps) (0, 0) _ (by exact hr10) Trym.underlying23 rfl hsz2 ?_))
            go_ret
            exact ⟨rfl, HB10.out⟩
  · have hbadc : okAt cn i = false := by simpa using hokc
    have hcon := zzPack_any U2 WC hU2s i (by omega) (by rw [hU2l]; exact fun k hk => set_ok_before xs i c (by omega) k hk) (by rw [hU2l, set_getD_here _ _ _ (by rw [text_length]; exact hi), HCN.out]; exact fun _ => hbadc)
    rw [hU2l, show decide (i = 36) = false from decide_eq_false (by omega)] at hcon
    obtain ⟨ps, hps⟩ : ∃ ps, ps = bytesOf (nbU ((text (nib xs)).set i c) i) := ⟨_, rfl⟩
    rw [← hps] at hcon
    have hp16 : ps.length = 16 := by rw [hps]; exact bytesOf_length _
    have hsz2 := row_sz ps hp16
    have h1c2 := rowV_one ps
    have hs162 : Z16.size = (rowV ps).size := by rw [rowV_size, hp16]; rfl
    obtain ⟨tx, htx⟩ : ∃ tx : ByteArray, tx = ⟨(text (nib ps)).toArray⟩ := ⟨_, rfl⟩
    have hteq : tx = U.extract 0 i ++ Zt.extract i 36 := by
      apply ByteArray.ext
      apply Array.ext'
      rw [joined_text U i, HU.out, htx, ← bad_text xs i c hi, ← text_of_bytes, hps]
    have htext := fun wx => text_any ps hp16 wx
    rw [← htx] at htext
    have HT2 : Hid (∀ wx : World, Calls Trym.prog 10 #[.agg (rowV ps)] wx fun e w' => e = .returned (.string tx) ∧ Below wx.heap.size wx w') := htext
    have HTE : Hid (tx = U.extract 0 i ++ Zt.extract i 36) := hteq
    have HU2s : Hid (U2.size = 36) := hU2s
    clear hps hp16 htext htx hteq hU2l hU2s hokc hsz hs16 h1c heq HT
    refine hcon.mono ?_
    clear hcon
    rintro e w3 ⟨rfl, hb3⟩
    have HB6 : Hid (Below w.heap.size w w3) := HB5.out.trans (hb3.mono HB5.out.size)
    have hr6 := Row.new w3 ps
    have HB7 : Hid (Below w.heap.size w ((w3.alloc (.cells Z16 23)).setRow w3.heap.size (rowV ps))) := below_row HB6.out HB6.out.size _
    clear hb3
    go_wp2_with (first | (refine wpList_store_row rfl 23 (.tmp 12) (.tmp 50) rfl w3.heap.size (rowV ps) rfl rfl 23 Z16 (by exact heap_alloc_new w3 _) hsz2 hs162 h1c2 ?_; generalize hW : (w3.alloc (.cells Z16 23)).setRow w3.heap.size (rowV ps) = W5 at hr6 HB7 ⊢; clear hW) | (go_at_call 9; refine (charOK_any cn i hc256 _).mono ?_; rintro e w' ⟨rfl, rfl⟩))
    obtain ⟨cs, hcs⟩ : ∃ cs : List Value, cs.toArray = rowV ps := ⟨(rowV ps).toList, by simp⟩
    have hcl : cs.length = 16 := by have e : cs.toArray.size = (rowV ps).size := by rw [hcs]
                                    rw [← hs162] at e; simpa using e
    have hrg : W5.rangeAt w3.heap.size 0 cs := range_row (by rw [hcs]; exact hr6)
    have hu23 := Trym.underlying23
    have hi23 : (Trym.prog.info? 23).map (·.size) = some cs.length := by rw [hcl]; exact Trym.size23
    have hbk : w3.heap.size < W5.heap.size := hr6.lt
    have hone : ∀ v ∈ cs, v.oneCell' = true := by
      intro v hv
      rw [Array.all_eq_true_iff_forall_mem] at h1c2
      apply h1c2
      rw [← hcs]
      simpa using hv
    have HT' : Hid (∀ wx : World, Calls Trym.prog 10 #[.agg cs.toArray] wx fun e w' => e = .returned (.string tx) ∧ Below wx.heap.size wx w') := by rw [hcs]; exact HT2.out
    have hii : (i : Int) ≤ 36 := by omega
    have hUs' : U.size = 36 := HUS.out
    have hcat : ¬ 9223372036854775807 < min i 36 + (36 - i) := by omega
    clear hcs hr6 h1c2 hsz2 hs162 HT2 hr5 HB5 HB6 hbadc HU2 HU2s
    go_region_held3 (fun w' => w'.rangeAt w3.heap.size 0 cs) (first | go_keep_ranges | (exact range_keep hb4 (by simpa using hbk) (by simpa using hrg))) ((go_at_call 10; refine (HT'.out _).mono ?_; rintro e w4 ⟨rfl, hb4⟩))
    have HEQ : (tx.toList == (U.extract 0 i ++ Zt.extract i 36).toList) = true := by rw [← HTE.out]; exact beq_self_eq_true _
    have HB8 : Hid (Below w.heap.size w w4) := HB7.out.trans (Below.trans ((Below.refl _ _).drew) (hb4.mono (by simpa using HB7.out.size)))
    clear hb4
    go_wp2
    go_ret
    exact ⟨ret_bool HEQ, HB8.out⟩
end Go.Proofs.Qxb6003653aMods
