/-
  Seat b6003653aM: the plain mathematics of one digit turned. No Go in sight.
-/
import Derived.Test.Qxb6003653aModsPlain
namespace Go.Proofs.Qxb6003653aMods

theorem set_getD_here (l : List UInt8) (i : Nat) (c : UInt8) (h : i < l.length) : (l.set i c).getD i 0 = c := by
  simp [List.getD, h]
theorem set_getD_other (l : List UInt8) (i k : Nat) (c : UInt8) (h : k ≠ i) : (l.set i c).getD k 0 = l.getD k 0 := by
  rw [List.getD, List.getD, List.getElem?_set_ne (by omega)]

/-- All places ahead of i are good still. -/
theorem set_ok_before (xs : List UInt8) (i : Nat) (c : UInt8) (hi : i ≤ 36) (k : Nat) (hk : k < i) : okAt (((text (nib xs)).set i c).getD k 0).toNat k = true := by
  rw [set_getD_other _ _ _ _ (by omega)]
  exact text_ok _ (fun d _ => nib_lt xs d) k (by omega)

theorem set_ok_all (xs : List UInt8) (i : Nat) (c : UInt8) (hi : i < 36) (hc : okAt c.toNat i = true) (k : Nat) (hk : k < 36) : okAt (((text (nib xs)).set i c).getD k 0).toNat k = true := by
  by_cases e : k = i
  · subst e
    rw [set_getD_here _ _ _ (by rw [text_length]; exact hi)]
    exact hc
  · rw [set_getD_other _ _ _ _ e]
    exact text_ok _ (fun d _ => nib_lt xs d) k hk

/-- A dash put where a dash stands turns nothing. -/
theorem set_dash (xs : List UInt8) (i : Nat) (c : UInt8) (hi : i < 36) (hd : dash i = true) (hc : okAt c.toNat i = true) : (text (nib xs)).set i c = text (nib xs) := by
  have h45 : c.toNat = 45 := by simpa [okAt, hd] using hc
  have hc' : c = 45 := by apply UInt8.toNat_inj.1; rw [h45]; rfl
  apply List.ext_getElem?
  intro k
  by_cases e : i = k
  · subst e
    rw [List.getElem?_set_self (by rw [text_length]; exact hi), text_get _ _ hi, hd, hc']
    rfl
  · rw [List.getElem?_set_ne e]

theorem nbU_set (xs : List UInt8) (i : Nat) (c : UInt8) (hi : i < 36) (d : Nat) (hd : d < 32) : nbU ((text (nib xs)).set i c) 36 d = if pos d = i then (hexV c.toNat).toNat else nib xs d := by
  by_cases e : pos d = i
  · rw [if_pos e]
    unfold nbU
    rw [if_pos (pos_lt hd), e, set_getD_here _ _ _ (by rw [text_length]; exact hi)]
  · rw [if_neg e, ← nbU_text (nib xs) (fun d _ => nib_lt xs d) d hd]
    unfold nbU
    rw [if_pos (pos_lt hd), if_pos (pos_lt hd), set_getD_other _ _ _ _ e]

theorem one_even (xs : List UInt8) (hx : xs.length = 16) (i n : Nat) (c : UInt8) (hi : i < 36) (hd : dash i = false) (hn : dg i = 2 * n) :
    bytesOf (nbU ((text (nib xs)).set i c) 36) = xs.set n (UInt8.ofNat (16 * (hexV c.toNat).toNat + (xs.getD n 0).toNat % 16)) := by
  have hD := dg_lt hi hd
  apply List.ext_getElem?
  intro m
  by_cases hm : m < 16
  · rw [bytesOf_get _ _ hm, nbU_set xs i c hi _ (by omega), nbU_set xs i c hi _ (by omega)]
    by_cases e : n = m
    · subst e
      rw [List.getElem?_set_self (by omega), if_pos (by rw [← hn]; exact pos_dg hd), if_neg (by intro h; have := dg_pos (2 * n + 1); rw [h] at this; omega)]
      unfold nib
      rw [if_neg (by omega), show (2 * n + 1) / 2 = n by omega]
    · rw [List.getElem?_set_ne e, if_neg (by intro h; have := dg_pos (2 * m); rw [h] at this; omega), if_neg (by intro h; have := dg_pos (2 * m + 1); rw [h] at this; omega), ← bytesOf_get _ _ hm, bytes_nib xs hx]
  · rw [List.getElem?_eq_none (by rw [bytesOf_length]; omega), List.getElem?_eq_none (by simp; omega)]

theorem one_odd (xs : List UInt8) (hx : xs.length = 16) (i n : Nat) (c : UInt8) (hi : i < 36) (hd : dash i = false) (hn : dg i = 2 * n + 1) :
    bytesOf (nbU ((text (nib xs)).set i c) 36) = xs.set n (UInt8.ofNat (16 * ((xs.getD n 0).toNat / 16) + (hexV c.toNat).toNat)) := by
  have hD := dg_lt hi hd
  apply List.ext_getElem?
  intro m
  by_cases hm : m < 16
  · rw [bytesOf_get _ _ hm, nbU_set xs i c hi _ (by omega), nbU_set xs i c hi _ (by omega)]
    by_cases e : n = m
    · subst e
      rw [List.getElem?_set_self (by omega), if_neg (by intro h; have := dg_pos (2 * n); rw [h] at this; omega), if_pos (by rw [← hn]; exact pos_dg hd)]
      unfold nib
      rw [if_pos (by omega), show (2 * n) / 2 = n by omega]
    · rw [List.getElem?_set_ne e, if_neg (by intro h; have := dg_pos (2 * m); rw [h] at this; omega), if_neg (by intro h; have := dg_pos (2 * m + 1); rw [h] at this; omega), ← bytesOf_get _ _ hm, bytes_nib xs hx]
  · rw [List.getElem?_eq_none (by rw [bytesOf_length]; omega), List.getElem?_eq_none (by simp; omega)]

/-- What is read of a text with a bad byte at i: the text ahead of i, then zeros. -/
theorem bad_text (xs : List UInt8) (i : Nat) (c : UInt8) (hi : i < 36) : text (nbU ((text (nib xs)).set i c) i) = (text (nib xs)).take i ++ (text fun _ => 0).drop i := by
  rw [text_nbU _ (by simp [text_length]) i (by omega) (fun k hk => set_ok_before xs i c (by omega) k hk)]
  congr 1
  rw [List.take_set_of_le (Nat.le_refl _)]

end Go.Proofs.Qxb6003653aMods
