/-
  Seat b6003653aM: the plain mathematics of written uids: places, digits, nibbles, bytes. No Go in sight.
-/
import Derived.Below
namespace Go.Proofs.Qxb6003653aMods

/-- Has the written form a dash at i? -/
def dash (i : Nat) : Bool := i == 8 || i == 13 || i == 18 || i == 23
/-- How many digits stand ahead of place i. -/
def dg (i : Nat) : Nat := i - ((if 8 < i then 1 else 0) + (if 13 < i then 1 else 0) + (if 18 < i then 1 else 0) + (if 23 < i then 1 else 0))
/-- The place of digit d. -/
def pos (d : Nat) : Nat := d + (if 8 ≤ d then 1 else 0) + (if 12 ≤ d then 1 else 0) + (if 16 ≤ d then 1 else 0) + (if 20 ≤ d then 1 else 0)

theorem dash_eq (i : Nat) : dash i = true ↔ i = 8 ∨ i = 13 ∨ i = 18 ∨ i = 23 := by simp [dash, or_assoc]
theorem dg_dash {i : Nat} (h : dash i = true) : dg (i + 1) = dg i := by
  rcases (dash_eq i).1 h with rfl | rfl | rfl | rfl <;> rfl
theorem dg_next {i : Nat} (h : dash i = false) : dg (i + 1) = dg i + 1 := by
  have h' : ¬ (i = 8 ∨ i = 13 ∨ i = 18 ∨ i = 23) := fun h2 => by rw [(dash_eq i).2 h2] at h; cases h
  unfold dg
  repeat' split
  all_goals omega
theorem dg_le {i : Nat} (h : i ≤ 36) : dg i ≤ 32 := by
  unfold dg
  repeat' split
  all_goals omega
theorem dg_lt {i : Nat} (h : i < 36) (hd : dash i = false) : dg i < 32 := by
  have h1 := dg_next hd
  have h2 := dg_le (i := i + 1) (by omega)
  omega
theorem pos_dg {i : Nat} (hd : dash i = false) : pos (dg i) = i := by
  have h' : ¬ (i = 8 ∨ i = 13 ∨ i = 18 ∨ i = 23) := fun h2 => by rw [(dash_eq i).2 h2] at hd; cases hd
  unfold pos dg
  repeat' split
  all_goals omega
theorem dg_pos (d : Nat) : dg (pos d) = d := by
  unfold pos dg
  repeat' split
  all_goals omega
theorem pos_lt {d : Nat} (h : d < 32) : pos d < 36 := by
  unfold pos
  repeat' split
  all_goals omega
theorem pos_nodash (d : Nat) : dash (pos d) = false := by
  cases h : dash (pos d) with
  | false => rfl
  | true =>
    have h2 := (dash_eq _).1 h
    unfold pos at h2
    repeat' split at h2
    all_goals omega
theorem pos_mono {a b : Nat} (h : a < b) : pos a < pos b := by
  unfold pos
  repeat' split
  all_goals omega
theorem dg_mono {a b : Nat} (h : a ≤ b) : dg a ≤ dg b := by
  unfold dg
  repeat' split
  all_goals omega

/-- The digit of value v. -/
def hexD (v : Nat) : UInt8 := if v < 10 then UInt8.ofNat (48 + v) else UInt8.ofNat (87 + v)
/-- The value of a digit, or -1. -/
def hexV (c : Nat) : Int := if 48 ≤ c ∧ c ≤ 57 then (c : Int) - 48 else if 97 ≤ c ∧ c ≤ 102 then (c : Int) - 87 else -1

theorem hexV_lt (c : Nat) : hexV c < 16 := by unfold hexV; repeat' split
                                              all_goals omega
theorem hexV_ge (c : Nat) : -1 ≤ hexV c := by unfold hexV; repeat' split
                                              all_goals omega
theorem hexV_hexD : ∀ v : Nat, v < 16 → hexV (hexD v).toNat = v := by decide +kernel
theorem hexD_hexV_tab : ∀ c : Nat, c < 256 → 0 ≤ hexV c → (hexD (hexV c).toNat).toNat = c := by decide +kernel
theorem hexD_hexV (c : UInt8) (h : 0 ≤ hexV c.toNat) : hexD (hexV c.toNat).toNat = c := by
  apply UInt8.toNat_inj.1
  exact hexD_hexV_tab c.toNat (UInt8.toNat_lt c) h

/-- May c stand at place i? -/
def okAt (c i : Nat) : Bool := if dash i then c == 45 else decide (0 ≤ hexV c)

/-- The written form of 32 nibbles. -/
def text (nb : Nat → Nat) : List UInt8 := (List.range 36).map fun i => if dash i then 45 else hexD (nb (dg i))
/-- The 16 bytes of 32 nibbles. -/
def bytesOf (nb : Nat → Nat) : List UInt8 := (List.range 16).map fun n => UInt8.ofNat (16 * nb (2 * n) + nb (2 * n + 1))
/-- The nibbles of a list of bytes. -/
def nib (xs : List UInt8) (d : Nat) : Nat := if d % 2 = 0 then (xs.getD (d / 2) 0).toNat / 16 else (xs.getD (d / 2) 0).toNat % 16
/-- The nibbles that the text l says ahead of place j; behind it: zeros. -/
def nbU (l : List UInt8) (j : Nat) (d : Nat) : Nat := if pos d < j then (hexV (l.getD (pos d) 0).toNat).toNat else 0

theorem nib_lt (xs : List UInt8) (d : Nat) : nib xs d < 16 := by
  unfold nib
  have := UInt8.toNat_lt (xs.getD (d / 2) 0)
  split <;> omega
theorem nbU_lt (l : List UInt8) (j d : Nat) : nbU l j d < 16 := by
  unfold nbU
  have := hexV_lt (l.getD (pos d) 0).toNat
  split <;> omega

theorem text_length (nb : Nat → Nat) : (text nb).length = 36 := by simp [text]
theorem bytesOf_length (nb : Nat → Nat) : (bytesOf nb).length = 16 := by simp [bytesOf]

theorem text_get (nb : Nat → Nat) (i : Nat) (h : i < 36) : (text nb)[i]? = some (if dash i then 45 else hexD (nb (dg i))) := by
  simp [text, h]
theorem bytesOf_get (nb : Nat → Nat) (n : Nat) (h : n < 16) : (bytesOf nb)[n]? = some (UInt8.ofNat (16 * nb (2 * n) + nb (2 * n + 1))) := by
  simp [bytesOf, h]

theorem bytesOf_congr {a b : Nat → Nat} (h : ∀ d, d < 32 → a d = b d) : bytesOf a = bytesOf b := by
  unfold bytesOf
  apply List.map_congr_left
  intro n hn
  have : n < 16 := by simpa using hn
  rw [h (2 * n) (by omega), h (2 * n + 1) (by omega)]

theorem text_congr {a b : Nat → Nat} (h : ∀ d, d < 32 → a d = b d) : text a = text b := by
  unfold text
  apply List.map_congr_left
  intro i hi
  have hi' : i < 36 := by simpa using hi
  cases hd : dash i with
  | true => rfl
  | false => rw [h _ (dg_lt hi' hd)]

theorem bytes_nib (xs : List UInt8) (h : xs.length = 16) : bytesOf (nib xs) = xs := by
  apply List.ext_getElem?
  intro n
  by_cases hn : n < 16
  · rw [bytesOf_get _ _ hn, List.getElem?_eq_getElem (by omega)]
    congr 1
    have e1 : (2 * n) / 2 = n := by omega
    have e2 : (2 * n + 1) / 2 = n := by omega
    have e3 : (2 * n) % 2 = 0 := by omega
    have e4 : ¬ (2 * n + 1) % 2 = 0 := by omega
    have e5 : xs.getD n 0 = xs[n] := by simp [List.getD, show n < xs.length by omega]
    unfold nib
    rw [if_pos e3, if_neg e4, e1, e2, e5]
    apply UInt8.toNat_inj.1
    rw [UInt8.toNat_ofNat']
    have := UInt8.toNat_lt (xs[n])
    omega
  · rw [List.getElem?_eq_none (by rw [bytesOf_length]; omega), List.getElem?_eq_none (by omega)]

theorem nib_bytes (nb : Nat → Nat) (hb : ∀ d, d < 32 → nb d < 16) (d : Nat) (hd : d < 32) : nib (bytesOf nb) d = nb d := by
  have hn : d / 2 < 16 := by omega
  have e : (bytesOf nb).getD (d / 2) 0 = UInt8.ofNat (16 * nb (2 * (d / 2)) + nb (2 * (d / 2) + 1)) := by
    rw [List.getD, bytesOf_get _ _ hn]; rfl
  have h1 := hb (2 * (d / 2)) (by omega)
  have h2 := hb (2 * (d / 2) + 1) (by omega)
  unfold nib
  rw [e, UInt8.toNat_ofNat']
  split
  · have : 2 * (d / 2) = d := by omega
    rw [this] at h1 h2 ⊢
    omega
  · have : 2 * (d / 2) + 1 = d := by omega
    rw [this] at h2 ⊢
    omega

/-- What is read back of a text that is good ahead of j: that part, then zeros. -/
theorem text_nbU (l : List UInt8) (hl : l.length = 36) (j : Nat) (hj : j ≤ 36) (hok : ∀ i, i < j → okAt (l.getD i 0).toNat i = true) :
    text (nbU l j) = l.take j ++ (text fun _ => 0).drop j := by
  apply List.ext_getElem?
  intro i
  by_cases hi : i < 36
  · rw [text_get _ _ hi]
    by_cases hij : i < j
    · rw [List.getElem?_append_left (by rw [List.length_take]; omega), List.getElem?_take_of_lt hij, List.getElem?_eq_getElem (by omega)]
      congr 1
      have ho := hok i hij
      have e5 : l.getD i 0 = l[i] := by simp [List.getD, show i < l.length by omega]
      rw [e5] at ho
      unfold okAt at ho
      cases hd : dash i with
      | true =>
        rw [hd] at ho
        simp only [if_true, beq_iff_eq] at ho
        simp only [if_true]
        apply UInt8.toNat_inj.1
        rw [ho]; rfl
      | false =>
        rw [hd] at ho
        simp only [Bool.false_eq_true, if_false, decide_eq_true_eq] at ho
        simp only [Bool.false_eq_true, if_false]
        unfold nbU
        rw [pos_dg hd, if_pos hij, e5]
        exact hexD_hexV _ ho
    · rw [List.getElem?_append_right (by rw [List.length_take]; omega), List.length_take, List.getElem?_drop]
      rw [show j + (i - min j l.length) = i by omega, text_get _ _ hi]
      congr 1
      cases hd : dash i with
      | true => rfl
      | false =>
        simp only [Bool.false_eq_true, if_false]
        unfold nbU
        rw [pos_dg hd, if_neg hij]
  · rw [List.getElem?_eq_none (by rw [text_length]; omega), List.getElem?_eq_none (by simp [text_length]; omega)]

theorem text_whole (l : List UInt8) (hl : l.length = 36) (hok : ∀ i, i < 36 → okAt (l.getD i 0).toNat i = true) : text (nbU l 36) = l := by
  rw [text_nbU l hl 36 (Nat.le_refl _) hok, List.take_of_length_le (by omega), List.drop_eq_nil_of_le (by rw [text_length]; omega), List.append_nil]

/-- A dash is passed over. -/
theorem nbU_dash (l : List UInt8) (k : Nat) (hd : dash k = true) : nbU l (k + 1) = nbU l k := by
  funext d
  unfold nbU
  have h1 := pos_nodash d
  have h2 : pos d ≠ k := fun e => by rw [e, hd] at h1; cases h1
  by_cases h : pos d < k
  · rw [if_pos h, if_pos (by omega)]
  · rw [if_neg h, if_neg (by omega)]

theorem nbU_other (l : List UInt8) (k d : Nat) (hne : d ≠ dg k) : nbU l (k + 1) d = nbU l k d := by
  unfold nbU
  have h2 : pos d ≠ k := fun e => hne (by rw [← e, dg_pos])
  by_cases h : pos d < k
  · rw [if_pos h, if_pos (by omega)]
  · rw [if_neg h, if_neg (by omega)]

theorem nbU_here (l : List UInt8) (k : Nat) (hd : dash k = false) : nbU l (k + 1) (dg k) = (hexV (l.getD k 0).toNat).toNat := by
  unfold nbU
  rw [pos_dg hd, if_pos (by omega)]

theorem nbU_later (l : List UInt8) (k d : Nat) (hd : dash k = false) (h : dg k ≤ d) : nbU l k d = 0 := by
  unfold nbU
  have h1 := pos_dg hd
  by_cases e : dg k = d
  · rw [if_neg (by rw [← e, h1]; omega)]
  · have := pos_mono (show dg k < d by omega)
    rw [if_neg (by omega)]

theorem nbU_zero (l : List UInt8) : nbU l 0 = fun _ => 0 := by funext d; simp [nbU]

/-- One digit more: the first of its byte. -/
theorem bytes_even (l : List UInt8) (k n : Nat) (hk : k < 36) (hd : dash k = false) (hn : dg k = 2 * n) :
    (bytesOf (nbU l k))[n]? = some 0 ∧ bytesOf (nbU l (k + 1)) = (bytesOf (nbU l k)).set n (UInt8.ofNat (16 * (hexV (l.getD k 0).toNat).toNat)) := by
  have hD := dg_lt hk hd
  have hn16 : n < 16 := by omega
  have z1 := nbU_later l k (2 * n) hd (by omega)
  have z2 := nbU_later l k (2 * n + 1) hd (by omega)
  refine ⟨by rw [bytesOf_get _ _ hn16, z1, z2]; rfl, ?_⟩
  apply List.ext_getElem?
  intro m
  by_cases hm : m < 16
  · rw [bytesOf_get _ _ hm]
    by_cases e : n = m
    · subst e
      rw [List.getElem?_set_self (by rw [bytesOf_length]; exact hm), ← hn, nbU_here l k hd, nbU_other l k (dg k + 1) (by omega), hn, z2, Nat.add_zero]
    · rw [List.getElem?_set_ne e, bytesOf_get _ _ hm, nbU_other l k (2 * m) (by omega), nbU_other l k (2 * m + 1) (by omega)]
  · rw [List.getElem?_eq_none (by rw [bytesOf_length]; omega), List.getElem?_eq_none (by simp [bytesOf_length]; omega)]

/-- One digit more: the second of its byte. -/
theorem bytes_odd (l : List UInt8) (k n : Nat) (hk : k < 36) (hd : dash k = false) (hn : dg k = 2 * n + 1) :
    (bytesOf (nbU l k))[n]? = some (UInt8.ofNat (16 * nbU l k (2 * n))) ∧ bytesOf (nbU l (k + 1)) = (bytesOf (nbU l k)).set n (UInt8.ofNat (16 * nbU l k (2 * n) + (hexV (l.getD k 0).toNat).toNat)) := by
  have hD := dg_lt hk hd
  have hn16 : n < 16 := by omega
  have z2 := nbU_later l k (2 * n + 1) hd (by omega)
  refine ⟨by rw [bytesOf_get _ _ hn16, z2, Nat.add_zero], ?_⟩
  apply List.ext_getElem?
  intro m
  by_cases hm : m < 16
  · rw [bytesOf_get _ _ hm]
    by_cases e : n = m
    · subst e
      rw [List.getElem?_set_self (by rw [bytesOf_length]; exact hm), nbU_other l k (2 * n) (by omega), ← hn, nbU_here l k hd]
    · rw [List.getElem?_set_ne e, bytesOf_get _ _ hm, nbU_other l k (2 * m) (by omega), nbU_other l k (2 * m + 1) (by omega)]
  · rw [List.getElem?_eq_none (by rw [bytesOf_length]; omega), List.getElem?_eq_none (by simp [bytesOf_length]; omega)]

/-- From the first place that is not good: there is one, or all are good. -/
theorem first_bad (l : List UInt8) : ∃ j, j ≤ 36 ∧ (∀ i, i < j → okAt (l.getD i 0).toNat i = true) ∧ (j < 36 → okAt (l.getD j 0).toNat j = false) := by
  have key : ∀ n, n ≤ 36 → ∃ j, j ≤ n ∧ (∀ i, i < j → okAt (l.getD i 0).toNat i = true) ∧ (j < n → okAt (l.getD j 0).toNat j = false) := by
    intro n
    induction n with
    | zero => intro _; exact ⟨0, Nat.le_refl _, fun i h => absurd h (Nat.not_lt_zero _), fun h => absurd h (Nat.not_lt_zero _)⟩
    | succ n ih =>
      intro hn
      obtain ⟨j, h1, h2, h3⟩ := ih (by omega)
      by_cases hj : j < n
      · exact ⟨j, by omega, h2, fun _ => h3 hj⟩
      · have e : j = n := by omega
        subst e
        by_cases ho : okAt (l.getD j 0).toNat j = true
        · exact ⟨j + 1, Nat.le_refl _, fun i hi => by
            by_cases e : i = j
            · rw [e]; exact ho
            · exact h2 i (by omega), fun h => absurd h (by omega)⟩
        · exact ⟨j, by omega, h2, fun _ => by simpa using ho⟩
  exact key 36 (Nat.le_refl _)

/-! ### One digit turned -/
theorem text_ok (nb : Nat → Nat) (hb : ∀ d, d < 32 → nb d < 16) (i : Nat) (hi : i < 36) : okAt ((text nb).getD i 0).toNat i = true := by
  rw [List.getD, text_get _ _ hi]
  unfold okAt
  cases hd : dash i with
  | true => rfl
  | false =>
    simp only [Bool.false_eq_true, if_false, Option.getD_some, decide_eq_true_eq]
    rw [hexV_hexD _ (hb _ (dg_lt hi hd))]
    omega

theorem nbU_text (nb : Nat → Nat) (hb : ∀ d, d < 32 → nb d < 16) (d : Nat) (hd : d < 32) : nbU (text nb) 36 d = nb d := by
  unfold nbU
  rw [if_pos (pos_lt hd), List.getD, text_get _ _ (pos_lt hd), pos_nodash]
  simp only [Bool.false_eq_true, if_false, Option.getD_some]
  rw [dg_pos, hexV_hexD _ (hb _ hd)]
  omega

theorem bytes_text (xs : List UInt8) (h : xs.length = 16) : bytesOf (nbU (text (nib xs)) 36) = xs := by
  rw [bytesOf_congr (b := nib xs) (fun d hd => nbU_text _ (fun d _ => nib_lt xs d) d hd), bytes_nib xs h]

end Go.Proofs.Qxb6003653aMods
