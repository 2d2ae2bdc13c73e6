/-
  Seat b6000538aM: plain facts on what the walk over the names has gathered. No Go in sight.
-/
import Derived.Test.Qxb6000538aModsPlain
namespace Go.Proofs.Qxb6000538aMods

/-- How many slashes. -/
def slashes (l : List UInt8) : Nat := (l.filter fun c => c == 47).length

theorem slashes_le (l : List UInt8) : slashes l ≤ l.length := List.length_filter_le _ _
theorem slashes_append (a b : List UInt8) : slashes (a ++ b) = slashes a + slashes b := by simp [slashes]
theorem slashes_one : slashes [47] = 1 := by decide
theorem slashes_none (l : List UInt8) (h : ∀ j : Nat, l[j]? ≠ some 47) : slashes l = 0 := by
  unfold slashes
  rw [List.length_eq_zero_iff, List.filter_eq_nil_iff]
  intro x hx
  obtain ⟨j, hj, rfl⟩ := List.getElem_of_mem hx
  have := h j
  rw [List.getElem?_eq_getElem hj] at this
  simpa using this

/-- The bytes from a up to e. -/
def piece (l : List UInt8) (a e : Nat) : List UInt8 := (l.drop a).take (e - a)

theorem piece_slashes (l : List UInt8) (a e : Nat) (h : NoSlash l a e) : slashes (piece l a e) = 0 := by
  apply slashes_none
  intro j
  unfold piece
  by_cases hj : j < e - a
  · rw [List.getElem?_take_of_lt hj, List.getElem?_drop]
    exact h _ (by omega) (by omega)
  · rw [List.getElem?_take_eq_none (by omega)]
    simp

theorem take_piece (l : List UInt8) (a e : Nat) (h : a ≤ e) : l.take a ++ piece l a e = l.take e := by
  unfold piece
  conv => rhs; rw [show e = a + (e - a) by omega, List.take_add]

theorem take_slash (l : List UInt8) (a : Nat) (h : l[a]? = some 47) : l.take a ++ [47] = l.take (a + 1) := by
  have hl := (List.getElem?_eq_some_iff.1 h)
  obtain ⟨h1, h2⟩ := hl
  rw [List.take_succ_eq_append_getElem h1, h2]

/-- What the walk over the names has gathered when it stands at a: c names, their bytes joined: bs. -/
def At (l : List UInt8) (a c : Nat) (bs : List UInt8) : Prop :=
  (a = 0 ∧ c = 0 ∧ bs = []) ∨ (1 ≤ a ∧ a ≤ l.length + 1 ∧ c = slashes (l.take (a - 1)) + 1 ∧ bs = l.take (a - 1) ∧ (a = l.length + 1 ∨ l[a - 1]? = some 47))

theorem At.start (l : List UInt8) : At l 0 0 [] := .inl ⟨rfl, rfl, rfl⟩

theorem At.first {l : List UInt8} {e : Nat} (h : Stops l 0 e) : At l (e + 1) 1 (piece l 0 e) := by
  obtain ⟨_, h2, h3, h4⟩ := h
  have e1 : piece l 0 e = l.take e := by simp [piece]
  refine .inr ⟨by omega, by omega, ?_, by simpa using e1, ?_⟩
  · have := piece_slashes l 0 e h3
    rw [e1] at this
    simp [this]
  · rcases h4 with h4 | h4
    · exact .inl (by omega)
    · exact .inr (by simpa using h4)

theorem At.next {l : List UInt8} {a c e : Nat} {bs : List UInt8} (h : At l a c bs) (hc : 1 ≤ c) (ha : a ≤ l.length) (hs : Stops l a e) : At l (e + 1) (c + 1) (bs ++ [47] ++ piece l a e) := by
  rcases h with ⟨_, h, _⟩ | ⟨h1, _, h3, h4, h5⟩
  · omega
  · obtain ⟨s1, s2, s3, s4⟩ := hs
    have h6 : l[a - 1]? = some 47 := by
      rcases h5 with h5 | h5
      · omega
      · exact h5
    have t1 : l.take (a - 1) ++ [47] = l.take a := by
      rw [take_slash l (a - 1) h6, show a - 1 + 1 = a by omega]
    have t2 : bs ++ [47] ++ piece l a e = l.take e := by rw [h4, t1, take_piece l a e s1]
    refine .inr ⟨by omega, by omega, ?_, by simpa using t2, ?_⟩
    · simp only [Nat.add_sub_cancel]
      rw [← take_piece l a e s1, ← t1, slashes_append, slashes_append, piece_slashes l a e s3, slashes_one, h3]
    · rcases s4 with s4 | s4
      · exact .inl (by omega)
      · exact .inr (by simpa using s4)

theorem At.done {l : List UInt8} {a c : Nat} {bs : List UInt8} (h : At l a c bs) (ha : l.length < a) : a = l.length + 1 ∧ c = slashes l + 1 ∧ bs = l := by
  rcases h with ⟨h, _⟩ | ⟨h1, h2, h3, h4, _⟩
  · omega
  · have e : a - 1 = l.length := by omega
    rw [e] at h3 h4
    simp at h3 h4
    exact ⟨by omega, h3, h4⟩

theorem At.le {l : List UInt8} {a c : Nat} {bs : List UInt8} (h : At l a c bs) : bs.length ≤ l.length ∧ c ≤ l.length + 1 ∧ a ≤ l.length + 1 := by
  rcases h with ⟨h1, h2, h3⟩ | ⟨h1, h2, h3, h4, _⟩
  · subst h3; simp; omega
  · have := slashes_le (l.take (a - 1))
    have h6 : (l.take (a - 1)).length ≤ l.length := by rw [List.length_take]; omega
    subst h4
    omega

theorem At.zero {l : List UInt8} {a c : Nat} {bs : List UInt8} (h : At l a c bs) (hc : c = 0) : a = 0 ∧ bs = [] := by
  rcases h with ⟨h1, h2, h3⟩ | ⟨h1, h2, h3, h4, _⟩
  · exact ⟨h1, h3⟩
  · omega

theorem piece_length (l : List UInt8) (a e : Nat) (he : e ≤ l.length) : (piece l a e).length = e - a := by
  unfold piece
  rw [List.length_take, List.length_drop]
  omega

end Go.Proofs.Qxb6000538aMods
