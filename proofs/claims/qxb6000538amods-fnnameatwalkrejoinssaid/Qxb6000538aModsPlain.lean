/-
  Seat b6000538aM: plain facts on lists of bytes: the first slash from a place on. No Go in sight.
-/
import Derived.Lib.Strings
import Derived.Lib.Bytealg
import Derived.Lib.IndexLaws
namespace Go.Proofs.Qxb6000538aMods

/-- No slash in l from a on, ahead of e. -/
def NoSlash (l : List UInt8) (a e : Nat) : Prop := ∀ j, a ≤ j → j < e → l[j]? ≠ some 47

/-- The name that begins at a ends at e. -/
def Stops (l : List UInt8) (a e : Nat) : Prop := a ≤ e ∧ e ≤ l.length ∧ NoSlash l a e ∧ (e = l.length ∨ l[e]? = some 47)

theorem stops_ex (l : List UInt8) (a : Nat) (h : a ≤ l.length) : ∃ e, Stops l a e := by
  obtain ⟨d, hd⟩ : ∃ d, l.length = a + d := ⟨l.length - a, by omega⟩
  clear h
  induction d generalizing a with
  | zero => exact ⟨a, Nat.le_refl _, by omega, fun j h1 h2 => absurd h2 (by omega), .inl (by omega)⟩
  | succ d ih =>
    by_cases hs : l[a]? = some 47
    · exact ⟨a, Nat.le_refl _, by omega, fun j h1 h2 => absurd h2 (by omega), .inr hs⟩
    · obtain ⟨e, h1, h2, h3, h4⟩ := ih (a + 1) (by omega)
      refine ⟨e, by omega, h2, fun j a1 a2 => ?_, h4⟩
      by_cases hj : j = a
      · subst hj; exact hs
      · exact h3 j (by omega) a2

theorem idx_none (l : List UInt8) (a : Nat) (h : NoSlash l a l.length) : Lib.indexByte (l.drop a) 47 = -1 := by
  have hge := Lib.indexByte_ge (l.drop a) 47
  by_cases hn : Lib.indexByte (l.drop a) 47 = -1
  · exact hn
  · obtain ⟨o, ho⟩ : ∃ o : Nat, Lib.indexByte (l.drop a) 47 = o := ⟨(Lib.indexByte (l.drop a) 47).toNat, by omega⟩
    have h1 := (Lib.indexByte_some ho).1
    rw [List.getElem?_drop] at h1
    have hlt : a + o < l.length := (List.getElem?_eq_some_iff.1 h1).1
    exact absurd h1 (h _ (by omega) hlt)

theorem idx_some (l : List UInt8) (a e : Nat) (hae : a ≤ e) (h : NoSlash l a e) (he : l[e]? = some 47) : Lib.indexByte (l.drop a) 47 = (e : Int) - (a : Int) := by
  have hge := Lib.indexByte_ge (l.drop a) 47
  by_cases hn : Lib.indexByte (l.drop a) 47 = -1
  · have := Lib.indexByte_none hn (e - a)
    rw [List.getElem?_drop, show a + (e - a) = e by omega] at this
    exact absurd he this
  · obtain ⟨o, ho⟩ : ∃ o : Nat, Lib.indexByte (l.drop a) 47 = o := ⟨(Lib.indexByte (l.drop a) 47).toNat, by omega⟩
    obtain ⟨h1, h2⟩ := Lib.indexByte_some ho
    rw [List.getElem?_drop] at h1
    by_cases c1 : a + o < e
    · exact absurd h1 (h _ (by omega) c1)
    · by_cases c2 : e < a + o
      · have := h2 (e - a) (by omega)
        rw [List.getElem?_drop, show a + (e - a) = e by omega] at this
        exact absurd he this
      · rw [ho]; omega

end Go.Proofs.Qxb6000538aMods
