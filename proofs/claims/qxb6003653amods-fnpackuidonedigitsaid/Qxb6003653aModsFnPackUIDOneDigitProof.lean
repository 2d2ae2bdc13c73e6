/-
  'Rows.FnPackUIDOneDigitSaid' PROVED: the guide's frame (as its shell for slices has it) at an array of 16 bytes by value, an int and a byte; the walk: Qxb6003653aModsOne.
-/
import Derived.Test.Qxb6003653aModsRows
import Derived.Test.Qxb6003653aModsOne
import Derived.WalkKit
import Derived.ProofKit
import Derived.OpenShut
import Derived.ChangeOld
import Derived.Below
namespace Go.Proofs.Qxb6003653aMods.fnPackUIDOneDigit
open Go.ChangeShapes Go.WideShapes Go.ChangeAt Go.RowKit
set_option linter.unusedVariables false

theorem own : ownKnob Trym.prog.godebug = none := by kernel_rfl
theorem laidOut : laidOutB Trym.prog = true := by kernel_rfl
theorem cells23 : Trym.prog.cellsOf 23 = 16 := by kernel_rfl
theorem cells5 : Trym.prog.cellsOf 5 = 1 := by kernel_rfl

/-- An array of 16 bytes that can be read as data is a row of 16 bytes. -/
theorem row_of_trod {H : Type} {enc : TypeId × Value → H} {w : World} {base : Nat} {spare : Nat → Bool} {held : Bool} {fuel : Nat} {cs : Array Value} {x : DataW H × List MemPlace} (hsz : cs.size = 16)
    (h : DataW.trod enc Trym.prog w base spare held fuel 23 cs.toList = some x) : ∃ xs : List UInt8, xs.length = 16 ∧ cs = rowV xs := by
  obtain ⟨ys, m, _, _, _, hyl, hy⟩ := DataW.trod_array Trym.underlying23 h
  have key : ∀ i, i < 16 → ∃ n : Int, cs[i]? = some (.int .u8 n) ∧ 0 ≤ n ∧ n ≤ 255 := by
    intro i hi
    have hi' := hy i hi
    rw [cells5, Nat.mul_one, List.getElem?_eq_getElem (by omega)] at hi'
    obtain ⟨n, e, _, wf⟩ := DataW.trod_int Trym.underlying5 hi'
    refine ⟨n, ?_, bounds_u8 wf⟩
    have hil : i < cs.toList.length := by simpa [hsz] using hi
    rw [List.drop_eq_getElem_cons hil] at e
    simp at e
    rw [Array.getElem?_eq_getElem (by omega), e]
  refine ⟨cs.toList.map fun v => UInt8.ofNat (intOf v).toNat, by simp [hsz], ?_⟩
  apply Array.ext_getElem?
  intro i
  by_cases hi : i < 16
  · obtain ⟨n, hn, h0, h1⟩ := key i hi
    rw [hn]
    symm
    have hg : (cs.toList.map fun v => UInt8.ofNat (intOf v).toNat)[i]? = some (UInt8.ofNat n.toNat) := by
      rw [List.getElem?_map, Array.getElem?_toList, hn]
      rfl
    rw [rowV_get hg, toNat_small _ (by omega)]
    congr 2
    omega
  · rw [Array.getElem?_eq_none (by omega), Array.getElem?_eq_none (by rw [rowV_size]; simp; omega)]

/-! ### THE WALK -/
theorem walk (xs : List UInt8) (hx : xs.length = 16) (a1 a2 : Int) (w : World) (w1 : (Lit.int .i64 a1).wf = true) (w2 : (Lit.int .u8 a2).wf = true) :
    Calls Trym.prog 4 #[.agg (rowV xs), .int .i64 a1, .int .u8 a2] w fun e w' => e = .returned (.bool true) ∧ Below w.heap.size w w' := by
  by_cases hout : a1 < 0 ∨ 36 ≤ a1
  · exact one_out xs a1 a2 w hout
  · obtain ⟨i, rfl⟩ : ∃ n : Nat, a1 = n := ⟨a1.toNat, by omega⟩
    have hb := bounds_u8 w2
    have hc : a2 = ((UInt8.ofNat a2.toNat).toNat : Int) := by
      rw [toNat_small _ (by omega)]
      omega
    rw [hc]
    exact one_in xs hx i (by omega) (UInt8.ofNat a2.toNat) w

/-! ### THE ROW's STEP -/
set_option maxRecDepth 100000 in
theorem lifted (os : Os) (started : os.Started) (H : Type) (enc : TypeId × Value → H) :
    ReturnsInHanded {} Trym.checked os 4 .any (Rows.fnPackUIDOneDigitSpec.pre6 enc Trym.prog Trym.f4 Rows.fnPackUIDOneDigitRow.domain false) (Rows.fnPackUIDOneDigitSpec.post enc Trym.prog Trym.f4 false true false false) := by
  refine returnsInHanded_of_change (C := Trym.checked) own started (by kernel_rfl) Trym.func4
    (ChangeSpec.witness6 (enc := enc) (C := Trym.checked) false ⟨#[], #[.agg #[.int .u8 0, .int .u8 0, .int .u8 0, .int .u8 0, .int .u8 0, .int .u8 0, .int .u8 0, .int .u8 0, .int .u8 0, .int .u8 0, .int .u8 0, .int .u8 0, .int .u8 0, .int .u8 0, .int .u8 0, .int .u8 0], .int .i64 0, .int .u8 0], []⟩ 8 (by kernel_rfl) (by kernel_rfl) (by kernel_rfl) (by kernel_rfl)) ?_
  intro W base args ds gs before hval0 hW hcnd _
  have hval : ∀ (j : Nat) t v, Trym.f4.params[j]? = some t → args[j]? = some v → Value.okWide Trym.prog W .any base t v := hval0
  have hW' := hW
  obtain ⟨p, q, hA0, hV, rfl, hfz, hnd⟩ := hW
  have hA : DataW.TrodAll enc Trym.prog W 0 (fun _ => true) true Trym.f4.params.toList args.toList ds p := hA0
  rw [Trym.params4] at hA hval
  obtain ⟨v0, vs0, d0, ds0, p0, q0, hargs, rfl, rfl, h0, r0⟩ := trodAll_cons hA
  obtain ⟨v1, vs1, d1, ds1, p1, q1, rfl, rfl, rfl, h1, r1⟩ := trodAll_cons r0
  obtain ⟨v2, vs2, d2, ds2, p2, q2, rfl, rfl, rfl, h2, r2⟩ := trodAll_cons r1
  obtain ⟨rfl, rfl, rfl⟩ := trodAll_nil r2
  obtain rfl : args = #[v0, v1, v2] := by cases args; simp_all
  obtain ⟨rfl, rfl⟩ := trodVars_none hV
  obtain ⟨cs, rfl, hsz, _⟩ : ∃ cs, v0 = .agg cs ∧ cs.size = Trym.prog.cellsOf 23 ∧ Row.okWide Trym.prog W .any base 23 cs := by
    have := hval 0 23 v0 rfl rfl
    simpa [Value.okWide, Trym.underlying23] using this
  rw [cells23] at hsz
  have k0 := h0
  have lt0 : ∀ x ∈ p0, x.block < W.heap.size := by obtain ⟨m, hm⟩ := k0; exact DataW.trod_lt m _ _ _ hm
  obtain ⟨xs, hx, hcs⟩ : ∃ xs : List UInt8, xs.length = 16 ∧ cs = rowV xs := by
    obtain ⟨fuel, hf⟩ := h0
    exact row_of_trod hsz (by simpa [Value.cells] using hf)
  obtain ⟨a1, rfl, rfl, rfl, w1⟩ := open_int Trym.underlying3 (hval 1 3 v1 rfl rfl) h1
  obtain ⟨a2, rfl, rfl, rfl, w2⟩ := open_int Trym.underlying5 (hval 2 5 v2 rfl rfl) h2
  clear hA0 hval0
  have hwalk := walk xs hx a1 a2 W w1 w2
  rw [← hcs] at hwalk
  refine hwalk.mono fun e W' ⟨he, bel⟩ => ?_
  subst he
  exact ⟨_, rfl, _, _, _, [], _, [], hW', trodAll_mk1 (shut_bool Trym.underlying4 _), (trodAll_cons_mk (Below.trod laidOut (by kernel_rfl) (of_decide_eq_true (by kernel_rfl)) k0 bel lt0) (trodAll_cons_mk (shut_int Trym.underlying3 w1) (trodAll_cons_mk (shut_int Trym.underlying5 w2) trodAll_mk0))), rfl, bel.frame _, fun h => by cases h⟩

theorem over : Rows.fnPackUIDOneDigitRow.holds Trym.pinned (OpenSpec.ofChange Rows.fnPackUIDOneDigitSpec) :=
  OpenClaim.holds_of_wide 4 Trym.f4 rfl rfl rfl rfl rfl rfl rfl ⟨rfl, rfl, rfl, rfl, rfl⟩ rfl rfl rfl rfl rfl (by kernel_rfl) Trym.func4 (by kernel_rfl)
    (of_decide_eq_true (by kernel_rfl)) (by unfold Func.isWrapper; first | (rw [if_pos (by decide +kernel)]; kernel_rfl) | (rw [if_neg (by decide +kernel)]; exact ⟨rfl, rfl⟩))
    (fun os started H enc _ => lifted os started H enc)

/-- THE STATEMENT -/
theorem proved : Rows.FnPackUIDOneDigitSaid := over
#print axioms proved
end Go.Proofs.Qxb6003653aMods.fnPackUIDOneDigit
