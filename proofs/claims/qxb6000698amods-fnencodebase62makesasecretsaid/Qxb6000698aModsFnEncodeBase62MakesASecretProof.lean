/-
  'Rows.FnEncodeBase62MakesASecretSaid' PROVED: the guide's frame (as its shell for slices has it) at an array of 32 bytes by value; the walk: Qxb6000698aModsEncode.
-/
import Derived.Test.Qxb6000698aModsRows
import Derived.Test.Qxb6000698aModsEncode
import Derived.WalkKit
import Derived.ProofKit
import Derived.OpenShut
import Derived.ChangeOld
import Derived.Below
namespace Go.Proofs.Qxb6000698aMods.fnEncodeBase62MakesASecret
open Go.ChangeShapes Go.WideShapes Go.ChangeAt Go.RowKit
set_option linter.unusedVariables false

theorem own : ownKnob Trym.prog.godebug = none := by kernel_rfl
theorem laidOut : laidOutB Trym.prog = true := by kernel_rfl
theorem cells52 : Trym.prog.cellsOf 52 = 32 := by kernel_rfl
theorem cells5 : Trym.prog.cellsOf 5 = 1 := by kernel_rfl

/-- An array of 32 bytes that can be read as data is a row of 32 bytes. -/
theorem row_of_trod {H : Type} {enc : TypeId × Value → H} {w : World} {base : Nat} {spare : Nat → Bool} {held : Bool} {fuel : Nat} {cs : Array Value} {x : DataW H × List MemPlace} (hsz : cs.size = 32)
    (h : DataW.trod enc Trym.prog w base spare held fuel 52 cs.toList = some x) : ByteRow 32 cs := by
  obtain ⟨xs, m, _, _, _, hxl, hx⟩ := DataW.trod_array Trym.underlying52 h
  refine ⟨hsz, fun i hi => ?_⟩
  have hi' := hx i hi
  rw [cells5, Nat.mul_one, List.getElem?_eq_getElem (by omega)] at hi'
  obtain ⟨n, e, _, wf⟩ := DataW.trod_int Trym.underlying5 hi'
  refine ⟨n, ?_, bounds_u8 wf⟩
  have hil : i < cs.toList.length := by simpa [hsz] using hi
  rw [List.drop_eq_getElem_cons hil] at e
  simp at e
  rw [Array.getElem?_eq_getElem (by omega), e]

set_option maxRecDepth 100000 in
theorem lifted (os : Os) (started : os.Started) (H : Type) (enc : TypeId × Value → H) :
    ReturnsInHanded {} Trym.checked os 8 .any (Rows.fnEncodeBase62MakesASecretSpec.pre6 enc Trym.prog Trym.f8 Rows.fnEncodeBase62MakesASecretRow.domain false) (Rows.fnEncodeBase62MakesASecretSpec.post enc Trym.prog Trym.f8 false true false false) := by
  refine returnsInHanded_of_change (C := Trym.checked) own started (by kernel_rfl) Trym.func8
    (ChangeSpec.witness6 (enc := enc) (C := Trym.checked) false ⟨#[], #[.agg #[.int .u8 0, .int .u8 0, .int .u8 0, .int .u8 0, .int .u8 0, .int .u8 0, .int .u8 0, .int .u8 0, .int .u8 0, .int .u8 0, .int .u8 0, .int .u8 0, .int .u8 0, .int .u8 0, .int .u8 0, .int .u8 0, .int .u8 0, .int .u8 0, .int .u8 0, .int .u8 0, .int .u8 0, .int .u8 0, .int .u8 0, .int .u8 0, .int .u8 0, .int .u8 0, .int .u8 0, .int .u8 0, .int .u8 0, .int .u8 0, .int .u8 0, .int .u8 0]], []⟩ 8 (by kernel_rfl) (by kernel_rfl) (by kernel_rfl) (by kernel_rfl)) ?_
  intro W base args ds gs before hval0 hW hcnd _
  have hval : ∀ (j : Nat) t v, Trym.f8.params[j]? = some t → args[j]? = some v → Value.okWide Trym.prog W .any base t v := hval0
  have hW' := hW
  obtain ⟨p, q, hA0, hV, rfl, hfz, hnd⟩ := hW
  have hA : DataW.TrodAll enc Trym.prog W 0 (fun _ => true) true Trym.f8.params.toList args.toList ds p := hA0
  rw [Trym.params8] at hA hval
  obtain ⟨v0, vs0, d0, ds0, p0, q0, hargs, rfl, rfl, h0, r0⟩ := trodAll_cons hA
  obtain ⟨rfl, rfl, rfl⟩ := trodAll_nil r0
  obtain rfl : args = #[v0] := by cases args; simp_all
  obtain ⟨rfl, rfl⟩ := trodVars_none hV
  obtain ⟨cs, rfl, hsz, _⟩ : ∃ cs, v0 = .agg cs ∧ cs.size = Trym.prog.cellsOf 52 ∧ Row.okWide Trym.prog W .any base 52 cs := by
    have := hval 0 52 v0 rfl rfl
    simpa [Value.okWide, Trym.underlying52] using this
  rw [cells52] at hsz
  have k0 := h0
  have lt0 : ∀ x ∈ p0, x.block < W.heap.size := by obtain ⟨m, hm⟩ := k0; exact DataW.trod_lt m _ _ _ hm
  have hb : ByteRow 32 cs := by
    obtain ⟨fuel, hf⟩ := h0
    exact row_of_trod hsz (by simpa [Value.cells] using hf)
  clear hA0 hval0
  refine (law_any cs W hb).mono fun e W' ⟨he, bel⟩ => ?_
  subst he
  exact ⟨_, rfl, _, _, _, [], _, [], hW', trodAll_mk1 (shut_bool Trym.underlying4 _), (trodAll_cons_mk (Below.trod laidOut (by kernel_rfl) (of_decide_eq_true (by kernel_rfl)) k0 bel lt0) trodAll_mk0), rfl, bel.frame _, fun h => by cases h⟩

theorem over : Rows.fnEncodeBase62MakesASecretRow.holds Trym.pinned (OpenSpec.ofChange Rows.fnEncodeBase62MakesASecretSpec) :=
  OpenClaim.holds_of_wide 8 Trym.f8 rfl rfl rfl rfl rfl rfl rfl ⟨rfl, rfl, rfl, rfl, rfl⟩ rfl rfl rfl rfl rfl (by kernel_rfl) Trym.func8 (by kernel_rfl)
    (of_decide_eq_true (by kernel_rfl)) (by unfold Func.isWrapper; first | (rw [if_pos (by decide +kernel)]; kernel_rfl) | (rw [if_neg (by decide +kernel)]; exact ⟨rfl, rfl⟩))
    (fun os started H enc _ => lifted os started H enc)

/-- THE STATEMENT -/
theorem proved : Rows.FnEncodeBase62MakesASecretSaid := over
#print axioms proved
end Go.Proofs.Qxb6000698aMods.fnEncodeBase62MakesASecret
