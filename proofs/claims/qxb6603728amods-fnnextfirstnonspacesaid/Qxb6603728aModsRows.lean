/-
  No cell of these rows narrows 'for every input' (looked for: loops, veiled, ifaces, maps, wideKeys, modest, calm, conditions, laid).
  DERIVED. THE GIVEN ROWS OF THIS SEAT. 5 by the template 'for every input the law returns true; each argument reads behind the call as it read before'; 0 by the template 'total and deterministic' (their statements: Qxb6603728aModsTotals.lean).
  GIVEN WITH THE SEED: the statements are not yours to turn. If you find one false, say at which input.
  Laid BY PROGRAM, IN A SANDBOX (cutbox-rows.mjs): the forced cells as the released guide's own fill.sh prints them over the translation 4bb1776fba46792b… (all of the seat's roots in one cut). By AI agents, Wed Nov 11 2026. No macro, syntax, notation, axiom, sorry.
-/
import Derived.Test.Qxb6603728aModsChecked
import GoSem.Claim
import GoSem.ClaimJoined
import GoSem.ClaimMapViews
import Derived.JoinedTies
import Derived.KernelRfl
namespace Go.Proofs.Qxb6603728aMods
/- THE CELL 'sum', in the pinned program and in every row, IS THE sha256 OF THE DUMP (.gsa) THAT Qxb6603728aModsProg.lean LOADS. Nothing in Lean hashes anything: it is a label: what it is worth is what the hold of that sum in a sandbox is worth. -/
noncomputable def Trym.pinned : Pinned := { name := "qxb6603728amods", sum := "4bb1776fba46792b9fb91c39b34aeddcf53b0c9d77a913d06387c462c6653802", checked := Trym.checked }
namespace Rows
def none {H : Type} : Left H := { results := [], args := [] }

/-- 'zzlaws_internal_api_b1.FnPublicNoPrefixConfusion': WHATEVER THE INPUT: true; the input reads as it did. -/
def fnPublicNoPrefixConfusionSpec : ChangeSpec := { name := "fnPublicNoPrefixConfusion", fn := fun _ => fun
  | [d] => { results := [.lit (.bool true)], args := [d] }
  | _ => none }
def fnPublicNoPrefixConfusionRow : OpenClaim := { program := "qxb6603728amods", sum := "4bb1776fba46792b9fb91c39b34aeddcf53b0c9d77a913d06387c462c6653802", func := "example.com/grantd/grantd/zzlaws_internal_api_b1.FnPublicNoPrefixConfusion", spec := "fnPublicNoPrefixConfusion", make := .lifted ["publicsums"], apart := false }
def FnPublicNoPrefixConfusionSaid : Prop := fnPublicNoPrefixConfusionRow.holds Trym.pinned (OpenSpec.ofChange fnPublicNoPrefixConfusionSpec)

/-- ITS FALSE NEIGHBOUR: 'it returns false'. Refute it at one input. -/
def fnPublicNoPrefixConfusionWrong : ChangeSpec := { name := "fnPublicNoPrefixConfusion", fn := fun _ => fun
  | [d] => { results := [.lit (.bool false)], args := [d] }
  | _ => none }
def FnPublicNoPrefixConfusionWrongFalsely : Prop := fnPublicNoPrefixConfusionRow.holds Trym.pinned (OpenSpec.ofChange fnPublicNoPrefixConfusionWrong)

/-- 'zzlaws_internal_api_b1.FnNextFirstNonSpace': WHATEVER THE INPUT: true; the input reads as it did. -/
def fnNextFirstNonSpaceSpec : ChangeSpec := { name := "fnNextFirstNonSpace", fn := fun _ => fun
  | [d1, d2] => { results := [.lit (.bool true)], args := [d1, d2] }
  | _ => none }
def fnNextFirstNonSpaceRow : OpenClaim := { program := "qxb6603728amods", sum := "4bb1776fba46792b9fb91c39b34aeddcf53b0c9d77a913d06387c462c6653802", func := "example.com/grantd/grantd/zzlaws_internal_api_b1.FnNextFirstNonSpace", spec := "fnNextFirstNonSpace", inPlace := ["internal/bytealg.IndexByteString"], make := .lifted ["publicsums"], apart := false }
def FnNextFirstNonSpaceSaid : Prop := fnNextFirstNonSpaceRow.holds Trym.pinned (OpenSpec.ofChange fnNextFirstNonSpaceSpec)

/-- ITS FALSE NEIGHBOUR: 'it returns false'. Refute it at one input. -/
def fnNextFirstNonSpaceWrong : ChangeSpec := { name := "fnNextFirstNonSpace", fn := fun _ => fun
  | [d1, d2] => { results := [.lit (.bool false)], args := [d1, d2] }
  | _ => none }
def FnNextFirstNonSpaceWrongFalsely : Prop := fnNextFirstNonSpaceRow.holds Trym.pinned (OpenSpec.ofChange fnNextFirstNonSpaceWrong)

/-- 'zzlaws_internal_api_b1.FnStrClosingQuoteModel': WHATEVER THE INPUT: true; the input reads as it did. -/
def fnStrClosingQuoteModelSpec : ChangeSpec := { name := "fnStrClosingQuoteModel", fn := fun _ => fun
  | [d1, d2] => { results := [.lit (.bool true)], args := [d1, d2] }
  | _ => none }
def fnStrClosingQuoteModelRow : OpenClaim := { program := "qxb6603728amods", sum := "4bb1776fba46792b9fb91c39b34aeddcf53b0c9d77a913d06387c462c6653802", func := "example.com/grantd/grantd/zzlaws_internal_api_b1.FnStrClosingQuoteModel", spec := "fnStrClosingQuoteModel", make := .lifted ["publicsums"], apart := false }
def FnStrClosingQuoteModelSaid : Prop := fnStrClosingQuoteModelRow.holds Trym.pinned (OpenSpec.ofChange fnStrClosingQuoteModelSpec)

/-- ITS FALSE NEIGHBOUR: 'it returns false'. Refute it at one input. -/
def fnStrClosingQuoteModelWrong : ChangeSpec := { name := "fnStrClosingQuoteModel", fn := fun _ => fun
  | [d1, d2] => { results := [.lit (.bool false)], args := [d1, d2] }
  | _ => none }
def FnStrClosingQuoteModelWrongFalsely : Prop := fnStrClosingQuoteModelRow.holds Trym.pinned (OpenSpec.ofChange fnStrClosingQuoteModelWrong)

/-- 'zzlaws_internal_api_b1.FnStrTokenSelfDelimiting': WHATEVER THE INPUT: true; the input reads as it did. -/
def fnStrTokenSelfDelimitingSpec : ChangeSpec := { name := "fnStrTokenSelfDelimiting", fn := fun _ => fun
  | [d1, d2] => { results := [.lit (.bool true)], args := [d1, d2] }
  | _ => none }
def fnStrTokenSelfDelimitingRow : OpenClaim := { program := "qxb6603728amods", sum := "4bb1776fba46792b9fb91c39b34aeddcf53b0c9d77a913d06387c462c6653802", func := "example.com/grantd/grantd/zzlaws_internal_api_b1.FnStrTokenSelfDelimiting", spec := "fnStrTokenSelfDelimiting", make := .lifted ["publicsums"], apart := false }
def FnStrTokenSelfDelimitingSaid : Prop := fnStrTokenSelfDelimitingRow.holds Trym.pinned (OpenSpec.ofChange fnStrTokenSelfDelimitingSpec)

/-- ITS FALSE NEIGHBOUR: 'it returns false'. Refute it at one input. -/
def fnStrTokenSelfDelimitingWrong : ChangeSpec := { name := "fnStrTokenSelfDelimiting", fn := fun _ => fun
  | [d1, d2] => { results := [.lit (.bool false)], args := [d1, d2] }
  | _ => none }
def FnStrTokenSelfDelimitingWrongFalsely : Prop := fnStrTokenSelfDelimitingRow.holds Trym.pinned (OpenSpec.ofChange fnStrTokenSelfDelimitingWrong)

/-- 'zzlaws_internal_api_b1.FnStrReadsEscapedString': WHATEVER THE INPUT: true; the input reads as it did. -/
def fnStrReadsEscapedStringSpec : ChangeSpec := { name := "fnStrReadsEscapedString", fn := fun _ => fun
  | [d1, d2] => { results := [.lit (.bool true)], args := [d1, d2] }
  | _ => none }
def fnStrReadsEscapedStringRow : OpenClaim := { program := "qxb6603728amods", sum := "4bb1776fba46792b9fb91c39b34aeddcf53b0c9d77a913d06387c462c6653802", func := "example.com/grantd/grantd/zzlaws_internal_api_b1.FnStrReadsEscapedString", spec := "fnStrReadsEscapedString", make := .lifted ["publicsums"], apart := false }
def FnStrReadsEscapedStringSaid : Prop := fnStrReadsEscapedStringRow.holds Trym.pinned (OpenSpec.ofChange fnStrReadsEscapedStringSpec)

/-- ITS FALSE NEIGHBOUR: 'it returns false'. Refute it at one input. -/
def fnStrReadsEscapedStringWrong : ChangeSpec := { name := "fnStrReadsEscapedString", fn := fun _ => fun
  | [d1, d2] => { results := [.lit (.bool false)], args := [d1, d2] }
  | _ => none }
def FnStrReadsEscapedStringWrongFalsely : Prop := fnStrReadsEscapedStringRow.holds Trym.pinned (OpenSpec.ofChange fnStrReadsEscapedStringWrong)

end Rows
end Go.Proofs.Qxb6603728aMods
