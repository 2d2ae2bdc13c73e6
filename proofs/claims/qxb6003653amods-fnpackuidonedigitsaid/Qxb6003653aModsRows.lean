/-
  NARROWER THAN 'FOR EVERY INPUT', by the rows' own cells (each row's printed sentence says how): FnKeysIDWhole: maps.
  DERIVED. THE GIVEN ROWS OF THIS SEAT. 4 by the template 'for every input the law returns true; each argument reads behind the call as it read before'; 0 by the template 'total and deterministic' (their statements: Qxb6003653aModsTotals.lean).
  GIVEN WITH THE SEED: the statements are not yours to turn. If you find one false, say at which input.
  Laid BY PROGRAM, IN A SANDBOX (cutbox-rows.mjs): the forced cells as the released guide's own fill.sh prints them over the translation 38bb8f642a48d81a… (all of the seat's roots in one cut). By AI agents, Wed Nov 11 2026. No macro, syntax, notation, axiom, sorry.
-/
import Derived.Test.Qxb6003653aModsChecked
import GoSem.Claim
import GoSem.ClaimJoined
import GoSem.ClaimMapViews
import Derived.JoinedTies
import Derived.KernelRfl
namespace Go.Proofs.Qxb6003653aMods
/- THE CELL 'sum', in the pinned program and in every row, IS THE sha256 OF THE DUMP (.gsa) THAT Qxb6003653aModsProg.lean LOADS. Nothing in Lean hashes anything: it is a label: what it is worth is what the hold of that sum in a sandbox is worth. -/
noncomputable def Trym.pinned : Pinned := { name := "qxb6003653amods", sum := "38bb8f642a48d81ae43384ddb92cf836ae978965665754bc72b83b146915c828", checked := Trym.checked }
namespace Rows
def none {H : Type} : Left H := { results := [], args := [] }

/-- 'zzlaws_internal_cluster_b1.FnPackUIDWhole': WHATEVER THE INPUT: true; the input reads as it did. -/
def fnPackUIDWholeSpec : ChangeSpec := { name := "fnPackUIDWhole", fn := fun _ => fun
  | [d] => { results := [.lit (.bool true)], args := [d] }
  | _ => none }
def fnPackUIDWholeRow : OpenClaim := { program := "qxb6003653amods", sum := "38bb8f642a48d81ae43384ddb92cf836ae978965665754bc72b83b146915c828", func := "example.com/lanyard/lanyard/zzlaws_internal_cluster_b1.FnPackUIDWhole", spec := "fnPackUIDWhole", inPlace := ["internal/bytealg.IndexByteString"], make := .lifted ["publicsums"], apart := false }
def FnPackUIDWholeSaid : Prop := fnPackUIDWholeRow.holds Trym.pinned (OpenSpec.ofChange fnPackUIDWholeSpec)

/-- ITS FALSE NEIGHBOUR: 'it returns false'. Refute it at one input. -/
def fnPackUIDWholeWrong : ChangeSpec := { name := "fnPackUIDWhole", fn := fun _ => fun
  | [d] => { results := [.lit (.bool false)], args := [d] }
  | _ => none }
def FnPackUIDWholeWrongFalsely : Prop := fnPackUIDWholeRow.holds Trym.pinned (OpenSpec.ofChange fnPackUIDWholeWrong)

/-- 'zzlaws_internal_cluster_b1.FnPackUIDOneDigit': WHATEVER THE INPUT: true; the input reads as it did. -/
def fnPackUIDOneDigitSpec : ChangeSpec := { name := "fnPackUIDOneDigit", fn := fun _ => fun
  | [d1, d2, d3] => { results := [.lit (.bool true)], args := [d1, d2, d3] }
  | _ => none }
def fnPackUIDOneDigitRow : OpenClaim := { program := "qxb6003653amods", sum := "38bb8f642a48d81ae43384ddb92cf836ae978965665754bc72b83b146915c828", func := "example.com/lanyard/lanyard/zzlaws_internal_cluster_b1.FnPackUIDOneDigit", spec := "fnPackUIDOneDigit", inPlace := ["internal/bytealg.IndexByteString"], make := .lifted ["publicsums"], apart := false }
def FnPackUIDOneDigitSaid : Prop := fnPackUIDOneDigitRow.holds Trym.pinned (OpenSpec.ofChange fnPackUIDOneDigitSpec)

/-- ITS FALSE NEIGHBOUR: 'it returns false'. Refute it at one input. -/
def fnPackUIDOneDigitWrong : ChangeSpec := { name := "fnPackUIDOneDigit", fn := fun _ => fun
  | [d1, d2, d3] => { results := [.lit (.bool false)], args := [d1, d2, d3] }
  | _ => none }
def FnPackUIDOneDigitWrongFalsely : Prop := fnPackUIDOneDigitRow.holds Trym.pinned (OpenSpec.ofChange fnPackUIDOneDigitWrong)

/-- 'zzlaws_internal_cluster_b1.FnKeysIDWhole': WHATEVER THE INPUT: true; the input reads as it did. -/
def fnKeysIDWholeSpec : ChangeSpec := { name := "fnKeysIDWhole", fn := fun _ => fun
  | [d1, d2, d3] => { results := [.lit (.bool true)], args := [d1, d2, d3] }
  | _ => none }
def fnKeysIDWholeRow : OpenClaim := { program := "qxb6003653amods", sum := "38bb8f642a48d81ae43384ddb92cf836ae978965665754bc72b83b146915c828", func := "example.com/lanyard/lanyard/zzlaws_internal_cluster_b1.FnKeysIDWhole", spec := "fnKeysIDWhole", maps := true, make := .lifted ["publicsums"], apart := false }
def FnKeysIDWholeSaid : Prop := fnKeysIDWholeRow.holds Trym.pinned (OpenSpec.ofChange fnKeysIDWholeSpec)

/-- ITS FALSE NEIGHBOUR: 'it returns false'. Refute it at one input. -/
def fnKeysIDWholeWrong : ChangeSpec := { name := "fnKeysIDWhole", fn := fun _ => fun
  | [d1, d2, d3] => { results := [.lit (.bool false)], args := [d1, d2, d3] }
  | _ => none }
def FnKeysIDWholeWrongFalsely : Prop := fnKeysIDWholeRow.holds Trym.pinned (OpenSpec.ofChange fnKeysIDWholeWrong)

/-- 'zzlaws_internal_cluster_b1.FnKeysIDFirstSeen': WHATEVER THE INPUT: true; the input reads as it did. -/
def fnKeysIDFirstSeenSpec : ChangeSpec := { name := "fnKeysIDFirstSeen", fn := fun _ => fun
  | [d] => { results := [.lit (.bool true)], args := [d] }
  | _ => none }
def fnKeysIDFirstSeenRow : OpenClaim := { program := "qxb6003653amods", sum := "38bb8f642a48d81ae43384ddb92cf836ae978965665754bc72b83b146915c828", func := "example.com/lanyard/lanyard/zzlaws_internal_cluster_b1.FnKeysIDFirstSeen", spec := "fnKeysIDFirstSeen", make := .lifted ["publicsums"], apart := false }
def FnKeysIDFirstSeenSaid : Prop := fnKeysIDFirstSeenRow.holds Trym.pinned (OpenSpec.ofChange fnKeysIDFirstSeenSpec)

/-- ITS FALSE NEIGHBOUR: 'it returns false'. Refute it at one input. -/
def fnKeysIDFirstSeenWrong : ChangeSpec := { name := "fnKeysIDFirstSeen", fn := fun _ => fun
  | [d] => { results := [.lit (.bool false)], args := [d] }
  | _ => none }
def FnKeysIDFirstSeenWrongFalsely : Prop := fnKeysIDFirstSeenRow.holds Trym.pinned (OpenSpec.ofChange fnKeysIDFirstSeenWrong)

end Rows
end Go.Proofs.Qxb6003653aMods
