/-
  No cell of these rows narrows 'for every input' (looked for: loops, veiled, ifaces, maps, wideKeys, modest, calm, conditions, laid).
  DERIVED. THE GIVEN ROWS OF THIS SEAT. 5 by the template 'for every input the law returns true; each argument reads behind the call as it read before'; 0 by the template 'total and deterministic' (their statements: Qxb6000538aModsTotals.lean).
  GIVEN WITH THE SEED: the statements are not yours to turn. If you find one false, say at which input.
  Laid BY PROGRAM, IN A SANDBOX (cutbox-rows.mjs): the forced cells as the released guide's own fill.sh prints them over the translation f997c24783831674… (all of the seat's roots in one cut). By AI agents, Wed Nov 11 2026. No macro, syntax, notation, axiom, sorry.
-/
import Derived.Test.Qxb6000538aModsChecked
import GoSem.Claim
import GoSem.ClaimJoined
import GoSem.ClaimMapViews
import Derived.JoinedTies
import Derived.KernelRfl
namespace Go.Proofs.Qxb6000538aMods
/- THE CELL 'sum', in the pinned program and in every row, IS THE sha256 OF THE DUMP (.gsa) THAT Qxb6000538aModsProg.lean LOADS. Nothing in Lean hashes anything: it is a label: what it is worth is what the hold of that sum in a sandbox is worth. -/
noncomputable def Trym.pinned : Pinned := { name := "qxb6000538amods", sum := "f997c24783831674a476aa15b9607d1fcf941cccc67afb2e286a31aacb83e3af", checked := Trym.checked }
namespace Rows
def none {H : Type} : Left H := { results := [], args := [] }

/-- 'zzlaws_tree_b1.FnCompareMatchesNameByNameModel': WHATEVER THE INPUT: true; the input reads as it did. -/
def fnCompareMatchesNameByNameModelSpec : ChangeSpec := { name := "fnCompareMatchesNameByNameModel", fn := fun _ => fun
  | [d1, d2] => { results := [.lit (.bool true)], args := [d1, d2] }
  | _ => none }
def fnCompareMatchesNameByNameModelRow : OpenClaim := { program := "qxb6000538amods", sum := "f997c24783831674a476aa15b9607d1fcf941cccc67afb2e286a31aacb83e3af", func := "example.com/keepchain/keepchain/zzlaws_tree_b1.FnCompareMatchesNameByNameModel", spec := "fnCompareMatchesNameByNameModel", make := .lifted ["publicsums"], apart := false }
def FnCompareMatchesNameByNameModelSaid : Prop := fnCompareMatchesNameByNameModelRow.holds Trym.pinned (OpenSpec.ofChange fnCompareMatchesNameByNameModelSpec)

/-- ITS FALSE NEIGHBOUR: 'it returns false'. Refute it at one input. -/
def fnCompareMatchesNameByNameModelWrong : ChangeSpec := { name := "fnCompareMatchesNameByNameModel", fn := fun _ => fun
  | [d1, d2] => { results := [.lit (.bool false)], args := [d1, d2] }
  | _ => none }
def FnCompareMatchesNameByNameModelWrongFalsely : Prop := fnCompareMatchesNameByNameModelRow.holds Trym.pinned (OpenSpec.ofChange fnCompareMatchesNameByNameModelWrong)

/-- 'zzlaws_tree_b1.FnCompareIsTotalOrder': WHATEVER THE INPUT: true; the input reads as it did. -/
def fnCompareIsTotalOrderSpec : ChangeSpec := { name := "fnCompareIsTotalOrder", fn := fun _ => fun
  | [d1, d2, d3] => { results := [.lit (.bool true)], args := [d1, d2, d3] }
  | _ => none }
def fnCompareIsTotalOrderRow : OpenClaim := { program := "qxb6000538amods", sum := "f997c24783831674a476aa15b9607d1fcf941cccc67afb2e286a31aacb83e3af", func := "example.com/keepchain/keepchain/zzlaws_tree_b1.FnCompareIsTotalOrder", spec := "fnCompareIsTotalOrder", make := .lifted ["publicsums"], apart := false }
def FnCompareIsTotalOrderSaid : Prop := fnCompareIsTotalOrderRow.holds Trym.pinned (OpenSpec.ofChange fnCompareIsTotalOrderSpec)

/-- ITS FALSE NEIGHBOUR: 'it returns false'. Refute it at one input. -/
def fnCompareIsTotalOrderWrong : ChangeSpec := { name := "fnCompareIsTotalOrder", fn := fun _ => fun
  | [d1, d2, d3] => { results := [.lit (.bool false)], args := [d1, d2, d3] }
  | _ => none }
def FnCompareIsTotalOrderWrongFalsely : Prop := fnCompareIsTotalOrderRow.holds Trym.pinned (OpenSpec.ofChange fnCompareIsTotalOrderWrong)

/-- 'zzlaws_tree_b1.FnCompareKeepsSubtreeTogether': WHATEVER THE INPUT: true; the input reads as it did. -/
def fnCompareKeepsSubtreeTogetherSpec : ChangeSpec := { name := "fnCompareKeepsSubtreeTogether", fn := fun _ => fun
  | [d1, d2, d3] => { results := [.lit (.bool true)], args := [d1, d2, d3] }
  | _ => none }
def fnCompareKeepsSubtreeTogetherRow : OpenClaim := { program := "qxb6000538amods", sum := "f997c24783831674a476aa15b9607d1fcf941cccc67afb2e286a31aacb83e3af", func := "example.com/keepchain/keepchain/zzlaws_tree_b1.FnCompareKeepsSubtreeTogether", spec := "fnCompareKeepsSubtreeTogether", make := .lifted ["publicsums"], apart := false }
def FnCompareKeepsSubtreeTogetherSaid : Prop := fnCompareKeepsSubtreeTogetherRow.holds Trym.pinned (OpenSpec.ofChange fnCompareKeepsSubtreeTogetherSpec)

/-- ITS FALSE NEIGHBOUR: 'it returns false'. Refute it at one input. -/
def fnCompareKeepsSubtreeTogetherWrong : ChangeSpec := { name := "fnCompareKeepsSubtreeTogether", fn := fun _ => fun
  | [d1, d2, d3] => { results := [.lit (.bool false)], args := [d1, d2, d3] }
  | _ => none }
def FnCompareKeepsSubtreeTogetherWrongFalsely : Prop := fnCompareKeepsSubtreeTogetherRow.holds Trym.pinned (OpenSpec.ofChange fnCompareKeepsSubtreeTogetherWrong)

/-- 'zzlaws_tree_b1.FnNameAtWalkRejoins': WHATEVER THE INPUT: true; the input reads as it did. -/
def fnNameAtWalkRejoinsSpec : ChangeSpec := { name := "fnNameAtWalkRejoins", fn := fun _ => fun
  | [d] => { results := [.lit (.bool true)], args := [d] }
  | _ => none }
def fnNameAtWalkRejoinsRow : OpenClaim := { program := "qxb6000538amods", sum := "f997c24783831674a476aa15b9607d1fcf941cccc67afb2e286a31aacb83e3af", func := "example.com/keepchain/keepchain/zzlaws_tree_b1.FnNameAtWalkRejoins", spec := "fnNameAtWalkRejoins", inPlace := ["internal/bytealg.IndexByteString"], make := .lifted ["publicsums"], apart := false }
def FnNameAtWalkRejoinsSaid : Prop := fnNameAtWalkRejoinsRow.holds Trym.pinned (OpenSpec.ofChange fnNameAtWalkRejoinsSpec)

/-- ITS FALSE NEIGHBOUR: 'it returns false'. Refute it at one input. -/
def fnNameAtWalkRejoinsWrong : ChangeSpec := { name := "fnNameAtWalkRejoins", fn := fun _ => fun
  | [d] => { results := [.lit (.bool false)], args := [d] }
  | _ => none }
def FnNameAtWalkRejoinsWrongFalsely : Prop := fnNameAtWalkRejoinsRow.holds Trym.pinned (OpenSpec.ofChange fnNameAtWalkRejoinsWrong)

/-- 'zzlaws_tree_b1.FnNameAtStepIsLongestSlashFreeName': WHATEVER THE INPUT: true; the input reads as it did. -/
def fnNameAtStepIsLongestSlashFreeNameSpec : ChangeSpec := { name := "fnNameAtStepIsLongestSlashFreeName", fn := fun _ => fun
  | [d1, d2] => { results := [.lit (.bool true)], args := [d1, d2] }
  | _ => none }
def fnNameAtStepIsLongestSlashFreeNameRow : OpenClaim := { program := "qxb6000538amods", sum := "f997c24783831674a476aa15b9607d1fcf941cccc67afb2e286a31aacb83e3af", func := "example.com/keepchain/keepchain/zzlaws_tree_b1.FnNameAtStepIsLongestSlashFreeName", spec := "fnNameAtStepIsLongestSlashFreeName", inPlace := ["internal/bytealg.IndexByteString"], make := .lifted ["publicsums"], apart := false }
def FnNameAtStepIsLongestSlashFreeNameSaid : Prop := fnNameAtStepIsLongestSlashFreeNameRow.holds Trym.pinned (OpenSpec.ofChange fnNameAtStepIsLongestSlashFreeNameSpec)

/-- ITS FALSE NEIGHBOUR: 'it returns false'. Refute it at one input. -/
def fnNameAtStepIsLongestSlashFreeNameWrong : ChangeSpec := { name := "fnNameAtStepIsLongestSlashFreeName", fn := fun _ => fun
  | [d1, d2] => { results := [.lit (.bool false)], args := [d1, d2] }
  | _ => none }
def FnNameAtStepIsLongestSlashFreeNameWrongFalsely : Prop := fnNameAtStepIsLongestSlashFreeNameRow.holds Trym.pinned (OpenSpec.ofChange fnNameAtStepIsLongestSlashFreeNameWrong)

end Rows
end Go.Proofs.Qxb6000538aMods
