/-
  No cell of these rows narrows 'for every input' (looked for: loops, veiled, ifaces, maps, wideKeys, modest, calm, conditions, laid).
  DERIVED. THE GIVEN ROWS OF THIS SEAT. 4 by the template 'for every input the law returns true; each argument reads behind the call as it read before'; 0 by the template 'total and deterministic' (their statements: Qxb6614117aTotals.lean).
  GIVEN WITH THE SEED: the statements are not yours to turn. If you find one false, say at which input.
  Laid BY PROGRAM, IN A SANDBOX (cutbox-rows.mjs): the forced cells as the released guide's own fill.sh prints them over the translation 977928d1db23b07b… (all of the seat's roots in one cut). By AI agents, Wed Nov 11 2026. No macro, syntax, notation, axiom, sorry.
-/
import Derived.Test.Qxb6614117aChecked
import GoSem.Claim
import GoSem.ClaimJoined
import GoSem.ClaimMapViews
import Derived.JoinedTies
import Derived.KernelRfl
namespace Go.Proofs.Qxb6614117a
/- THE CELL 'sum', in the pinned program and in every row, IS THE sha256 OF THE DUMP (.gsa) THAT Qxb6614117aProg.lean LOADS. Nothing in Lean hashes anything: it is a label: what it is worth is what the hold of that sum in a sandbox is worth. -/
noncomputable def Try.pinned : Pinned := { name := "qxb6614117a", sum := "977928d1db23b07bea4ffd3b56a583a88cfd3d94d92bc5a8fabdeacd5340c53f", checked := Try.checked }
namespace Rows
def none {H : Type} : Left H := { results := [], args := [] }

/-- 'zzlaws_root_b1.FnReadBoundTakeSplits': WHATEVER THE INPUT: true; the input reads as it did. -/
def fnReadBoundTakeSplitsSpec : ChangeSpec := { name := "fnReadBoundTakeSplits", fn := fun _ => fun
  | [d1, d2, d3, d4] => { results := [.lit (.bool true)], args := [d1, d2, d3, d4] }
  | _ => none }
def fnReadBoundTakeSplitsRow : OpenClaim := { program := "qxb6614117a", sum := "977928d1db23b07bea4ffd3b56a583a88cfd3d94d92bc5a8fabdeacd5340c53f", func := "example.com/marquetry/marquetry/zzlaws_root_b1.FnReadBoundTakeSplits", spec := "fnReadBoundTakeSplits", apart := false }
def FnReadBoundTakeSplitsSaid : Prop := fnReadBoundTakeSplitsRow.holds Try.pinned (OpenSpec.ofChange fnReadBoundTakeSplitsSpec)

/-- ITS FALSE NEIGHBOUR: 'it returns false'. Refute it at one input. -/
def fnReadBoundTakeSplitsWrong : ChangeSpec := { name := "fnReadBoundTakeSplits", fn := fun _ => fun
  | [d1, d2, d3, d4] => { results := [.lit (.bool false)], args := [d1, d2, d3, d4] }
  | _ => none }
def FnReadBoundTakeSplitsWrongFalsely : Prop := fnReadBoundTakeSplitsRow.holds Try.pinned (OpenSpec.ofChange fnReadBoundTakeSplitsWrong)

/-- 'zzlaws_root_b1.FnReadBoundScriptKeepsItsAccount': WHATEVER THE INPUT: true; the input reads as it did. -/
def fnReadBoundScriptKeepsItsAccountSpec : ChangeSpec := { name := "fnReadBoundScriptKeepsItsAccount", fn := fun _ => fun
  | [d1, d2, d3] => { results := [.lit (.bool true)], args := [d1, d2, d3] }
  | _ => none }
def fnReadBoundScriptKeepsItsAccountRow : OpenClaim := { program := "qxb6614117a", sum := "977928d1db23b07bea4ffd3b56a583a88cfd3d94d92bc5a8fabdeacd5340c53f", func := "example.com/marquetry/marquetry/zzlaws_root_b1.FnReadBoundScriptKeepsItsAccount", spec := "fnReadBoundScriptKeepsItsAccount", apart := false }
def FnReadBoundScriptKeepsItsAccountSaid : Prop := fnReadBoundScriptKeepsItsAccountRow.holds Try.pinned (OpenSpec.ofChange fnReadBoundScriptKeepsItsAccountSpec)

/-- ITS FALSE NEIGHBOUR: 'it returns false'. Refute it at one input. -/
def fnReadBoundScriptKeepsItsAccountWrong : ChangeSpec := { name := "fnReadBoundScriptKeepsItsAccount", fn := fun _ => fun
  | [d1, d2, d3] => { results := [.lit (.bool false)], args := [d1, d2, d3] }
  | _ => none }
def FnReadBoundScriptKeepsItsAccountWrongFalsely : Prop := fnReadBoundScriptKeepsItsAccountRow.holds Try.pinned (OpenSpec.ofChange fnReadBoundScriptKeepsItsAccountWrong)

/-- 'zzlaws_root_b1.FnVersionMinorSitsBetweenMajorAndPatch': WHATEVER THE INPUT: true; the input reads as it did. -/
def fnVersionMinorSitsBetweenMajorAndPatchSpec : ChangeSpec := { name := "fnVersionMinorSitsBetweenMajorAndPatch", fn := fun _ => fun
  | [d] => { results := [.lit (.bool true)], args := [d] }
  | _ => none }
def fnVersionMinorSitsBetweenMajorAndPatchRow : OpenClaim := { program := "qxb6614117a", sum := "977928d1db23b07bea4ffd3b56a583a88cfd3d94d92bc5a8fabdeacd5340c53f", func := "example.com/marquetry/marquetry/zzlaws_root_b1.FnVersionMinorSitsBetweenMajorAndPatch", spec := "fnVersionMinorSitsBetweenMajorAndPatch", inPlace := ["internal/bytealg.IndexByteString", "internal/bytealg.IndexString"], named := ["internal/bytealg.MaxLen"], apart := false }
def FnVersionMinorSitsBetweenMajorAndPatchSaid : Prop := fnVersionMinorSitsBetweenMajorAndPatchRow.holds Try.pinned (OpenSpec.ofChange fnVersionMinorSitsBetweenMajorAndPatchSpec)

/-- ITS FALSE NEIGHBOUR: 'it returns false'. Refute it at one input. -/
def fnVersionMinorSitsBetweenMajorAndPatchWrong : ChangeSpec := { name := "fnVersionMinorSitsBetweenMajorAndPatch", fn := fun _ => fun
  | [d] => { results := [.lit (.bool false)], args := [d] }
  | _ => none }
def FnVersionMinorSitsBetweenMajorAndPatchWrongFalsely : Prop := fnVersionMinorSitsBetweenMajorAndPatchRow.holds Try.pinned (OpenSpec.ofChange fnVersionMinorSitsBetweenMajorAndPatchWrong)

/-- 'zzlaws_root_b1.FnVersionMinorDecidesCompareUnderOneMajor': WHATEVER THE INPUT: true; the input reads as it did. -/
def fnVersionMinorDecidesCompareUnderOneMajorSpec : ChangeSpec := { name := "fnVersionMinorDecidesCompareUnderOneMajor", fn := fun _ => fun
  | [d1, d2] => { results := [.lit (.bool true)], args := [d1, d2] }
  | _ => none }
def fnVersionMinorDecidesCompareUnderOneMajorRow : OpenClaim := { program := "qxb6614117a", sum := "977928d1db23b07bea4ffd3b56a583a88cfd3d94d92bc5a8fabdeacd5340c53f", func := "example.com/marquetry/marquetry/zzlaws_root_b1.FnVersionMinorDecidesCompareUnderOneMajor", spec := "fnVersionMinorDecidesCompareUnderOneMajor", inPlace := ["internal/bytealg.IndexByteString", "internal/bytealg.IndexString"], named := ["internal/bytealg.MaxLen"], apart := false }
def FnVersionMinorDecidesCompareUnderOneMajorSaid : Prop := fnVersionMinorDecidesCompareUnderOneMajorRow.holds Try.pinned (OpenSpec.ofChange fnVersionMinorDecidesCompareUnderOneMajorSpec)

/-- ITS FALSE NEIGHBOUR: 'it returns false'. Refute it at one input. -/
def fnVersionMinorDecidesCompareUnderOneMajorWrong : ChangeSpec := { name := "fnVersionMinorDecidesCompareUnderOneMajor", fn := fun _ => fun
  | [d1, d2] => { results := [.lit (.bool false)], args := [d1, d2] }
  | _ => none }
def FnVersionMinorDecidesCompareUnderOneMajorWrongFalsely : Prop := fnVersionMinorDecidesCompareUnderOneMajorRow.holds Try.pinned (OpenSpec.ofChange fnVersionMinorDecidesCompareUnderOneMajorWrong)

end Rows
end Go.Proofs.Qxb6614117a
