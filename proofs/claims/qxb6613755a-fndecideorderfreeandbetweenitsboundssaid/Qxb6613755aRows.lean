/-
  No cell of these rows narrows 'for every input' (looked for: loops, veiled, ifaces, maps, wideKeys, modest, calm, conditions, laid).
  DERIVED. THE GIVEN ROWS OF THIS SEAT. 5 by the template 'for every input the law returns true; each argument reads behind the call as it read before'; 0 by the template 'total and deterministic' (their statements: Qxb6613755aTotals.lean).
  GIVEN WITH THE SEED: the statements are not yours to turn. If you find one false, say at which input.
  Laid BY PROGRAM, IN A SANDBOX (cutbox-rows.mjs): the forced cells as the released guide's own fill.sh prints them over the translation 96cb815c9ac6df51… (all of the seat's roots in one cut). By AI agents, Wed Nov 11 2026. No macro, syntax, notation, axiom, sorry.
-/
import Derived.Test.Qxb6613755aChecked
import GoSem.Claim
import GoSem.ClaimJoined
import GoSem.ClaimMapViews
import Derived.JoinedTies
import Derived.KernelRfl
namespace Go.Proofs.Qxb6613755a
/- THE CELL 'sum', in the pinned program and in every row, IS THE sha256 OF THE DUMP (.gsa) THAT Qxb6613755aProg.lean LOADS. Nothing in Lean hashes anything: it is a label: what it is worth is what the hold of that sum in a sandbox is worth. -/
noncomputable def Try.pinned : Pinned := { name := "qxb6613755a", sum := "96cb815c9ac6df519ba53d0092b49553c576c8b8e919d909a03072b6ef0b2a23", checked := Try.checked }
namespace Rows
def none {H : Type} : Left H := { results := [], args := [] }

/-- 'zzlaws_access_b1.FnActiveIsWhatTenantWideReaches': WHATEVER THE INPUT: true; the input reads as it did. -/
def fnActiveIsWhatTenantWideReachesSpec : ChangeSpec := { name := "fnActiveIsWhatTenantWideReaches", fn := fun _ => fun
  | [d1, d2] => { results := [.lit (.bool true)], args := [d1, d2] }
  | _ => none }
def fnActiveIsWhatTenantWideReachesRow : OpenClaim := { program := "qxb6613755a", sum := "96cb815c9ac6df519ba53d0092b49553c576c8b8e919d909a03072b6ef0b2a23", func := "example.com/gatewright/gatewright/zzlaws_access_b1.FnActiveIsWhatTenantWideReaches", spec := "fnActiveIsWhatTenantWideReaches", unfollowed := true, recurses := true, apart := false }
def FnActiveIsWhatTenantWideReachesSaid : Prop := fnActiveIsWhatTenantWideReachesRow.holds Try.pinned (OpenSpec.ofChange fnActiveIsWhatTenantWideReachesSpec)

/-- ITS FALSE NEIGHBOUR: 'it returns false'. Refute it at one input. -/
def fnActiveIsWhatTenantWideReachesWrong : ChangeSpec := { name := "fnActiveIsWhatTenantWideReaches", fn := fun _ => fun
  | [d1, d2] => { results := [.lit (.bool false)], args := [d1, d2] }
  | _ => none }
def FnActiveIsWhatTenantWideReachesWrongFalsely : Prop := fnActiveIsWhatTenantWideReachesRow.holds Try.pinned (OpenSpec.ofChange fnActiveIsWhatTenantWideReachesWrong)

/-- 'zzlaws_access_b1.FnActiveAdminsManageByStandingAlone': WHATEVER THE INPUT: true; the input reads as it did. -/
def fnActiveAdminsManageByStandingAloneSpec : ChangeSpec := { name := "fnActiveAdminsManageByStandingAlone", fn := fun _ => fun
  | [d1, d2, d3, d4, d5] => { results := [.lit (.bool true)], args := [d1, d2, d3, d4, d5] }
  | _ => none }
def fnActiveAdminsManageByStandingAloneRow : OpenClaim := { program := "qxb6613755a", sum := "96cb815c9ac6df519ba53d0092b49553c576c8b8e919d909a03072b6ef0b2a23", func := "example.com/gatewright/gatewright/zzlaws_access_b1.FnActiveAdminsManageByStandingAlone", spec := "fnActiveAdminsManageByStandingAlone", unfollowed := true, recurses := true, apart := false }
def FnActiveAdminsManageByStandingAloneSaid : Prop := fnActiveAdminsManageByStandingAloneRow.holds Try.pinned (OpenSpec.ofChange fnActiveAdminsManageByStandingAloneSpec)

/-- ITS FALSE NEIGHBOUR: 'it returns false'. Refute it at one input. -/
def fnActiveAdminsManageByStandingAloneWrong : ChangeSpec := { name := "fnActiveAdminsManageByStandingAlone", fn := fun _ => fun
  | [d1, d2, d3, d4, d5] => { results := [.lit (.bool false)], args := [d1, d2, d3, d4, d5] }
  | _ => none }
def FnActiveAdminsManageByStandingAloneWrongFalsely : Prop := fnActiveAdminsManageByStandingAloneRow.holds Try.pinned (OpenSpec.ofChange fnActiveAdminsManageByStandingAloneWrong)

/-- 'zzlaws_access_b1.FnDecideMatchesModelAndSplitsAtAnyCut': WHATEVER THE INPUT: true; the input reads as it did. -/
def fnDecideMatchesModelAndSplitsAtAnyCutSpec : ChangeSpec := { name := "fnDecideMatchesModelAndSplitsAtAnyCut", fn := fun _ => fun
  | [d1, d2, d3, d4, d5, d6, d7, d8] => { results := [.lit (.bool true)], args := [d1, d2, d3, d4, d5, d6, d7, d8] }
  | _ => none }
def fnDecideMatchesModelAndSplitsAtAnyCutRow : OpenClaim := { program := "qxb6613755a", sum := "96cb815c9ac6df519ba53d0092b49553c576c8b8e919d909a03072b6ef0b2a23", func := "example.com/gatewright/gatewright/zzlaws_access_b1.FnDecideMatchesModelAndSplitsAtAnyCut", spec := "fnDecideMatchesModelAndSplitsAtAnyCut", unfollowed := true, recurses := true, apart := false }
def FnDecideMatchesModelAndSplitsAtAnyCutSaid : Prop := fnDecideMatchesModelAndSplitsAtAnyCutRow.holds Try.pinned (OpenSpec.ofChange fnDecideMatchesModelAndSplitsAtAnyCutSpec)

/-- ITS FALSE NEIGHBOUR: 'it returns false'. Refute it at one input. -/
def fnDecideMatchesModelAndSplitsAtAnyCutWrong : ChangeSpec := { name := "fnDecideMatchesModelAndSplitsAtAnyCut", fn := fun _ => fun
  | [d1, d2, d3, d4, d5, d6, d7, d8] => { results := [.lit (.bool false)], args := [d1, d2, d3, d4, d5, d6, d7, d8] }
  | _ => none }
def FnDecideMatchesModelAndSplitsAtAnyCutWrongFalsely : Prop := fnDecideMatchesModelAndSplitsAtAnyCutRow.holds Try.pinned (OpenSpec.ofChange fnDecideMatchesModelAndSplitsAtAnyCutWrong)

/-- 'zzlaws_access_b1.FnDecideOrderFreeAndBetweenItsBounds': WHATEVER THE INPUT: true; the input reads as it did. -/
def fnDecideOrderFreeAndBetweenItsBoundsSpec : ChangeSpec := { name := "fnDecideOrderFreeAndBetweenItsBounds", fn := fun _ => fun
  | [d1, d2, d3, d4, d5, d6, d7] => { results := [.lit (.bool true)], args := [d1, d2, d3, d4, d5, d6, d7] }
  | _ => none }
def fnDecideOrderFreeAndBetweenItsBoundsRow : OpenClaim := { program := "qxb6613755a", sum := "96cb815c9ac6df519ba53d0092b49553c576c8b8e919d909a03072b6ef0b2a23", func := "example.com/gatewright/gatewright/zzlaws_access_b1.FnDecideOrderFreeAndBetweenItsBounds", spec := "fnDecideOrderFreeAndBetweenItsBounds", unfollowed := true, recurses := true, apart := false }
def FnDecideOrderFreeAndBetweenItsBoundsSaid : Prop := fnDecideOrderFreeAndBetweenItsBoundsRow.holds Try.pinned (OpenSpec.ofChange fnDecideOrderFreeAndBetweenItsBoundsSpec)

/-- ITS FALSE NEIGHBOUR: 'it returns false'. Refute it at one input. -/
def fnDecideOrderFreeAndBetweenItsBoundsWrong : ChangeSpec := { name := "fnDecideOrderFreeAndBetweenItsBounds", fn := fun _ => fun
  | [d1, d2, d3, d4, d5, d6, d7] => { results := [.lit (.bool false)], args := [d1, d2, d3, d4, d5, d6, d7] }
  | _ => none }
def FnDecideOrderFreeAndBetweenItsBoundsWrongFalsely : Prop := fnDecideOrderFreeAndBetweenItsBoundsRow.holds Try.pinned (OpenSpec.ofChange fnDecideOrderFreeAndBetweenItsBoundsWrong)

/-- 'zzlaws_access_b1.FnKbSourcesStopsExactlyWhenAsked': WHATEVER THE INPUT: true; the input reads as it did. -/
def fnKbSourcesStopsExactlyWhenAskedSpec : ChangeSpec := { name := "fnKbSourcesStopsExactlyWhenAsked", fn := fun _ => fun
  | [d1, d2, d3, d4, d5, d6, d7, d8, d9] => { results := [.lit (.bool true)], args := [d1, d2, d3, d4, d5, d6, d7, d8, d9] }
  | _ => none }
def fnKbSourcesStopsExactlyWhenAskedRow : OpenClaim := { program := "qxb6613755a", sum := "96cb815c9ac6df519ba53d0092b49553c576c8b8e919d909a03072b6ef0b2a23", func := "example.com/gatewright/gatewright/zzlaws_access_b1.FnKbSourcesStopsExactlyWhenAsked", spec := "fnKbSourcesStopsExactlyWhenAsked", unfollowed := true, recurses := true, apart := false }
def FnKbSourcesStopsExactlyWhenAskedSaid : Prop := fnKbSourcesStopsExactlyWhenAskedRow.holds Try.pinned (OpenSpec.ofChange fnKbSourcesStopsExactlyWhenAskedSpec)

/-- ITS FALSE NEIGHBOUR: 'it returns false'. Refute it at one input. -/
def fnKbSourcesStopsExactlyWhenAskedWrong : ChangeSpec := { name := "fnKbSourcesStopsExactlyWhenAsked", fn := fun _ => fun
  | [d1, d2, d3, d4, d5, d6, d7, d8, d9] => { results := [.lit (.bool false)], args := [d1, d2, d3, d4, d5, d6, d7, d8, d9] }
  | _ => none }
def FnKbSourcesStopsExactlyWhenAskedWrongFalsely : Prop := fnKbSourcesStopsExactlyWhenAskedRow.holds Try.pinned (OpenSpec.ofChange fnKbSourcesStopsExactlyWhenAskedWrong)

end Rows
end Go.Proofs.Qxb6613755a
