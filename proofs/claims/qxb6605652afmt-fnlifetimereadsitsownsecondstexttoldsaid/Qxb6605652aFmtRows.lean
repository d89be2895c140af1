/-
  NARROWER THAN 'FOR EVERY INPUT', by the rows' own cells (each row's printed sentence says how): FnLifetimeReadsItsOwnSecondsText: laid.
  DERIVED. THE GIVEN ROWS OF THIS SEAT. 1 by the template 'for every input the law returns true; each argument reads behind the call as it read before'; 0 by the template 'total and deterministic' (their statements: Qxb6605652aFmtTotals.lean).
  GIVEN WITH THE SEED: the statements are not yours to turn. If you find one false, say at which input.
  Laid BY PROGRAM, IN A SANDBOX (cutbox-rows.mjs): the forced cells as the released guide's own fill.sh prints them over the translation 7e897cc2be88fe43… (all of the seat's roots in one cut). By AI agents, Wed Nov 11 2026. No macro, syntax, notation, axiom, sorry.
-/
import Derived.Test.Qxb6605652aFmtChecked
import GoSem.Claim
import GoSem.ClaimJoined
import GoSem.ClaimMapViews
import Derived.JoinedTies
import Derived.KernelRfl
namespace Go.Proofs.Qxb6605652aFmt
/- THE CELL 'sum', in the pinned program and in every row, IS THE sha256 OF THE DUMP (.gsa) THAT Qxb6605652aFmtProg.lean LOADS. Nothing in Lean hashes anything: it is a label: what it is worth is what the hold of that sum in a sandbox is worth. -/
noncomputable def Tryf.pinned : Pinned := { name := "qxb6605652afmt", sum := "7e897cc2be88fe43511ea7082cea0891bde1d9ed4cd779a34c9d90239cb977b5", checked := Tryf.checked }
namespace Rows
def none {H : Type} : Left H := { results := [], args := [] }

/- WHAT THE LISTED PACKAGE-LEVEL VARIABLES READ AS WHEN THE CALL BEGINS. Each datum BY PROGRAM (the guide's laid-datum.mjs) off the statement by which the dump's own 'gosem.cut.vars' lays the variable. In a bare row this is a premise. The card (Qxb6605652aFmtCards.lean) ties it to the program's text. -/
def laid_time_errLeadingInt {H : Type} : DataW H := .iface "*errors.errorString" (.ptr (.agg [.lit (.string [116, 105, 109, 101, 58, 32, 98, 97, 100, 32, 91, 48, 45, 57, 93, 42])]))
def laid_time_unitMap {H : Type} : DataW H := .map [(.string [104], .lit (.int .u64 3600000000000)), (.string [109], .lit (.int .u64 60000000000)), (.string [109, 115], .lit (.int .u64 1000000)), (.string [110, 115], .lit (.int .u64 1)), (.string [115], .lit (.int .u64 1000000000)), (.string [117, 115], .lit (.int .u64 1000)), (.string [194, 181, 115], .lit (.int .u64 1000)), (.string [206, 188, 115], .lit (.int .u64 1000))]

/-- 'zzlaws_internal_config_b1.FnLifetimeReadsItsOwnSecondsText': WHATEVER THE INPUT: true; the input reads as it did. -/
def fnLifetimeReadsItsOwnSecondsTextSpec : ChangeSpec := { name := "fnLifetimeReadsItsOwnSecondsText", fn := fun _ => fun
  | [d1, d2, d3] => { results := [.lit (.bool true)], args := [d1, d2, d3] }
  | _ => none }
def fnLifetimeReadsItsOwnSecondsTextRow : OpenClaim := { program := "qxb6605652afmt", sum := "7e897cc2be88fe43511ea7082cea0891bde1d9ed4cd779a34c9d90239cb977b5", func := "example.com/lone-keep/lone-keep/zzlaws_internal_config_b1.FnLifetimeReadsItsOwnSecondsText", spec := "fnLifetimeReadsItsOwnSecondsText", stops := ["fmt.errorf"], inPlace := ["fmt.errorf"], unfollowed := true, recurses := true, named := ["time.unitMap", "time.errLeadingInt"], apart := false, laid := [("time.errLeadingInt", laid_time_errLeadingInt), ("time.unitMap", laid_time_unitMap)] }
/-- NO THEOREM (fmt's text is open here; it may be false): for the released tool's asking of the row's closed facts alone. THE STATEMENT IS 'FnLifetimeReadsItsOwnSecondsTextToldSaid' (Qxb6605652aFmtCards.lean). -/
def FnLifetimeReadsItsOwnSecondsTextFormAsk : Prop := fnLifetimeReadsItsOwnSecondsTextRow.holds Tryf.pinned (OpenSpec.ofChange fnLifetimeReadsItsOwnSecondsTextSpec)

/-- ITS FALSE NEIGHBOUR: 'it returns false'. Refute it at one input. -/
def fnLifetimeReadsItsOwnSecondsTextWrong : ChangeSpec := { name := "fnLifetimeReadsItsOwnSecondsText", fn := fun _ => fun
  | [d1, d2, d3] => { results := [.lit (.bool false)], args := [d1, d2, d3] }
  | _ => none }
def FnLifetimeReadsItsOwnSecondsTextWrongFormAsk : Prop := fnLifetimeReadsItsOwnSecondsTextRow.holds Tryf.pinned (OpenSpec.ofChange fnLifetimeReadsItsOwnSecondsTextWrong)

end Rows
end Go.Proofs.Qxb6605652aFmt
