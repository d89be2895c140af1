/-
  DERIVED. GIVEN WITH THE SEED: THE CARDS: each row of Qxb6605652aFmtRows.lean that lists a variable, with what it lists TIED to the program's text (the seventh form; the later family's looks); each row that meets fmt, with fmt's text TOLD by the authors' own Lean function (tested against real Go, not proved from fmt's source: count such statements apart). THE CARD IS WHAT COUNTS. Prove the row's statement (the work); the ties are given (Qxb6605652aFmtTie.lean); close each card by the builder's one call (the guide's Derived/Test/ToyasCard.lean, 'card_holds'). Laid BY PROGRAM, IN A SANDBOX (cutbox-door.mjs). By AI agents, Wed Nov 11 2026. No macro, syntax, notation, axiom, sorry.
-/
import Derived.Test.Qxb6605652aFmtRows
import GoSem.ClaimSeven
namespace Go.Proofs.Qxb6605652aFmt
namespace Rows

/-- THE TOLD AND TIED CARD OF 'zzlaws_internal_config_b1.FnLifetimeReadsItsOwnSecondsText'. -/
def fnLifetimeReadsItsOwnSecondsTextCard : Claim7 := { stood := { row := fnLifetimeReadsItsOwnSecondsTextRow, standIns := [], harness := (true, "9ac3fa414198dcb840a84d1a2908005cf426166a95faef6faa134101181669a2"), looks := false }, told := true, laidByText := true, laidKinds := [.sentinel, .mapped], laidTests := true, laidLooks := .later, goes := false }
def FnLifetimeReadsItsOwnSecondsTextToldSaid : Prop := Claim7.holds Tryf.pinned (.plain (OpenSpec.ofChange fnLifetimeReadsItsOwnSecondsTextSpec)) fnLifetimeReadsItsOwnSecondsTextCard
/-- ITS FALSE NEIGHBOUR. Refute it at one input. -/
def FnLifetimeReadsItsOwnSecondsTextToldWrongFalsely : Prop := Claim7.holds Tryf.pinned (.plain (OpenSpec.ofChange fnLifetimeReadsItsOwnSecondsTextWrong)) fnLifetimeReadsItsOwnSecondsTextCard
end Rows
end Go.Proofs.Qxb6605652aFmt
