/-
  The law: the row's step at fmt's told texts, and the told and tied card.
-/
import Derived.Test.Qxb6605652aFmtLaid
import Derived.Test.Qxb6605652aFmtTie
import Derived.Test.Qxb6605652aFmtCards
import Derived.Stop.JoinedTold
import Derived.Deep.DeepWitnessRef
import Derived.SevenTiedAt
namespace Go.Proofs.Qxb6605652aFmt
open Go.ChangeShapes Go.WideShapes Go.ChangeAt Go.RowKit
open Go.ChangeMaps (open_string shut_string)

/-- One input that fits: the door's own heap; 0, "", "". -/
theorem witness_row (os : Os) {H : Type} (enc : TypeId × Value → H) :
    (OpenSpec.ofChange Rows.fnLifetimeReadsItsOwnSecondsTextSpec).preRow enc Tryf.prog Tryf.f3 [] false theLaid ((World.doorLaid Tryf.prog 400 os).forCall (fun _ _ => 0) ⟨#[], #[.int .i64 0, .string ⟨#[]⟩, .string ⟨#[]⟩], []⟩).memory #[.int .i64 0, .string ⟨#[]⟩, .string ⟨#[]⟩] := by
  have hw : (DataW.whole enc Tryf.prog ((World.doorLaid Tryf.prog 400 os).forCall (fun _ _ => 0) ⟨#[], #[.int .i64 0, .string ⟨#[]⟩, .string ⟨#[]⟩], []⟩).memory Tryf.f3.params.toList (OpenSpec.ofChange Rows.fnLifetimeReadsItsOwnSecondsTextSpec).vars false #[Value.int .i64 0, .string ⟨#[]⟩, .string ⟨#[]⟩].toList 8).map (fun x => (x.1, x.2.1)) =
      some ([.lit (.int .i64 0), .lit (.string []), .lit (.string [])], []) := by kernel_rfl
  obtain ⟨⟨x1, x2, x3⟩, hx, hx1⟩ := Option.map_eq_some_iff.1 hw
  simp only [Prod.mk.injEq] at hx1
  obtain ⟨rfl, rfl⟩ := hx1
  exact OpenSpec.preRow_of_cond 8 hx (by kernel_rfl) (fun k hk => by cases hk) (by kernel_rfl) (door_met os _)

set_option maxRecDepth 100000 in
set_option maxHeartbeats 4000000 in
theorem lifted (os : Os) (started : os.Started) (H : Type) (enc : TypeId × Value → H) :
    ReturnsInTold none {} Tryf.checked os 3 .any Input.okWide ((OpenSpec.ofChange Rows.fnLifetimeReadsItsOwnSecondsTextSpec).preRow enc Tryf.prog Tryf.f3 [] false theLaid) (fun F => ((OpenSpec.ofChange Rows.fnLifetimeReadsItsOwnSecondsTextSpec).at F).post enc Tryf.prog Tryf.f3 false true false false) (aloneAtReturn Tryf.prog) nothingAlways := by
  refine returnsInTold_of_row (C := Tryf.checked) (s := OpenSpec.ofChange Rows.fnLifetimeReadsItsOwnSecondsTextSpec) (by kernel_rfl) own started (by kernel_rfl) Tryf.func3
    (OpenSpec.witness_stopped_atRef (enc := enc) (C := Tryf.checked) false (World.doorLaid Tryf.prog 400 os) #[.int .i64 0, .string ⟨#[]⟩, .string ⟨#[]⟩] rfl (by kernel_rfl) (by kernel_rfl) (by kernel_rfl) (witness_row os enc)) ?_
  intro F W base args ds gs before _ hF hval0 hW _ _ _ hL _
  have hval : ∀ (j : Nat) t v, Tryf.f3.params[j]? = some t → args[j]? = some v → Value.okWide Tryf.prog W .any base t v := hval0
  have hW' := hW
  obtain ⟨p, q, hA0, hV0, rfl, _, _⟩ := hW
  have hA : DataW.TrodAll enc Tryf.prog W 0 (fun _ => true) true Tryf.f3.params.toList args.toList ds p := hA0
  rw [Tryf.params3] at hA hval
  obtain ⟨v0, v1, v2, d0, d1, d2, p0, p1, p2, rfl, rfl, rfl, h0, h1, h2⟩ := trodAll_three hA
  obtain ⟨rfl, rfl⟩ := trodVars_none hV0
  obtain ⟨n, rfl, rfl, rfl, wn⟩ := open_int Tryf.underlying2 (hval 0 2 v0 rfl rfl) h0
  obtain ⟨s1, rfl, rfl, rfl, ws1⟩ := open_string Tryf.underlying9 (hval 1 9 v1 rfl rfl) h1
  obtain ⟨s2, rfl, rfl, rfl, ws2⟩ := open_string Tryf.underlying9 (hval 2 9 v2 rfl rfl) h2
  clear hA0 hV0 hval0
  obtain ⟨bm, hU⟩ := of_laid hL
  have hn : -9223372036854775808 ≤ n ∧ n ≤ 9223372036854775807 := by
    have e1 : IntKind.i64.min = -9223372036854775808 := rfl
    have e2 : IntKind.i64.max = 9223372036854775807 := rfl
    simpa [Lit.wf, e1, e2] using wn
  refine (law_c F.told bm n s1 s2 W hF hn.1 hn.2 hU).mono ?_
  rintro e W' ⟨rfl, bel⟩
  exact ⟨_, rfl, _, _, _, [], [], [], hW', trodAll_mk1 (shut_bool Tryf.underlying4 _), trodAll_mk3 (p := []) (p' := []) (p'' := []) (shut_int Tryf.underlying2 wn) (shut_string Tryf.underlying9 ws1) (shut_string Tryf.underlying9 ws2), rfl, bel.frame _, fun h => by cases h⟩

theorem laidOut : laidOutB Tryf.pinned.checked.prog = true := by kernel_rfl
theorem stops : Tryf.pinned.checked.prog.stops = ["fmt.errorf"] := by kernel_rfl
theorem stopKnobs : Tryf.pinned.checked.prog.stopKnobs = [] := by kernel_rfl
theorem quiet (os : Os) : Stop.quiet Tryf.pinned.checked.prog os := by
  intro k hk
  rw [stopKnobs] at hk
  cases hk

theorem fnLifetime_proved : Rows.FnLifetimeReadsItsOwnSecondsTextToldSaid :=
  Claim7.holds_of_told_tied_any_at .later 3 Tryf.f3 "fmt.errorf" [] [] _ _ _ _ _ (by kernel_rfl) rfl rfl rfl laidOut (by kernel_rfl) rfl ⟨rfl, rfl, rfl, rfl, rfl, rfl, rfl⟩ rfl rfl (by kernel_rfl) (by kernel_rfl) Tryf.func3 (by kernel_rfl)
    (of_decide_eq_true (by kernel_rfl)) (of_decide_eq_true (by kernel_rfl)) stops.symm rfl stopKnobs.symm (by kernel_rfl)
    (by kernel_rfl) (by kernel_rfl) (by kernel_rfl) (by kernel_rfl) (by kernel_rfl) (by kernel_rfl) (by kernel_rfl) (by kernel_rfl) (by kernel_rfl) rfl (by kernel_rfl) rfl rfl
    rfl rfl
    rfl (by kernel_rfl) (by kernel_rfl) (by kernel_rfl) (by decide) (by kernel_rfl) fnLifetimeReadsItsOwnSecondsText_row_tie
    (OpenClaim.moreEntering_of (by kernel_rfl) (by kernel_rfl) (by kernel_rfl) (by kernel_rfl) (by kernel_rfl) (by kernel_rfl) (by kernel_rfl) (by kernel_rfl) (by kernel_rfl) (by kernel_rfl))
    ⟨_, WideRow.started_initial, quiet _⟩
    (fun os started _ H enc _ => lifted os started H enc)
end Go.Proofs.Qxb6605652aFmt
