/-
  Function 31, '(*Facts).kbSources': the person's grant; the departments' grants, a loop over 'vias' in a loop.
-/
import Derived.Test.Qxb6613755aKbB
namespace Go.Proofs.Qxb6613755a
open Go.RowKit Go.Shelf
attribute [local go_sem] Oper.semAt_some wide_depth wide_fn
set_option linter.unusedVariables false
set_option linter.unusedSimpArgs false

set_option maxHeartbeats 1000000 in
theorem kb_part15 {J Jx : (Nat → Prop) → List Src → World → Prop} (hJx : Framed Jx) {fv : Fn} {caps : Array Value}
    (hc : ∀ G s r W, J G (s :: r) W → YCall Try.prog fv caps #[.agg s.cells] W (YPost J Jx G W r))
    {w W : World} {G₀ : Nat → Prop} {bk : Nat} {kb : Kb} {gv fp : Value} {Ds : List Nat} {r : List Src} (hD : ∀ D ∈ Ds, bk + 2 < D) {a : Act} (ha : Slots 92 (slots3 fp bk) (marks Ds) a)
    (h : Sp J w G₀ (own3 bk kb gv (.func fv #[] caps) false [] Ds) (personSrcs kb ++ r) W) (K : Act → World → Prop) (Q : Exit → Act → World → Prop)
    (hK : ∀ a' W', Slots 92 (slots3 fp bk) (marks Ds) a' → Sp J w G₀ (own3 bk kb gv (.func fv #[] caps) false [] Ds) r W' → K a' W')
    (hQ : ∀ a' W' r', Slots 92 (slots3 fp bk) (marks Ds) a' → Sp Jx w G₀ (own3 bk kb gv (.func fv #[] caps) false [] Ds) r' W' → Q .ret a' W') :
    (part15 (Try.f31.body.getD .skip)).wpIn Fence.wide 0 Try.prog (Exit.then K Q) a W := by
  obtain ⟨f, rfl⟩ := slotsKb ha
  obtain ⟨c0, c1, c2, c3, c4, c5, c6, c7, c8⟩ := own3_cells h
  dsimp only [part15, seqL, seqR, Try.f31, Option.getD]
  by_cases hcr : 0 < kb.pg
  · have h' : Sp J w G₀ (own3 bk kb gv (.func fv #[] caps) false [] Ds) (srcPerson kb :: r) W := by simpa [personSrcs, hcr] using h
    have hy := Sp.post (fun _ _ => YCall.mono) (fun G => hc G (srcPerson kb) r W) h'
    simp only [Src.cells, srcPerson] at hy
    have hd : decide (0 < kb.pg) = true := by simpa using hcr
    clear h hc h'
    gi_wp2_with (refine wpListIn_ycall (fun _ => trivial) rfl callsIn_any roundIn_any (by first | rfl | simp [go_sem]) _ _ _ rfl _ _ rfl ?_)
    refine hy.mono ?_
    clear hy c0 c1 c2 c3 c4 c5 c6 c7 c8
    rintro e W' ⟨_, ⟨rfl, h⟩ | ⟨rfl, r', h⟩⟩
    · simp only [afterCall]
      gi_wp2
      exact hK _ _ ⟨rfl, rfl, by simp [slots3]⟩ h
    · obtain ⟨d0, d1, d2, d3, d4, d5, d6, d7, d8⟩ := own3_cells h
      simp only [afterCall]
      gi_wp2
      exact hQ _ _ r' ⟨rfl, rfl, by simp [slots3]⟩ (own3_result hJx h (by simp) hD false)
  · have h' : Sp J w G₀ (own3 bk kb gv (.func fv #[] caps) false [] Ds) r W := by simpa [personSrcs, hcr] using h
    have hd : decide (0 < kb.pg) = false := by simpa using hcr
    clear h hc
    gi_wp2
    exact hK _ _ ⟨rfl, rfl, by simp [slots3]⟩ h'
end Go.Proofs.Qxb6613755a
