/-
  What the listed variables give the walk: the unit map's cell and its two look-ups, in every later heap too; and the witness's heap.
-/
import Derived.Test.Qxb6605652aFmtWalk3
import Derived.ProofKit
import Derived.LaidMore
import Derived.Stop.Joined
namespace Go.Proofs.Qxb6605652aFmt
open Go.ChangeShapes Go.WideShapes Go.ChangeAt Go.WideMaps Go.WideElems Go.RowKit

theorem own : ownKnob Tryf.prog.godebug = none := by kernel_rfl
theorem gErr : Tryf.prog.globalNamed "time.errLeadingInt" = some 1 := by kernel_rfl
theorem gMap : Tryf.prog.globalNamed "time.unitMap" = some 0 := by kernel_rfl
theorem tMap : (Tryf.prog.globals[0]?).map (·.type) = some 46 := by kernel_rfl
theorem keyLaw : KeyLaw Tryf.prog 9 := string_law Tryf.underlying9
abbrev theLaid : List (String × DataW Unit) := [("time.errLeadingInt", Rows.laid_time_errLeadingInt), ("time.unitMap", Rows.laid_time_unitMap)]

/-- The door's own heap meets the condition. -/
theorem door_met (os : Os) (args : Array Value) : laidMetH Tryf.prog theLaid ((World.doorLaid Tryf.prog 400 os).forCall (fun _ _ => 0) ⟨#[], args, []⟩).memory :=
  laidMetH_of_parts3 (fuel := 8) (laidMet_of_run' 8 (by kernel_rfl) (by kernel_rfl)) (by kernel_rfl) (by kernel_rfl)

/-- WHAT THE CONDITION GIVES THE WALKS. -/
theorem of_laid {W : World} (h : laidMetH Tryf.prog theLaid W) : ∃ bm, ∀ W', Below W.heap.size W W' → Units bm W' := by
  rw [MakeChecks.laidMetH_plain _ _ _ (by kernel_rfl)] at h
  obtain ⟨ps, ⟨g0, t0, cs0, f0, p0, q0, hg0, ht0, hv0, hd0, ⟨g1, t1, cs1, f1, p1, q1, hg1, ht1, hv1, hd1, _, _⟩, _⟩, _, _⟩ := h
  obtain rfl := Option.some.inj (gMap.symm.trans hg1)
  obtain rfl := Option.some.inj (tMap.symm.trans ht1)
  rcases open_map Tryf.underlying46 hd1 with ⟨_, hx⟩ | ⟨bm, es, clock, m, rfl, hcs, hb, _, F, hx⟩
  · simp [Rows.laid_time_unitMap] at hx
  simp only [Prod.mk.injEq] at hx
  have hcell : W.cell? ⟨0, 0, none⟩ = some (.map (some bm)) := by
    have := World.var?_cell hg1 hv1 0
    rw [Array.eq_one_of_toList hcs] at this
    simpa using this
  refine ⟨bm, fun W' bel => ?_⟩
  have hbl : bm < W.heap.size := by
    rcases Nat.lt_or_ge bm W.heap.size with h | h
    · exact h
    · rw [Array.getElem?_eq_none h] at hb; cases hb
  have h0l : 0 < W.heap.size := by omega
  have hb' : W'.heap[bm]? = some (.map es clock) := by rw [bel.block bm hbl]; exact hb
  have zero : (zeroValue 29).run Tryf.prog W' = .ok (.int .u64 0) W' := by kernel_rfl
  refine ⟨by rw [bel.cell (p := ⟨0, 0, none⟩) h0l]; exact hcell, ?_, ?_⟩
  · rcases fit_lookup_ok (w := W') keyLaw Tryf.underlying46 zero hb' F (keyOf_string_mk (s := ⟨#[115]⟩) Tryf.underlying9 (by decide)) with ⟨_, hat⟩ | ⟨v, y, hrun, hRv, hat, _⟩
    · have := hat .nil
      rw [← hx.1] at this
      exact absurd this (by intro e; cases e)
    · obtain ⟨r, rfl, rfl, _⟩ := elemAt_int Tryf.underlying29 hRv
      have := hat .nil
      rw [← hx.1] at this
      have e2 : (Rows.laid_time_unitMap : DataW Unit).atKey (.string (⟨#[115]⟩ : ByteArray).data.toList) .nil = .lit (.int .u64 1000000000) := rfl
      rw [e2] at this
      cases this
      exact hrun
  · rcases fit_lookup_ok (w := W') keyLaw Tryf.underlying46 zero hb' F (keyOf_string_mk (s := ⟨#[110, 115]⟩) Tryf.underlying9 (by decide)) with ⟨_, hat⟩ | ⟨v, y, hrun, hRv, hat, _⟩
    · have := hat .nil
      rw [← hx.1] at this
      exact absurd this (by intro e; cases e)
    · obtain ⟨r, rfl, rfl, _⟩ := elemAt_int Tryf.underlying29 hRv
      have := hat .nil
      rw [← hx.1] at this
      have e2 : (Rows.laid_time_unitMap : DataW Unit).atKey (.string (⟨#[110, 115]⟩ : ByteArray).data.toList) .nil = .lit (.int .u64 1) := rfl
      rw [e2] at this
      cases this
      exact hrun
end Go.Proofs.Qxb6605652aFmt
