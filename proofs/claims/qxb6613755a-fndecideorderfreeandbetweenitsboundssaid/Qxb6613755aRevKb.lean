/-
  Function 18: 'zzRevKBs'.
-/
import Derived.Test.Qxb6613755aRev
namespace Go.Proofs.Qxb6613755a
open Go.RowKit Go.Shelf
set_option linter.unusedVariables false
set_option linter.unusedSimpArgs false

/-- The block b holds an array of knowledge bases of which those from k on are written, their grants in blocks behind b. -/
def FillTK (b : Nat) (xs : List Kb) (k : Nat) (W : World) : Prop := ∃ arr : Array Value, W.heap[b]? = some (.cells arr 53) ∧ arr.size = xs.length * 6 ∧ ∀ j (h : j < xs.length), k ≤ j →
  arr[j * 6]? = some (.bool xs[j].creator) ∧ arr[j * 6 + 1]? = some (.int .i8 xs[j].vis) ∧ arr[j * 6 + 2]? = some (.int .i8 xs[j].lvl) ∧ arr[j * 6 + 3]? = some (.string xs[j].dep) ∧ arr[j * 6 + 4]? = some (.int .i8 xs[j].pg) ∧
  ∃ gv, arr[j * 6 + 5]? = some gv ∧ RowIs W.heap.size 2 0 GrAt W gv xs[j].grants ∧ FromOn (b + 1) gv

theorem FillTK.later {b : Nat} {xs : List Kb} {k : Nat} {W W' : World} (h : FillTK b xs k W) (hb : Below W.heap.size W W') : FillTK b xs k W' := by
  obtain ⟨arr, h1, h2, h3⟩ := h
  refine ⟨arr, (hb.block b (Array.getElem?_eq_some_iff.1 h1).1).trans h1, h2, fun j hj hk => ?_⟩
  obtain ⟨q0, q1, q2, q3, q4, gv, q5, q6, q7⟩ := h3 j hj hk
  exact ⟨q0, q1, q2, q3, q4, gv, q5, q6.mono' hb.size (fun _ _ _ hb' => GrAt.below hb hb'), q7⟩
theorem FillTK.spot {b : Nat} {xs : List Kb} {k : Nat} {W : World} (h : FillTK b xs k W) {i : Nat} (hk : i < xs.length) (j : Nat) (hj : j < 6) : (∃ u, W.cell? ⟨b, i * 6 + j, none⟩ = some u) ∧ W.frozen? ⟨b, i * 6 + j, none⟩ = false := by
  obtain ⟨arr, h1, h2, _⟩ := h
  refine ⟨⟨arr[i * 6 + j]'(by omega), ?_⟩, frozen_at h1⟩
  rw [cell_at h1]; simp
theorem FillTK.step {b : Nat} {xs : List Kb} {lo k : Nat} {W : World} (h : FillTK b xs lo W) (hlo : k + 1 = lo) (hk : k < xs.length) {gv : Value} (hrow : RowIs W.heap.size 2 0 GrAt W gv xs[k].grants) (hfrom : FromOn (b + 1) gv) :
    FillTK b xs k (put6 W b (k * 6) (.bool xs[k].creator) (.int .i8 xs[k].vis) (.int .i8 xs[k].lvl) (.string xs[k].dep) (.int .i8 xs[k].pg) gv) := by
  obtain ⟨arr, h1, h2, h3⟩ := h
  refine ⟨_, heap_setCell_at (o := k * 6 + 5) _ (heap_setCell_at (o := k * 6 + 4) _ (heap_setCell_at (o := k * 6 + 3) _ (heap_setCell_at (o := k * 6 + 2) _ (heap_setCell_at (o := k * 6 + 1) _ (heap_setCell_at (o := k * 6) _ h1))))), by simp [h2], fun j hj hjk => ?_⟩
  have hrow' : ∀ (gv' : Value) (gs : List Gr), RowIs W.heap.size 2 0 GrAt W gv' gs → FromOn (b + 1) gv' → RowIs (put6 W b (k * 6) (.bool xs[k].creator) (.int .i8 xs[k].vis) (.int .i8 xs[k].lvl) (.string xs[k].dep) (.int .i8 xs[k].pg) gv).heap.size 2 0 GrAt (put6 W b (k * 6) (.bool xs[k].creator) (.int .i8 xs[k].vis) (.int .i8 xs[k].lvl) (.string xs[k].dep) (.int .i8 xs[k].pg) gv) gv' gs :=
    fun gv' gs hr hf => hr.own (by rw [put6_size]; exact Nat.le_refl _) hf (fun b' o x hb' _ hx => hx.heap (put6_other (by omega)))
  by_cases e : j = k
  · subst e
    refine ⟨?_, ?_, ?_, ?_, ?_, gv, ?_, hrow' _ _ hrow hfrom, hfrom⟩
    · iterate 5 rw [Array.getElem?_setIfInBounds_ne (by omega)]
      rw [Array.getElem?_setIfInBounds_self_of_lt (by omega)]
    · iterate 4 rw [Array.getElem?_setIfInBounds_ne (by omega)]
      rw [Array.getElem?_setIfInBounds_self_of_lt (by simp; omega)]
    · iterate 3 rw [Array.getElem?_setIfInBounds_ne (by omega)]
      rw [Array.getElem?_setIfInBounds_self_of_lt (by simp; omega)]
    · iterate 2 rw [Array.getElem?_setIfInBounds_ne (by omega)]
      rw [Array.getElem?_setIfInBounds_self_of_lt (by simp; omega)]
    · rw [Array.getElem?_setIfInBounds_ne (by omega)]
      rw [Array.getElem?_setIfInBounds_self_of_lt (by simp; omega)]
    · rw [Array.getElem?_setIfInBounds_self_of_lt (by simp; omega)]
  · obtain ⟨q0, q1, q2, q3, q4, gv', q5, q6, q7⟩ := h3 j hj (by omega)
    refine ⟨?_, ?_, ?_, ?_, ?_, gv', ?_, hrow' _ _ q6 q7, q7⟩
    · iterate 6 rw [Array.getElem?_setIfInBounds_ne (by omega)]
      exact q0
    · iterate 6 rw [Array.getElem?_setIfInBounds_ne (by omega)]
      exact q1
    · iterate 6 rw [Array.getElem?_setIfInBounds_ne (by omega)]
      exact q2
    · iterate 6 rw [Array.getElem?_setIfInBounds_ne (by omega)]
      exact q3
    · iterate 6 rw [Array.getElem?_setIfInBounds_ne (by omega)]
      exact q4
    · iterate 6 rw [Array.getElem?_setIfInBounds_ne (by omega)]
      exact q5
theorem FillTK.row {b : Nat} {xs : List Kb} {W : World} (h : FillTK b xs 0 W) : RowIs W.heap.size 6 0 (ZkAt W.heap.size) W (.slice (some ⟨b, 0, none⟩) xs.length xs.length) xs := by
  obtain ⟨arr, h1, h2, h3⟩ := h
  refine ⟨_, _, rfl, Nat.le_refl _, by omega, fun j hj => ⟨b, 0, rfl, (Array.getElem?_eq_some_iff.1 h1).1, ?_⟩⟩
  obtain ⟨q0, q1, q2, q3, q4, gv, q5, q6, q7⟩ := h3 j hj (Nat.zero_le _)
  rw [Nat.zero_add]
  exact ⟨(cell_at h1).trans q0, (cell_at h1).trans q1, (cell_at h1).trans q2, (cell_at h1).trans q3, (cell_at h1).trans q4, gv, (cell_at h1).trans q5, q6⟩


def revKb (kb : Kb) : Kb := { kb with grants := kb.grants.reverse }
def revKbs (ks : List Kb) : List Kb := (ks.map revKb).reverse
theorem revKbs_length (ks : List Kb) : (revKbs ks).length = ks.length := by simp [revKbs]
theorem revKbs_get (ks : List Kb) (p k : Nat) (h : p < (revKbs ks).length) (hk : k < ks.length) (e : p = ks.length - 1 - k) : (revKbs ks)[p] = revKb ks[k] := by
  have h1 : (revKbs ks)[p]? = some (revKb ks[k]) := by
    rw [revKbs_length] at h
    unfold revKbs
    rw [List.getElem?_reverse (by simpa using h), List.length_map, List.getElem?_map, show ks.length - 1 - p = k by omega, List.getElem?_eq_getElem hk]
    rfl
  rw [List.getElem?_eq_getElem h] at h1
  exact Option.some.inj h1

set_option maxRecDepth 100000 in
set_option maxHeartbeats 4000000 in
theorem revKbs_c (kv : Value) (ks : List Kb) (w : World) (hk : RowIs w.heap.size 6 0 (ZkAt w.heap.size) w kv ks) (hl : ks.length ≤ 4096) (hs : ∀ j (h : j < ks.length), ks[j].grants.length ≤ 4096) :
    Calls Try.prog 18 #[kv] w fun e w' => RowRes w.heap.size 6 0 ZkAt (revKbs ks) e w' ∧ Below w.heap.size w w' := by
  obtain ⟨ka, kc, rfl, hkl, hkx, hkel⟩ := hk
  have HG := hidB hkel
  have HS := hidB hs
  clear hkel hkx hkl hs
  have hnil := fun w => Lib.run_eql_slice_nil (P := Try.prog) w 43 53 ka ks.length kc 0 0 Try.underlying43
  obtain ⟨arr, harr, hmk⟩ := made 43 53 _ 6 56 Try.underlying43 Try.info53 ks.length (by omega) (by omega)
  cases ka with
  | none =>
    have hz : ks = [] := by
      cases ks with
      | nil => rfl
      | cons g gs => obtain ⟨b, off, e, _⟩ := HG.out 0 (by simp); cases e
    subst hz
    have hfin : RowRes w.heap.size 6 0 ZkAt (revKbs []) (.returned (.slice none 0 0)) w := ⟨_, rfl, ⟨none, 0, rfl, Nat.le_refl _, by omega, fun j h => by cases h⟩, fromOn_nil _ _ _⟩
    have HF := hidB hfin
    clear hfin hmk HG hnil HS
    have hnil := fun w => Lib.run_eql_slice_nil (P := Try.prog) w 43 53 none 0 kc 0 0 Try.underlying43
    show Calls Try.prog 18 #[.slice none 0 kc] w _
    go_enter Try.func18, Try.ntmps18
    go_wp2
    go_ret
    exact ⟨HF.out, Below.refl _ _⟩
  | some ad =>
    have h0 : FillTK w.heap.size (revKbs ks) ks.length (w.alloc (.cells arr 53)) := ⟨arr, World.alloc_heap_new _ _, by rw [revKbs_length]; exact harr, fun p h h' => by rw [revKbs_length] at h; omega⟩
    have hB : Below w.heap.size w (w.alloc (.cells arr 53)) := (Below.refl _ w).alloc (Nat.le_refl _) _
    have H0 := hidB h0
    have HB := hidB hB
    clear h0 harr hB
    go_enter Try.func18, Try.ntmps18
    go_wp2
    clear hmk hnil
    go_loopw [4, 5] (fun i _ wr => ∃ k : Nat, k ≤ ks.length ∧ i = .int .i64 k ∧ FillTK w.heap.size (revKbs ks) (ks.length - k) wr ∧ Below w.heap.size w wr) (fun i _ _ => ks.length - (intOf i).toNat)
    case atStart => exact ⟨0, Nat.zero_le _, rfl, H0.out, HB.out⟩
    case round =>
      obtain ⟨k, hk, rfl, hfill, hbel⟩ := hrel
      clear H0 HB
      by_cases hlt : k < ks.length
      · obtain ⟨b, off, e, hb, hz⟩ := HG.out k hlt
        cases e
        have hgl := HS.out k hlt
        replace hz := hz.below hbel hb
        obtain ⟨p, hp⟩ : ∃ p : Nat, p = ks.length - 1 - k := ⟨_, rfl⟩
        have hpl : p < (revKbs ks).length := by rw [revKbs_length]; omega
        have hge : (revKbs ks)[p] = revKb ks[k] := revKbs_get ks p k hpl hlt hp
        have hp1 : (ks.length : Int) - 1 - (k : Int) = (p : Int) := by omega
        have hp2 : (p : Int) < (ks.length : Int) := by omega
        have hp3 : ks.length - (k + 1) = p := by omega
        have hw1 : w.heap.size < wr.heap.size := by obtain ⟨arr', h1, _⟩ := hfill; exact (Array.getElem?_eq_some_iff.1 h1).1
        have hbw : b < wr.heap.size := by omega
        generalize ks[k] = x at hz hgl hge
        obtain ⟨cr, vis, lvl, dep, pg, gs⟩ := x
        obtain ⟨z0, z1, z2, z3, z4, gv, z5, hg⟩ := hz
        simp only [revKb] at z0 z1 z2 z3 z4 z5 hg hgl hge
        have hg0 := hg
        obtain ⟨ga, gc, rfl, _⟩ := hg0
        have hb1 : Below wr.heap.size wr (wr.alloc (.cells #[.bool cr, .int .i8 vis, .int .i8 lvl, .string dep, .int .i8 pg, .slice ga gs.length gc] 53)) := (Below.refl _ wr).alloc (Nat.le_refl _) _
        have hcall := revGrants_c _ gs _ ((hg.mono' hbel.size (fun _ _ _ _ h => h)).mono' hb1.size (fun _ _ _ hb' => GrAt.below hb1 hb')) hgl
        have hafter : ∀ W' gv2, Below (wr.alloc (.cells #[.bool cr, .int .i8 vis, .int .i8 lvl, .string dep, .int .i8 pg, .slice ga gs.length gc] 53)).heap.size (wr.alloc (.cells #[.bool cr, .int .i8 vis, .int .i8 lvl, .string dep, .int .i8 pg, .slice ga gs.length gc] 53)) W' →
            RowIs W'.heap.size 2 0 GrAt W' gv2 gs.reverse → FromOn (wr.alloc (.cells #[.bool cr, .int .i8 vis, .int .i8 lvl, .string dep, .int .i8 pg, .slice ga gs.length gc] 53)).heap.size gv2 →
            W'.heap[wr.heap.size]? = some (.cells #[.bool cr, .int .i8 vis, .int .i8 lvl, .string dep, .int .i8 pg, .slice ga gs.length gc] 53) ∧ wr.heap.size < W'.heap.size ∧
            FillTK w.heap.size (revKbs ks) p (put6 (W'.setCell ⟨wr.heap.size, 5, none⟩ gv2) w.heap.size (p * 6) (.bool cr) (.int .i8 vis) (.int .i8 lvl) (.string dep) (.int .i8 pg) gv2) ∧
            Below w.heap.size w (put6 (W'.setCell ⟨wr.heap.size, 5, none⟩ gv2) w.heap.size (p * 6) (.bool cr) (.int .i8 vis) (.int .i8 lvl) (.string dep) (.int .i8 pg) gv2) ∧
            (∀ j, j < 6 → (∃ u, W'.cell? ⟨w.heap.size, p * 6 + j, none⟩ = some u) ∧ W'.frozen? ⟨w.heap.size, p * 6 + j, none⟩ = false) := by
          intro W' gv2 hbW hr2 hf2
          have hs1 : wr.heap.size < W'.heap.size := by have := hbW.size; simp at this; omega
          have hbb : Below wr.heap.size wr (W'.setCell ⟨wr.heap.size, 5, none⟩ gv2) := (hb1.trans (hbW.mono (by simp))).setCell (p := ⟨wr.heap.size, 5, none⟩) (Nat.le_refl _) _
          have hfl := hfill.later hbb
          have hsz : (W'.setCell ⟨wr.heap.size, 5, none⟩ gv2).heap.size = W'.heap.size := World.size_setCell ..
          have hf3 : FromOn (w.heap.size + 1) gv2 := fun b' o' n' c' e' => by have := hf2 b' o' n' c' e'; simp at this; omega
          have hr3 : RowIs (W'.setCell ⟨wr.heap.size, 5, none⟩ gv2).heap.size 2 0 GrAt (W'.setCell ⟨wr.heap.size, 5, none⟩ gv2) gv2 gs.reverse :=
            hr2.own (by rw [hsz]; exact Nat.le_refl _) hf2 (fun b' o' y hb' _ hy => hy.heap (Below.heap_setCell _ _ _ _ (by simp at hb'; simp; omega)))
          have hst := hfl.step (k := p) (by omega) hpl (gv := gv2) (by rw [hge]; exact hr3) hf3
          rw [hge] at hst
          exact ⟨(hbW.block _ (by simp)).trans (World.alloc_heap_new _ _), hs1, hst, (hbel.trans (hbb.mono hbel.size)).trans (put6_below (Nat.le_refl _)), fun j hj => (hfill.later (hb1.trans (hbW.mono (by simp)))).spot hpl j hj⟩
        have HC := hidB hcall
        have HA := hidB hafter
        have HP := hidB hp3
        clear hcall hafter hfill hbel HG HS hg hb1 hge hp hpl hp3
        have hne : ¬ w.heap.size = b := by omega
        have hne2 : ¬ wr.heap.size = w.heap.size := by omega
        go_wp2_with (go_at_call 29; refine HC.out.mono ?_; rintro e W' ⟨⟨gv2, rfl, hr2, hf2⟩, hbW⟩; obtain ⟨hbx, hs1, hst, hbl, hsp⟩ := HA.out W' gv2 hbW hr2 hf2; have HST := hidB hst; have HBL := hidB hbl; obtain ⟨ga2, gc2, rfl, _⟩ := hr2; rw [List.length_reverse] at HST HBL; obtain ⟨y0, y1, y2, y3, y4, y5⟩ := six_cells hbx; obtain ⟨o0, o1, o2, o3, o4, o5⟩ := six_open hbx; obtain ⟨⟨u0, s0⟩, t0⟩ := hsp 0 (by omega); rw [Nat.add_zero] at s0 t0; obtain ⟨⟨u1, s1⟩, t1⟩ := hsp 1 (by omega); obtain ⟨⟨u2, s2⟩, t2⟩ := hsp 2 (by omega); obtain ⟨⟨u3, s3⟩, t3⟩ := hsp 3 (by omega); obtain ⟨⟨u4, s4⟩, t4⟩ := hsp 4 (by omega); obtain ⟨⟨u5, s5⟩, t5⟩ := hsp 5 (by omega); clear hst hbl hsp hbx hf2 hbW HA HC)
        exact ⟨⟨k + 1, by omega, by go_num, HP.out.symm ▸ HST.out, HBL.out⟩, by simp [intOf]; omega⟩
      · obtain rfl : k = ks.length := by omega
        rw [Nat.sub_self] at hfill
        have hfin : RowRes w.heap.size 6 0 ZkAt (revKbs ks) (.returned (.slice (some ⟨w.heap.size, 0, none⟩) ks.length ks.length)) wr := by
          have := hfill.row
          rw [revKbs_length] at this
          exact ⟨_, rfl, this, fromOn_at (Nat.le_refl _)⟩
        have HF := hidB hfin
        have HB := hidB hbel
        clear hfin hfill hbel HG HS
        go_wp2
        go_ret
        exact ⟨HF.out, HB.out⟩

end Go.Proofs.Qxb6613755a
