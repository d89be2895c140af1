/-
  Functions 17, 29, 18: 'zzRevDeps', 'zzRevGrants', 'zzRevKBs': what came in, listed in reverse, in memory of the call's own.
-/
import Derived.Test.Qxb6613755aFacts
namespace Go.Proofs.Qxb6613755a
open Go.RowKit Go.Shelf
set_option linter.unusedVariables false
set_option linter.unusedSimpArgs false

theorem Try.info76 : (Try.prog.info? 76).map (fun i => (i.zero, i.size, i.bytes)) = some (some (.agg #[.string ⟨#[]⟩, .string ⟨#[]⟩]), 2, 32) := by kernel_rfl
theorem Try.info55 : (Try.prog.info? 55).map (fun i => (i.zero, i.size, i.bytes)) = some (some (.agg #[.string ⟨#[]⟩, .int .i8 0]), 2, 24) := by kernel_rfl
theorem Try.info53 : (Try.prog.info? 53).map (fun i => (i.zero, i.size, i.bytes)) = some (some (.agg #[.bool false, .int .i8 0, .int .i8 0, .string ⟨#[]⟩, .int .i8 0, .slice none 0 0]), 6, 56) := by kernel_rfl

/-- The block b holds an array of two cells an element, of which those from lo on are written. -/
def FillT {α : Type} (f g : α → Value) (b t : Nat) (ys : List α) (lo : Nat) (W : World) : Prop := ∃ arr : Array Value, W.heap[b]? = some (.cells arr t) ∧ arr.size = ys.length * 2 ∧ ∀ p (h : p < ys.length), lo ≤ p → arr[p * 2]? = some (f ys[p]) ∧ arr[p * 2 + 1]? = some (g ys[p])
theorem FillT.spot {α : Type} {f g : α → Value} {b t : Nat} {ys : List α} {lo : Nat} {W : World} (h : FillT f g b t ys lo W) {i : Nat} (hk : i < ys.length) : ∃ u v, W.cell? ⟨b, i * 2, none⟩ = some u ∧ W.cell? ⟨b, i * 2 + 1, none⟩ = some v ∧ W.frozen? ⟨b, i * 2, none⟩ = false ∧ W.frozen? ⟨b, i * 2 + 1, none⟩ = false := by
  obtain ⟨arr, h1, h2, _⟩ := h
  refine ⟨arr[i * 2]'(by omega), arr[i * 2 + 1]'(by omega), ?_, ?_, frozen_at h1, frozen_at h1⟩
  · rw [cell_at h1]; simp
  · rw [cell_at h1]; simp
theorem FillT.step {α : Type} {f g : α → Value} {b t : Nat} {ys : List α} {lo k : Nat} {W : World} (h : FillT f g b t ys lo W) (hlo : k + 1 = lo) (hk : k < ys.length) : FillT f g b t ys k ((W.setCell ⟨b, k * 2, none⟩ (f ys[k])).setCell ⟨b, k * 2 + 1, none⟩ (g ys[k])) := by
  obtain ⟨arr, h1, h2, h3⟩ := h
  refine ⟨_, heap_setCell_at (o := k * 2 + 1) _ (heap_setCell_at (o := k * 2) _ h1), by simp [h2], fun j hj hjk => ?_⟩
  by_cases e : j = k
  · subst e
    constructor
    · rw [Array.getElem?_setIfInBounds_ne (by omega), Array.getElem?_setIfInBounds_self_of_lt (by omega)]
    · rw [Array.getElem?_setIfInBounds_self_of_lt (by simp; omega)]
  · obtain ⟨q1, q2⟩ := h3 j hj (by omega)
    constructor
    · rw [Array.getElem?_setIfInBounds_ne (by omega), Array.getElem?_setIfInBounds_ne (by omega)]; exact q1
    · rw [Array.getElem?_setIfInBounds_ne (by omega), Array.getElem?_setIfInBounds_ne (by omega)]; exact q2

theorem fillT_rowDeps {b t n : Nat} {ys : List Wi} {W : World} (h : FillT (fun x : Wi => .string x.dep) (fun x => .string x.via) b t ys 0 W) (hb : b < n) : RowIs n 2 0 WiAt W (.slice (some ⟨b, 0, none⟩) ys.length ys.length) ys := by
  obtain ⟨arr, h1, h2, h3⟩ := h
  refine ⟨_, _, rfl, Nat.le_refl _, by omega, fun j hj => ⟨b, 0, rfl, hb, ?_⟩⟩
  obtain ⟨q1, q2⟩ := h3 j hj (Nat.zero_le _)
  rw [Nat.zero_add]
  exact ⟨(cell_at h1).trans q1, (cell_at h1).trans q2⟩

set_option maxRecDepth 100000 in
set_option maxHeartbeats 2000000 in
theorem revDeps_c (gv : Value) (gs : List Wi) (w : World) (hg : RowIs w.heap.size 2 0 WiAt w gv gs) (hl : gs.length ≤ 4096) :
    Calls Try.prog 17 #[gv] w fun e w' => RowRes w.heap.size 2 0 (fun _ => WiAt) gs.reverse e w' ∧ Below w.heap.size w w' := by
  obtain ⟨ga, gc, rfl, hgl, hgx, hgel⟩ := hg
  have HG := hidB hgel
  clear hgel hgx hgl
  have hnil := fun w => Lib.run_eql_slice_nil (P := Try.prog) w 42 76 ga gs.length gc 0 0 Try.underlying42
  obtain ⟨arr, harr, hmk⟩ := made 42 76 _ 2 32 Try.underlying42 Try.info76 gs.length (by omega) (by omega)
  cases ga with
  | none =>
    have hz : gs = [] := by
      cases gs with
      | nil => rfl
      | cons g gs => obtain ⟨b, off, e, _⟩ := HG.out 0 (by simp); cases e
    subst hz
    have hfin : RowRes w.heap.size 2 0 (fun _ => WiAt) ([] : List Wi).reverse (.returned (.slice none 0 0)) w := ⟨_, rfl, ⟨none, 0, rfl, Nat.le_refl _, by omega, fun j h => by cases h⟩, fromOn_nil _ _ _⟩
    have HF := hidB hfin
    clear hfin hmk HG hnil
    have hnil := fun w => Lib.run_eql_slice_nil (P := Try.prog) w 42 76 none 0 gc 0 0 Try.underlying42
    show Calls Try.prog 17 #[.slice none 0 gc] w _
    go_enter Try.func17, Try.ntmps17
    go_wp2
    go_ret
    exact ⟨HF.out, Below.refl _ _⟩
  | some ad =>
    have h0 : FillT (fun x : Wi => .string x.dep) (fun x => .string x.via) w.heap.size 76 gs.reverse gs.length (w.alloc (.cells arr 76)) := ⟨arr, World.alloc_heap_new _ _, by rw [List.length_reverse]; exact harr, fun p h h' => by rw [List.length_reverse] at h; omega⟩
    have hB : Below w.heap.size w (w.alloc (.cells arr 76)) := (Below.refl _ w).alloc (Nat.le_refl _) _
    have H0 := hidB h0
    have HB := hidB hB
    clear h0 harr hB
    go_enter Try.func17, Try.ntmps17
    go_wp2
    clear hmk hnil
    go_loopw [4] (fun i wr => ∃ k : Nat, k ≤ gs.length ∧ i = .int .i64 k ∧ FillT (fun x : Wi => .string x.dep) (fun x => .string x.via) w.heap.size 76 gs.reverse (gs.length - k) wr ∧ Below w.heap.size w wr) (fun i _ => gs.length - (intOf i).toNat)
    case atStart => exact ⟨0, Nat.zero_le _, rfl, H0.out, HB.out⟩
    case round =>
      obtain ⟨k, hk, rfl, hfill, hbel⟩ := hrel
      clear H0 HB
      by_cases hlt : k < gs.length
      · obtain ⟨b, off, e, hb, c0, c1⟩ := HG.out k hlt
        cases e
        replace c0 := (hbel.cell (p := ⟨b, off + k * 2, none⟩) hb).trans c0
        replace c1 := (hbel.cell (p := ⟨b, off + k * 2 + 1, none⟩) hb).trans c1
        obtain ⟨p, hp⟩ : ∃ p : Nat, p = gs.length - 1 - k := ⟨_, rfl⟩
        have hpl : p < gs.reverse.length := by rw [List.length_reverse]; omega
        have hge : gs.reverse[p] = gs[k] := by
          rw [List.getElem_reverse]
          congr 1
          omega
        obtain ⟨u, v, s0, s1, f0, f1⟩ := hfill.spot hpl
        have hstep := hfill.step (k := p) (by omega) hpl
        rw [hge] at hstep
        have hp1 : (gs.length : Int) - 1 - (k : Int) = (p : Int) := by omega
        have hp2 : (p : Int) < (gs.length : Int) := by omega
        have hp3 : gs.length - (k + 1) = p := by omega
        have HF := hidB hstep
        have HB := hidB hbel
        have HP := hidB hp3
        have hne : ¬ w.heap.size = b := by omega
        clear hfill hbel HG hstep hge hp hpl hp3
        go_wp2
        go_roundw
        case rel => exact ⟨k + 1, by omega, by go_num, HP.out.symm ▸ HF.out, (HB.out.setCell (p := ⟨w.heap.size, p * 2, none⟩) (Nat.le_refl _) _).setCell (p := ⟨w.heap.size, p * 2 + 1, none⟩) (Nat.le_refl _) _⟩
        case measure => simp [intOf]; omega
      · obtain rfl : k = gs.length := by omega
        have hlt' : w.heap.size < wr.heap.size := by obtain ⟨arr', h1, _⟩ := hfill; exact (Array.getElem?_eq_some_iff.1 h1).1
        rw [Nat.sub_self] at hfill
        have hfin : RowRes w.heap.size 2 0 (fun _ => WiAt) gs.reverse (.returned (.slice (some ⟨w.heap.size, 0, none⟩) gs.length gs.length)) wr := by
          have := fillT_rowDeps hfill hlt'
          rw [List.length_reverse] at this
          exact ⟨_, rfl, this, fromOn_at (Nat.le_refl _)⟩
        have HF := hidB hfin
        have HB := hidB hbel
        clear hfin hfill hbel HG
        go_wp2
        go_ret
        exact ⟨HF.out, HB.out⟩

theorem fillT_rowGrants {b t n : Nat} {ys : List Gr} {W : World} (h : FillT (fun x : Gr => .string x.dep) (fun x => .int .i8 x.lvl) b t ys 0 W) (hb : b < n) : RowIs n 2 0 GrAt W (.slice (some ⟨b, 0, none⟩) ys.length ys.length) ys := by
  obtain ⟨arr, h1, h2, h3⟩ := h
  refine ⟨_, _, rfl, Nat.le_refl _, by omega, fun j hj => ⟨b, 0, rfl, hb, ?_⟩⟩
  obtain ⟨q1, q2⟩ := h3 j hj (Nat.zero_le _)
  rw [Nat.zero_add]
  exact ⟨(cell_at h1).trans q1, (cell_at h1).trans q2⟩

set_option maxRecDepth 100000 in
set_option maxHeartbeats 2000000 in
theorem revGrants_c (gv : Value) (gs : List Gr) (w : World) (hg : RowIs w.heap.size 2 0 GrAt w gv gs) (hl : gs.length ≤ 4096) :
    Calls Try.prog 29 #[gv] w fun e w' => RowRes w.heap.size 2 0 (fun _ => GrAt) gs.reverse e w' ∧ Below w.heap.size w w' := by
  obtain ⟨ga, gc, rfl, hgl, hgx, hgel⟩ := hg
  have HG := hidB hgel
  clear hgel hgx hgl
  have hnil := fun w => Lib.run_eql_slice_nil (P := Try.prog) w 51 55 ga gs.length gc 0 0 Try.underlying51
  obtain ⟨arr, harr, hmk⟩ := made 51 55 _ 2 24 Try.underlying51 Try.info55 gs.length (by omega) (by omega)
  cases ga with
  | none =>
    have hz : gs = [] := by
      cases gs with
      | nil => rfl
      | cons g gs => obtain ⟨b, off, e, _⟩ := HG.out 0 (by simp); cases e
    subst hz
    have hfin : RowRes w.heap.size 2 0 (fun _ => GrAt) ([] : List Gr).reverse (.returned (.slice none 0 0)) w := ⟨_, rfl, ⟨none, 0, rfl, Nat.le_refl _, by omega, fun j h => by cases h⟩, fromOn_nil _ _ _⟩
    have HF := hidB hfin
    clear hfin hmk HG hnil
    have hnil := fun w => Lib.run_eql_slice_nil (P := Try.prog) w 51 55 none 0 gc 0 0 Try.underlying51
    show Calls Try.prog 29 #[.slice none 0 gc] w _
    go_enter Try.func29, Try.ntmps29
    go_wp2
    go_ret
    exact ⟨HF.out, Below.refl _ _⟩
  | some ad =>
    have h0 : FillT (fun x : Gr => .string x.dep) (fun x => .int .i8 x.lvl) w.heap.size 55 gs.reverse gs.length (w.alloc (.cells arr 55)) := ⟨arr, World.alloc_heap_new _ _, by rw [List.length_reverse]; exact harr, fun p h h' => by rw [List.length_reverse] at h; omega⟩
    have hB : Below w.heap.size w (w.alloc (.cells arr 55)) := (Below.refl _ w).alloc (Nat.le_refl _) _
    have H0 := hidB h0
    have HB := hidB hB
    clear h0 harr hB
    go_enter Try.func29, Try.ntmps29
    go_wp2
    clear hmk hnil
    go_loopw [4] (fun i wr => ∃ k : Nat, k ≤ gs.length ∧ i = .int .i64 k ∧ FillT (fun x : Gr => .string x.dep) (fun x => .int .i8 x.lvl) w.heap.size 55 gs.reverse (gs.length - k) wr ∧ Below w.heap.size w wr) (fun i _ => gs.length - (intOf i).toNat)
    case atStart => exact ⟨0, Nat.zero_le _, rfl, H0.out, HB.out⟩
    case round =>
      obtain ⟨k, hk, rfl, hfill, hbel⟩ := hrel
      clear H0 HB
      by_cases hlt : k < gs.length
      · obtain ⟨b, off, e, hb, c0, c1⟩ := HG.out k hlt
        cases e
        replace c0 := (hbel.cell (p := ⟨b, off + k * 2, none⟩) hb).trans c0
        replace c1 := (hbel.cell (p := ⟨b, off + k * 2 + 1, none⟩) hb).trans c1
        obtain ⟨p, hp⟩ : ∃ p : Nat, p = gs.length - 1 - k := ⟨_, rfl⟩
        have hpl : p < gs.reverse.length := by rw [List.length_reverse]; omega
        have hge : gs.reverse[p] = gs[k] := by
          rw [List.getElem_reverse]
          congr 1
          omega
        obtain ⟨u, v, s0, s1, f0, f1⟩ := hfill.spot hpl
        have hstep := hfill.step (k := p) (by omega) hpl
        rw [hge] at hstep
        have hp1 : (gs.length : Int) - 1 - (k : Int) = (p : Int) := by omega
        have hp2 : (p : Int) < (gs.length : Int) := by omega
        have hp3 : gs.length - (k + 1) = p := by omega
        have HF := hidB hstep
        have HB := hidB hbel
        have HP := hidB hp3
        have hne : ¬ w.heap.size = b := by omega
        clear hfill hbel HG hstep hge hp hpl hp3
        go_wp2
        go_roundw
        case rel => exact ⟨k + 1, by omega, by go_num, HP.out.symm ▸ HF.out, (HB.out.setCell (p := ⟨w.heap.size, p * 2, none⟩) (Nat.le_refl _) _).setCell (p := ⟨w.heap.size, p * 2 + 1, none⟩) (Nat.le_refl _) _⟩
        case measure => simp [intOf]; omega
      · obtain rfl : k = gs.length := by omega
        have hlt' : w.heap.size < wr.heap.size := by obtain ⟨arr', h1, _⟩ := hfill; exact (Array.getElem?_eq_some_iff.1 h1).1
        rw [Nat.sub_self] at hfill
        have hfin : RowRes w.heap.size 2 0 (fun _ => GrAt) gs.reverse (.returned (.slice (some ⟨w.heap.size, 0, none⟩) gs.length gs.length)) wr := by
          have := fillT_rowGrants hfill hlt'
          rw [List.length_reverse] at this
          exact ⟨_, rfl, this, fromOn_at (Nat.le_refl _)⟩
        have HF := hidB hfin
        have HB := hidB hbel
        clear hfin hfill hbel HG
        go_wp2
        go_ret
        exact ⟨HF.out, HB.out⟩

end Go.Proofs.Qxb6613755a
