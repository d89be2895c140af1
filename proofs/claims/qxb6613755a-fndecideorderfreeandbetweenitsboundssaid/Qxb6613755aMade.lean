/-
  Functions 33, 22, 14 ('zzGrants', 'zzKB', 'zzFacts'): the input's data, copied into data of package access.
-/
import Derived.Test.Qxb6613755aBig
import Derived.WalkSpells
import Derived.Laws.MakeOwn
import Derived.Deep.RegionWith
import Derived.Deep.RegionHeld
import Derived.Deep.RegionHeld3
namespace Go.Proofs.Qxb6613755a
open Go.RowKit Go.Shelf
set_option linter.unusedVariables false
set_option linter.unusedSimpArgs false

theorem Try.info91 : (Try.prog.info? 91).map (fun i => (i.zero, i.size, i.bytes)) = some (some (.agg #[.string ⟨#[]⟩, .int .i8 0]), 2, 24) := by kernel_rfl
theorem Try.info79 : (Try.prog.info? 79).map (fun i => (i.zero, i.size, i.bytes)) = some (some (.agg #[.string ⟨#[]⟩, .string ⟨#[]⟩]), 2, 32) := by kernel_rfl
theorem Try.info32 : (Try.prog.info? 32).map (fun i => (i.zero, i.size, i.bytes)) = some (some (.agg #[.bool false, .int .i8 0, .int .i8 0, .string ⟨#[]⟩, .int .i8 0, .slice none 0 0]), 6, 64) := by kernel_rfl

/-- 'make([]T, n)': a new block of so many cells, whatever they hold. -/
theorem made (t e : TypeId) (z : Value) (size bytes : Nat) (ht : Try.prog.underlying t = some (.slice e)) (hinfo : (Try.prog.info? e).map (fun i => (i.zero, i.size, i.bytes)) = some (some z, size, bytes)) (n : Nat) (hb : bytes * n ≤ 281474976710656) (hn : n ≤ 1048576) :
    ∃ arr : Array Value, arr.size = n * size ∧ ∀ w : World, (Instr.makeSlice t (.int .i64 (n : Int)) (.int .i64 (n : Int))).run Try.prog w = .ok (.slice (some ⟨w.heap.size, 0, none⟩) n n) (w.alloc (.cells arr e)) := by
  obtain ⟨i, hi, hzz⟩ := Option.map_eq_some_iff.1 hinfo
  simp only [Prod.mk.injEq] at hzz
  obtain ⟨hz, hs, hbb⟩ := hzz
  refine ⟨madeCells z.cells (n * size), size_madeCells _ _, fun w => ?_⟩
  have hb' : (i.bytes : Int) * (n : Int) ≤ 281474976710656 := by
    have h : ((i.bytes * n : Nat) : Int) ≤ 281474976710656 := by rw [hbb]; omega
    rwa [Int.natCast_mul] at h
  have hr := run_make (P := Try.prog) w t e i z ht hi hz .i64 .i64 n n (by omega) (Int.le_refl _) hb' (by omega)
  simp only [Int.toNat_natCast, hs] at hr
  exact hr

/-- The block b holds an array of type t in which the first k elements are written. -/
def FillGr (b t : Nat) (xs : List Gr) (k : Nat) (W : World) : Prop := ∃ arr : Array Value, W.heap[b]? = some (.cells arr t) ∧ arr.size = xs.length * 2 ∧ ∀ j (h : j < xs.length), j < k → arr[j * 2]? = some (.string xs[j].dep) ∧ arr[j * 2 + 1]? = some (.int .i8 xs[j].lvl)

theorem FillGr.spot {b t : Nat} {xs : List Gr} {k : Nat} {W : World} (h : FillGr b t xs k W) (hk : k < xs.length) : ∃ u v, W.cell? ⟨b, k * 2, none⟩ = some u ∧ W.cell? ⟨b, k * 2 + 1, none⟩ = some v ∧ W.frozen? ⟨b, k * 2, none⟩ = false ∧ W.frozen? ⟨b, k * 2 + 1, none⟩ = false := by
  obtain ⟨arr, h1, h2, _⟩ := h
  refine ⟨arr[k * 2]'(by omega), arr[k * 2 + 1]'(by omega), ?_, ?_, frozen_at h1, frozen_at h1⟩
  · rw [cell_at h1]; simp
  · rw [cell_at h1]; simp
theorem FillGr.step {b t : Nat} {xs : List Gr} {k : Nat} {W : World} (h : FillGr b t xs k W) (hk : k < xs.length) : FillGr b t xs (k + 1) ((W.setCell ⟨b, k * 2, none⟩ (.string xs[k].dep)).setCell ⟨b, k * 2 + 1, none⟩ (.int .i8 xs[k].lvl)) := by
  obtain ⟨arr, h1, h2, h3⟩ := h
  refine ⟨_, heap_setCell_at (o := k * 2 + 1) _ (heap_setCell_at (o := k * 2) _ h1), by simp [h2], fun j hj hjk => ?_⟩
  by_cases e : j = k
  · subst e
    constructor
    · rw [Array.getElem?_setIfInBounds_ne (by omega), Array.getElem?_setIfInBounds_self_of_lt (by omega)]
    · rw [Array.getElem?_setIfInBounds_self_of_lt (by simp; omega)]
  · obtain ⟨q1, q2⟩ := h3 j hj (by omega)
    constructor
    · rw [Array.getElem?_setIfInBounds_ne (by omega), Array.getElem?_setIfInBounds_ne (by omega)]; exact q1
    · rw [Array.getElem?_setIfInBounds_ne (by omega), Array.getElem?_setIfInBounds_ne (by omega)]; exact q2
theorem FillGr.row {b t n : Nat} {xs : List Gr} {W : World} (h : FillGr b t xs xs.length W) (hb : b < n) (hx : xs.length ≤ 4096) : RowIs n 2 24 GrAt W (.slice (some ⟨b, 0, none⟩) xs.length xs.length) xs := by
  obtain ⟨arr, h1, h2, h3⟩ := h
  refine ⟨_, _, rfl, Nat.le_refl _, by omega, fun j hj => ⟨b, 0, rfl, hb, ?_⟩⟩
  obtain ⟨q1, q2⟩ := h3 j hj hj
  rw [Nat.zero_add]
  exact ⟨(cell_at h1).trans q1, (cell_at h1).trans q2⟩

/-- The slice's own array lies at or beyond block base. -/
def FromOn (base : Nat) (sv : Value) : Prop := ∀ b o n c, sv = .slice (some ⟨b, o, none⟩) n c → base ≤ b
theorem fromOn_nil (base n c : Nat) : FromOn base (.slice none n c) := fun _ _ _ _ e => by cases e
theorem fromOn_at {base b o n c : Nat} (h : base ≤ b) : FromOn base (.slice (some ⟨b, o, none⟩) n c) := fun _ _ _ _ e => by cases e; exact h
/-- A row of the call's own abides whatever is done elsewhere. -/
theorem RowIs.own {α : Type} {n n' sz bytes base : Nat} {At At' : Nat → Nat → World → α → Prop} {W W' : World} (hn : n ≤ n') {sv : Value} {xs : List α} (h : RowIs n sz bytes At W sv xs) (hf : FromOn base sv) (hAt : ∀ b o x, base ≤ b → b < n → At b o W x → At' b o W' x) : RowIs n' sz bytes At' W' sv xs := by
  obtain ⟨a, cap, h1, h2, h3, h4⟩ := h
  refine ⟨a, cap, h1, h2, h3, fun j hj => ?_⟩
  obtain ⟨b, off, e, hb, hx⟩ := h4 j hj
  exact ⟨b, off, e, by omega, hAt _ _ _ (hf b off _ _ (by rw [h1, e])) hb hx⟩
theorem GrAt.heap {b o : Nat} {W W' : World} {x : Gr} (h : W'.heap[b]? = W.heap[b]?) (k : GrAt b o W x) : GrAt b o W' x := ⟨(World.cell?_of_block (w := W) (a := ⟨b, _, none⟩) h).trans k.1, (World.cell?_of_block (w := W) (a := ⟨b, _, none⟩) h).trans k.2⟩

/-- A slice is handed back that holds xs, in memory from block base on. -/
def RowRes {α : Type} (base sz bytes : Nat) (At : Nat → Nat → Nat → World → α → Prop) (xs : List α) (e : Ending) (w : World) : Prop := ∃ sv, e = .returned sv ∧ RowIs w.heap.size sz bytes (At w.heap.size) w sv xs ∧ FromOn base sv

set_option maxRecDepth 100000 in
set_option maxHeartbeats 2000000 in
theorem grants_c (gv : Value) (gs : List Gr) (w : World) (hg : RowIs w.heap.size 2 0 GrAt w gv gs) (hl : gs.length ≤ 4096) :
    Calls Try.prog 33 #[gv] w fun e w' => RowRes w.heap.size 2 24 (fun _ => GrAt) gs e w' ∧ Below w.heap.size w w' := by
  obtain ⟨ga, gc, rfl, hgl, hgx, hgel⟩ := hg
  have HG := hidB hgel
  clear hgel hgx hgl
  have hnil := fun w => Lib.run_eql_slice_nil (P := Try.prog) w 51 55 ga gs.length gc 0 0 Try.underlying51
  obtain ⟨arr, harr, hmk⟩ := made 30 91 _ 2 24 Try.underlying30 Try.info91 gs.length (by omega) (by omega)
  cases ga with
  | none =>
    have hz : gs = [] := by
      cases gs with
      | nil => rfl
      | cons g gs => obtain ⟨b, off, e, _⟩ := HG.out 0 (by simp); cases e
    subst hz
    have hfin : RowRes w.heap.size 2 24 (fun _ => GrAt) ([] : List Gr) (.returned (.slice none 0 0)) w := ⟨_, rfl, ⟨none, 0, rfl, Nat.le_refl _, by omega, fun j h => by cases h⟩, fromOn_nil _ _ _⟩
    have HF := hidB hfin
    clear hfin hmk HG hnil
    have hnil := fun w => Lib.run_eql_slice_nil (P := Try.prog) w 51 55 none 0 gc 0 0 Try.underlying51
    show Calls Try.prog 33 #[.slice none 0 gc] w _
    go_enter Try.func33, Try.ntmps33
    go_wp2
    go_ret
    exact ⟨HF.out, Below.refl _ _⟩
  | some ad =>
    have h0 : FillGr w.heap.size 91 gs 0 (w.alloc (.cells arr 91)) := ⟨arr, World.alloc_heap_new _ _, harr, fun j h h' => by omega⟩
    have hB : Below w.heap.size w (w.alloc (.cells arr 91)) := (Below.refl _ w).alloc (Nat.le_refl _) _
    have H0 := hidB h0
    have HB := hidB hB
    clear h0 harr hB
    go_enter Try.func33, Try.ntmps33
    go_wp2
    clear hmk hnil
    go_loopw [4] (fun i wr => ∃ k : Nat, k ≤ gs.length ∧ i = .int .i64 k ∧ FillGr w.heap.size 91 gs k wr ∧ Below w.heap.size w wr) (fun i _ => gs.length - (intOf i).toNat)
    case atStart => exact ⟨0, Nat.zero_le _, rfl, H0.out, HB.out⟩
    case round =>
      obtain ⟨k, hk, rfl, hfill, hbel⟩ := hrel
      clear H0 HB
      by_cases hlt : k < gs.length
      · obtain ⟨b, off, e, hb, c0, c1⟩ := HG.out k hlt
        cases e
        replace c0 := (hbel.cell (p := ⟨b, off + k * 2, none⟩) hb).trans c0
        replace c1 := (hbel.cell (p := ⟨b, off + k * 2 + 1, none⟩) hb).trans c1
        obtain ⟨u, v, s0, s1, f0, f1⟩ := hfill.spot hlt
        have HF := hidB (hfill.step hlt)
        have HB := hidB hbel
        clear hfill hbel HG
        go_wp2
        go_region
        go_wp2
        go_roundw
        case rel => exact ⟨k + 1, by omega, by go_num, HF.out, ((HB.out.setCell (p := ⟨w.heap.size, k * 2, none⟩) (Nat.le_refl _) _).setCell (p := ⟨w.heap.size, k * 2 + 1, none⟩) (Nat.le_refl _) _).drew⟩
        case measure => simp [intOf]; omega
      · obtain rfl : k = gs.length := by omega
        have hlt' : w.heap.size < wr.heap.size := by obtain ⟨arr', h1, _⟩ := hfill; exact (Array.getElem?_eq_some_iff.1 h1).1
        have hfin : RowRes w.heap.size 2 24 (fun _ => GrAt) gs (.returned (.slice (some ⟨w.heap.size, 0, none⟩) gs.length gs.length)) wr := ⟨_, rfl, hfill.row hlt' hl, fromOn_at (Nat.le_refl _)⟩
        have HF := hidB hfin
        have HB := hidB hbel
        clear hfin hfill hbel HG
        go_wp2
        go_ret
        exact ⟨HF.out, HB.out⟩

/-- A knowledge base of package access is handed back. -/
def KbRes (base : Nat) (kb : Kb) (e : Ending) (w : World) : Prop := ∃ gv, e = .returned (.agg #[.bool kb.creator, .int .i8 kb.vis, .int .i8 kb.lvl, .string kb.dep, .int .i8 kb.pg, gv]) ∧ RowIs w.heap.size 2 24 GrAt w gv kb.grants ∧ FromOn base gv

def zeroKb : Obj := .cells #[.bool false, .int .i8 0, .int .i8 0, .string ⟨#[]⟩, .int .i8 0, .slice none 0 0] 32

theorem six_cells {W : World} {b t : Nat} {v0 v1 v2 v3 v4 v5 : Value} (h : W.heap[b]? = some (.cells #[v0, v1, v2, v3, v4, v5] t)) :
    W.cell? ⟨b, 0, none⟩ = some v0 ∧ W.cell? ⟨b, 1, none⟩ = some v1 ∧ W.cell? ⟨b, 2, none⟩ = some v2 ∧ W.cell? ⟨b, 3, none⟩ = some v3 ∧ W.cell? ⟨b, 4, none⟩ = some v4 ∧ W.cell? ⟨b, 5, none⟩ = some v5 := ⟨cell_at h, cell_at h, cell_at h, cell_at h, cell_at h, cell_at h⟩
theorem six_open {W : World} {b t : Nat} {v0 v1 v2 v3 v4 v5 : Value} (h : W.heap[b]? = some (.cells #[v0, v1, v2, v3, v4, v5] t)) :
    W.frozen? ⟨b, 0, none⟩ = false ∧ W.frozen? ⟨b, 1, none⟩ = false ∧ W.frozen? ⟨b, 2, none⟩ = false ∧ W.frozen? ⟨b, 3, none⟩ = false ∧ W.frozen? ⟨b, 4, none⟩ = false ∧ W.frozen? ⟨b, 5, none⟩ = false := ⟨frozen_at h, frozen_at h, frozen_at h, frozen_at h, frozen_at h, frozen_at h⟩

set_option maxRecDepth 100000 in
set_option maxHeartbeats 2000000 in
theorem kb_c (kb : Kb) (gv : Value) (w : World) (hg : RowIs w.heap.size 2 0 GrAt w gv kb.grants) (hl : kb.grants.length ≤ 4096) :
    Calls Try.prog 22 #[.agg #[.bool kb.creator, .int .i8 kb.vis, .int .i8 kb.lvl, .string kb.dep, .int .i8 kb.pg, gv]] w fun e w' => KbRes w.heap.size kb e w' ∧ Below w.heap.size w w' := by
  have hB : Below w.heap.size w ((w.alloc (zkObj kb gv)).alloc zeroKb) := ((Below.refl _ w).alloc (Nat.le_refl _) _).alloc (by simp) _
  have hsz : ((w.alloc (zkObj kb gv)).alloc zeroKb).heap.size = w.heap.size + 2 := by simp
  have hx0 : ((w.alloc (zkObj kb gv)).alloc zeroKb).heap[w.heap.size]? = some (zkObj kb gv) := (Below.heap_alloc _ _ _ (by simp)).trans (World.alloc_heap_new _ _)
  have hx1 : ((w.alloc (zkObj kb gv)).alloc zeroKb).heap[w.heap.size + 1]? = some zeroKb := by have := World.alloc_heap_new (w.alloc (zkObj kb gv)) zeroKb; simpa using this
  have hcall : ∀ W1, Below (w.heap.size + 2) ((w.alloc (zkObj kb gv)).alloc zeroKb) W1 → Calls Try.prog 33 #[gv] W1 fun e w' => RowRes W1.heap.size 2 24 (fun _ => GrAt) kb.grants e w' ∧ Below W1.heap.size W1 w' := fun W1 hb =>
    grants_c gv kb.grants W1 (hg.mono' (by have := hb.size; omega) (fun _ _ _ hb' => GrAt.below (hB.trans (hb.mono (by omega))) hb')) hl
  obtain ⟨ga, gc, rfl, _⟩ := hg
  have HC := hidB hcall
  have H0 := hidB hx0
  have H1 := hidB hx1
  have HB := hidB hB
  have HS := hidB hsz
  clear hcall hx0 hx1 hB hsz
  go_enter Try.func22, Try.ntmps22
  go_wp2
  change Code.wp Try.prog _ _ _ ((w.alloc (zkObj kb (.slice ga kb.grants.length gc))).alloc zeroKb)
  revert HC H0 H1 HB HS
  generalize (w.alloc (zkObj kb (.slice ga kb.grants.length gc))).alloc zeroKb = W0
  intro HC H0 H1 HB HS
  have hs1 : w.heap.size + 2 ≤ W0.heap.size := by have := HS.out; omega
  obtain ⟨x0, x1, x2, x3, x4, x5⟩ := six_cells H0.out
  have hc2 : Calls Try.prog 33 #[.slice ga kb.grants.length gc] W0.drew fun e W1 => ∃ ga' gc', e = .returned (.slice ga' kb.grants.length gc') ∧
      (W1.cell? ⟨w.heap.size, 0, none⟩ = some (.bool kb.creator) ∧ W1.cell? ⟨w.heap.size, 1, none⟩ = some (.int .i8 kb.vis) ∧ W1.cell? ⟨w.heap.size, 2, none⟩ = some (.int .i8 kb.lvl) ∧ W1.cell? ⟨w.heap.size, 3, none⟩ = some (.string kb.dep) ∧ W1.cell? ⟨w.heap.size, 4, none⟩ = some (.int .i8 kb.pg) ∧ W1.cell? ⟨w.heap.size, 5, none⟩ = some (.slice ga kb.grants.length gc)) ∧
      (W1.cell? ⟨w.heap.size + 1, 0, none⟩ = some (.bool false) ∧ W1.cell? ⟨w.heap.size + 1, 1, none⟩ = some (.int .i8 0) ∧ W1.cell? ⟨w.heap.size + 1, 2, none⟩ = some (.int .i8 0) ∧ W1.cell? ⟨w.heap.size + 1, 3, none⟩ = some (.string ⟨#[]⟩) ∧ W1.cell? ⟨w.heap.size + 1, 4, none⟩ = some (.int .i8 0) ∧ W1.cell? ⟨w.heap.size + 1, 5, none⟩ = some (.slice none 0 0)) ∧
      (W1.frozen? ⟨w.heap.size + 1, 0, none⟩ = false ∧ W1.frozen? ⟨w.heap.size + 1, 1, none⟩ = false ∧ W1.frozen? ⟨w.heap.size + 1, 2, none⟩ = false ∧ W1.frozen? ⟨w.heap.size + 1, 3, none⟩ = false ∧ W1.frozen? ⟨w.heap.size + 1, 4, none⟩ = false ∧ W1.frozen? ⟨w.heap.size + 1, 5, none⟩ = false) ∧
      Hid (RowIs W1.heap.size 2 24 GrAt W1 (.slice ga' kb.grants.length gc') kb.grants ∧ FromOn (w.heap.size + 2) (.slice ga' kb.grants.length gc') ∧ W1.heap[w.heap.size + 1]? = some zeroKb) ∧ Hid (Below w.heap.size w W1 ∧ w.heap.size + 2 ≤ W1.heap.size) := by
    refine (HC.out W0.drew (Below.refl _ _).drew).mono ?_
    rintro e W1 ⟨⟨gv', rfl, hrow, hfrom⟩, hb⟩
    have hb0 : W1.heap[w.heap.size]? = some (zkObj kb (.slice ga kb.grants.length gc)) := (hb.block _ (show w.heap.size < W0.heap.size by omega)).trans H0.out
    have hb1 : W1.heap[w.heap.size + 1]? = some zeroKb := (hb.block _ (show w.heap.size + 1 < W0.heap.size by omega)).trans H1.out
    have hrow' := hrow
    obtain ⟨ga', gc', rfl, _⟩ := hrow'
    refine ⟨ga', gc', rfl, six_cells hb0, six_cells hb1, six_open hb1, ⟨hrow, fun b o n c e => Nat.le_trans hs1 (hfrom b o n c e), hb1⟩, HB.out.trans ((Below.refl _ _).drew.trans (hb.mono (show w.heap.size ≤ W0.heap.size by omega))), ?_⟩
    have h5 : W0.heap.size ≤ W1.heap.size := hb.size
    omega
  have HC2 := hidB hc2
  clear hc2 HC H0 H1 HB HS hs1
  go_region_held3 (fun W' => W'.cell? ⟨w.heap.size, 0, none⟩ = some (.bool kb.creator) ∧ W'.cell? ⟨w.heap.size, 1, none⟩ = some (.int .i8 kb.vis) ∧ W'.cell? ⟨w.heap.size, 2, none⟩ = some (.int .i8 kb.lvl) ∧ W'.cell? ⟨w.heap.size, 3, none⟩ = some (.string kb.dep) ∧ W'.cell? ⟨w.heap.size, 4, none⟩ = some (.int .i8 kb.pg) ∧ W'.cell? ⟨w.heap.size, 5, none⟩ = some (.slice ga kb.grants.length gc)) (go_keep)
    ((go_at_call 33; refine HC2.out.mono ?_; rintro e W1 ⟨ga', gc', rfl, ⟨y0, y1, y2, y3, y4, y5⟩, ⟨z0, z1, z2, z3, z4, z5⟩, ⟨o0, o1, o2, o3, o4, o5⟩, HR, HBB⟩))
  obtain ⟨hrow, hfrom, hb1⟩ := HR.out
  obtain ⟨hbel, hs1⟩ := HBB.out
  have hW2 : ((((((W1.setCell ⟨w.heap.size + 1, 0, none⟩ (.bool kb.creator)).setCell ⟨w.heap.size + 1, 1, none⟩ (.int .i8 kb.vis)).setCell ⟨w.heap.size + 1, 2, none⟩ (.int .i8 kb.lvl)).setCell ⟨w.heap.size + 1, 3, none⟩ (.string kb.dep)).setCell ⟨w.heap.size + 1, 4, none⟩ (.int .i8 kb.pg)).setCell ⟨w.heap.size + 1, 5, none⟩ (.slice ga' kb.grants.length gc')).heap[w.heap.size + 1]? =
      some (.cells #[.bool kb.creator, .int .i8 kb.vis, .int .i8 kb.lvl, .string kb.dep, .int .i8 kb.pg, .slice ga' kb.grants.length gc'] 32) := by
    rw [heap_setCell_at (o := 5) _ (heap_setCell_at (o := 4) _ (heap_setCell_at (o := 3) _ (heap_setCell_at (o := 2) _ (heap_setCell_at (o := 1) _ (heap_setCell_at (o := 0) _ hb1)))))]
    rfl
  have hB2 : Below (w.heap.size + 1) W1 ((((((W1.setCell ⟨w.heap.size + 1, 0, none⟩ (.bool kb.creator)).setCell ⟨w.heap.size + 1, 1, none⟩ (.int .i8 kb.vis)).setCell ⟨w.heap.size + 1, 2, none⟩ (.int .i8 kb.lvl)).setCell ⟨w.heap.size + 1, 3, none⟩ (.string kb.dep)).setCell ⟨w.heap.size + 1, 4, none⟩ (.int .i8 kb.pg)).setCell ⟨w.heap.size + 1, 5, none⟩ (.slice ga' kb.grants.length gc')) :=
    ((((((Below.refl _ W1).setCell (p := ⟨w.heap.size + 1, 0, none⟩) (Nat.le_refl _) _).setCell (p := ⟨w.heap.size + 1, 1, none⟩) (Nat.le_refl _) _).setCell (p := ⟨w.heap.size + 1, 2, none⟩) (Nat.le_refl _) _).setCell (p := ⟨w.heap.size + 1, 3, none⟩) (Nat.le_refl _) _).setCell (p := ⟨w.heap.size + 1, 4, none⟩) (Nat.le_refl _) _).setCell (p := ⟨w.heap.size + 1, 5, none⟩) (Nat.le_refl _) _
  have hO2 : ∀ k, k ≠ w.heap.size + 1 → ((((((W1.setCell ⟨w.heap.size + 1, 0, none⟩ (.bool kb.creator)).setCell ⟨w.heap.size + 1, 1, none⟩ (.int .i8 kb.vis)).setCell ⟨w.heap.size + 1, 2, none⟩ (.int .i8 kb.lvl)).setCell ⟨w.heap.size + 1, 3, none⟩ (.string kb.dep)).setCell ⟨w.heap.size + 1, 4, none⟩ (.int .i8 kb.pg)).setCell ⟨w.heap.size + 1, 5, none⟩ (.slice ga' kb.grants.length gc')).heap[k]? = W1.heap[k]? := fun k hk => by
    rw [Below.heap_setCell _ _ _ _ hk, Below.heap_setCell _ _ _ _ hk, Below.heap_setCell _ _ _ _ hk, Below.heap_setCell _ _ _ _ hk, Below.heap_setCell _ _ _ _ hk, Below.heap_setCell _ _ _ _ hk]
  clear HC2 y0 y1 y2 y3 y4 y5 z0 z1 z2 z3 z4 z5 o0 o1 o2 o3 o4 o5 HR HBB x0 x1 x2 x3 x4 x5
  revert hW2 hB2 hO2
  generalize (((((W1.setCell ⟨w.heap.size + 1, 0, none⟩ (.bool kb.creator)).setCell ⟨w.heap.size + 1, 1, none⟩ (.int .i8 kb.vis)).setCell ⟨w.heap.size + 1, 2, none⟩ (.int .i8 kb.lvl)).setCell ⟨w.heap.size + 1, 3, none⟩ (.string kb.dep)).setCell ⟨w.heap.size + 1, 4, none⟩ (.int .i8 kb.pg)).setCell ⟨w.heap.size + 1, 5, none⟩ (.slice ga' kb.grants.length gc') = W2
  intro hW2 hB2 hO2
  have hfin : KbRes w.heap.size kb (.returned (.agg #[.bool kb.creator, .int .i8 kb.vis, .int .i8 kb.lvl, .string kb.dep, .int .i8 kb.pg, .slice ga' kb.grants.length gc'])) W2 :=
    ⟨_, rfl, hrow.own hB2.size hfrom (fun b o x hb _ hx => hx.heap (hO2 b (by omega))), fun b o n c e => Nat.le_trans (by omega) (hfrom b o n c e)⟩
  have HF := hidB hfin
  have HBB := hidB (hbel.trans (hB2.mono (Nat.le_succ _)))
  obtain ⟨v0, v1, v2, v3, v4, v5⟩ := six_cells hW2
  clear hfin hbel hrow hfrom hb1 hB2 hO2 hW2
  go_wp2
  exact bodyPost_ret (v := .agg #[.bool kb.creator, .int .i8 kb.vis, .int .i8 kb.lvl, .string kb.dep, .int .i8 kb.pg, .slice ga' kb.grants.length gc']) (by simp [results, Try.results22, go_sem, v0, v1, v2, v3, v4, v5]) rfl ⟨HF.out, HBB.out⟩
end Go.Proofs.Qxb6613755a
