/-
  Function 14, 'zzFacts': the input's data, copied into the facts of package access.
-/
import Derived.Test.Qxb6613755aMade
import Derived.Test.Qxb6613755aSlots
namespace Go.Proofs.Qxb6613755a
open Go.RowKit Go.Shelf
set_option linter.unusedVariables false
set_option linter.unusedSimpArgs false

theorem slotsFa {a : Act} {ds : List Deferred} {v0 v1 v2 v3 v4 v5 v6 v14 v15 : Value} (h : Slots 72 [(0, v0), (1, v1), (2, v2), (3, v3), (4, v4), (5, v5), (6, v6), (14, v14), (15, v15)] ds a) : ∃ f : Nat → Value, a = { tmps := List.toArray (v0 :: v1 :: v2 :: v3 :: v4 :: v5 :: v6 :: f 7 :: f 8 :: f 9 :: f 10 :: f 11 :: f 12 :: f 13 :: v14 :: v15 :: f 16 :: f 17 :: f 18 :: f 19 :: f 20 :: f 21 :: f 22 :: f 23 :: f 24 :: f 25 :: f 26 :: f 27 :: f 28 :: f 29 :: f 30 :: f 31 :: f 32 :: f 33 :: f 34 :: f 35 :: f 36 :: f 37 :: f 38 :: f 39 :: f 40 :: f 41 :: f 42 :: f 43 :: f 44 :: f 45 :: f 46 :: f 47 :: f 48 :: f 49 :: f 50 :: f 51 :: f 52 :: f 53 :: f 54 :: f 55 :: f 56 :: f 57 :: f 58 :: f 59 :: f 60 :: f 61 :: f 62 :: f 63 :: f 64 :: f 65 :: f 66 :: f 67 :: f 68 :: f 69 :: f 70 :: f 71 :: []), defers := ds } := by
  obtain ⟨rfl, hn, hv⟩ := h
  obtain ⟨f, hf⟩ : ∃ f : Nat → Value, f = fun i => a.tmps.getD i undef := ⟨_, rfl⟩
  have ht := tabF_of a.tmps f (fun i hi => by simp [hf, hi])
  have he : ∀ i v, a.tmps[i]? = some v → f i = v := fun i v h => by simp [hf, h]
  clear hf
  rw [hn] at ht
  have e0 := he 0 v0 (hv (0, v0) (by simp))
  have e1 := he 1 v1 (hv (1, v1) (by simp))
  have e2 := he 2 v2 (hv (2, v2) (by simp))
  have e3 := he 3 v3 (hv (3, v3) (by simp))
  have e4 := he 4 v4 (hv (4, v4) (by simp))
  have e5 := he 5 v5 (hv (5, v5) (by simp))
  have e6 := he 6 v6 (hv (6, v6) (by simp))
  have e14 := he 14 v14 (hv (14, v14) (by simp))
  have e15 := he 15 v15 (hv (15, v15) (by simp))
  refine ⟨f, ?_⟩
  simp only [tabF, Nat.reduceAdd, e0, e1, e2, e3, e4, e5, e6, e14, e15] at ht
  obtain ⟨t, ds⟩ := a
  simp only at ht
  subst ht
  rfl

theorem slotsFaL {a : Act} {ds : List Deferred} {v0 v1 v2 v3 v4 v5 v6 v14 v15 v16 : Value} (h : Slots 72 [(0, v0), (1, v1), (2, v2), (3, v3), (4, v4), (5, v5), (6, v6), (14, v14), (15, v15), (16, v16)] ds a) : ∃ f : Nat → Value, a = { tmps := List.toArray (v0 :: v1 :: v2 :: v3 :: v4 :: v5 :: v6 :: f 7 :: f 8 :: f 9 :: f 10 :: f 11 :: f 12 :: f 13 :: v14 :: v15 :: v16 :: f 17 :: f 18 :: f 19 :: f 20 :: f 21 :: f 22 :: f 23 :: f 24 :: f 25 :: f 26 :: f 27 :: f 28 :: f 29 :: f 30 :: f 31 :: f 32 :: f 33 :: f 34 :: f 35 :: f 36 :: f 37 :: f 38 :: f 39 :: f 40 :: f 41 :: f 42 :: f 43 :: f 44 :: f 45 :: f 46 :: f 47 :: f 48 :: f 49 :: f 50 :: f 51 :: f 52 :: f 53 :: f 54 :: f 55 :: f 56 :: f 57 :: f 58 :: f 59 :: f 60 :: f 61 :: f 62 :: f 63 :: f 64 :: f 65 :: f 66 :: f 67 :: f 68 :: f 69 :: f 70 :: f 71 :: []), defers := ds } := by
  obtain ⟨rfl, hn, hv⟩ := h
  obtain ⟨f, hf⟩ : ∃ f : Nat → Value, f = fun i => a.tmps.getD i undef := ⟨_, rfl⟩
  have ht := tabF_of a.tmps f (fun i hi => by simp [hf, hi])
  have he : ∀ i v, a.tmps[i]? = some v → f i = v := fun i v h => by simp [hf, h]
  clear hf
  rw [hn] at ht
  have e0 := he 0 v0 (hv (0, v0) (by simp))
  have e1 := he 1 v1 (hv (1, v1) (by simp))
  have e2 := he 2 v2 (hv (2, v2) (by simp))
  have e3 := he 3 v3 (hv (3, v3) (by simp))
  have e4 := he 4 v4 (hv (4, v4) (by simp))
  have e5 := he 5 v5 (hv (5, v5) (by simp))
  have e6 := he 6 v6 (hv (6, v6) (by simp))
  have e14 := he 14 v14 (hv (14, v14) (by simp))
  have e15 := he 15 v15 (hv (15, v15) (by simp))
  have e16 := he 16 v16 (hv (16, v16) (by simp))
  refine ⟨f, ?_⟩
  simp only [tabF, Nat.reduceAdd, e0, e1, e2, e3, e4, e5, e6, e14, e15, e16] at ht
  obtain ⟨t, ds⟩ := a
  simp only at ht
  subst ht
  rfl

theorem slotsFb {a : Act} {ds : List Deferred} {v0 v1 v2 v3 v4 v5 v6 v14 v15 v17 : Value} (h : Slots 72 [(0, v0), (1, v1), (2, v2), (3, v3), (4, v4), (5, v5), (6, v6), (14, v14), (15, v15), (17, v17)] ds a) : ∃ f : Nat → Value, a = { tmps := List.toArray (v0 :: v1 :: v2 :: v3 :: v4 :: v5 :: v6 :: f 7 :: f 8 :: f 9 :: f 10 :: f 11 :: f 12 :: f 13 :: v14 :: v15 :: f 16 :: v17 :: f 18 :: f 19 :: f 20 :: f 21 :: f 22 :: f 23 :: f 24 :: f 25 :: f 26 :: f 27 :: f 28 :: f 29 :: f 30 :: f 31 :: f 32 :: f 33 :: f 34 :: f 35 :: f 36 :: f 37 :: f 38 :: f 39 :: f 40 :: f 41 :: f 42 :: f 43 :: f 44 :: f 45 :: f 46 :: f 47 :: f 48 :: f 49 :: f 50 :: f 51 :: f 52 :: f 53 :: f 54 :: f 55 :: f 56 :: f 57 :: f 58 :: f 59 :: f 60 :: f 61 :: f 62 :: f 63 :: f 64 :: f 65 :: f 66 :: f 67 :: f 68 :: f 69 :: f 70 :: f 71 :: []), defers := ds } := by
  obtain ⟨rfl, hn, hv⟩ := h
  obtain ⟨f, hf⟩ : ∃ f : Nat → Value, f = fun i => a.tmps.getD i undef := ⟨_, rfl⟩
  have ht := tabF_of a.tmps f (fun i hi => by simp [hf, hi])
  have he : ∀ i v, a.tmps[i]? = some v → f i = v := fun i v h => by simp [hf, h]
  clear hf
  rw [hn] at ht
  have e0 := he 0 v0 (hv (0, v0) (by simp))
  have e1 := he 1 v1 (hv (1, v1) (by simp))
  have e2 := he 2 v2 (hv (2, v2) (by simp))
  have e3 := he 3 v3 (hv (3, v3) (by simp))
  have e4 := he 4 v4 (hv (4, v4) (by simp))
  have e5 := he 5 v5 (hv (5, v5) (by simp))
  have e6 := he 6 v6 (hv (6, v6) (by simp))
  have e14 := he 14 v14 (hv (14, v14) (by simp))
  have e15 := he 15 v15 (hv (15, v15) (by simp))
  have e17 := he 17 v17 (hv (17, v17) (by simp))
  refine ⟨f, ?_⟩
  simp only [tabF, Nat.reduceAdd, e0, e1, e2, e3, e4, e5, e6, e14, e15, e17] at ht
  obtain ⟨t, ds⟩ := a
  simp only at ht
  subst ht
  rfl

theorem slotsFbL {a : Act} {ds : List Deferred} {v0 v1 v2 v3 v4 v5 v6 v14 v15 v17 v18 : Value} (h : Slots 72 [(0, v0), (1, v1), (2, v2), (3, v3), (4, v4), (5, v5), (6, v6), (14, v14), (15, v15), (17, v17), (18, v18)] ds a) : ∃ f : Nat → Value, a = { tmps := List.toArray (v0 :: v1 :: v2 :: v3 :: v4 :: v5 :: v6 :: f 7 :: f 8 :: f 9 :: f 10 :: f 11 :: f 12 :: f 13 :: v14 :: v15 :: f 16 :: v17 :: v18 :: f 19 :: f 20 :: f 21 :: f 22 :: f 23 :: f 24 :: f 25 :: f 26 :: f 27 :: f 28 :: f 29 :: f 30 :: f 31 :: f 32 :: f 33 :: f 34 :: f 35 :: f 36 :: f 37 :: f 38 :: f 39 :: f 40 :: f 41 :: f 42 :: f 43 :: f 44 :: f 45 :: f 46 :: f 47 :: f 48 :: f 49 :: f 50 :: f 51 :: f 52 :: f 53 :: f 54 :: f 55 :: f 56 :: f 57 :: f 58 :: f 59 :: f 60 :: f 61 :: f 62 :: f 63 :: f 64 :: f 65 :: f 66 :: f 67 :: f 68 :: f 69 :: f 70 :: f 71 :: []), defers := ds } := by
  obtain ⟨rfl, hn, hv⟩ := h
  obtain ⟨f, hf⟩ : ∃ f : Nat → Value, f = fun i => a.tmps.getD i undef := ⟨_, rfl⟩
  have ht := tabF_of a.tmps f (fun i hi => by simp [hf, hi])
  have he : ∀ i v, a.tmps[i]? = some v → f i = v := fun i v h => by simp [hf, h]
  clear hf
  rw [hn] at ht
  have e0 := he 0 v0 (hv (0, v0) (by simp))
  have e1 := he 1 v1 (hv (1, v1) (by simp))
  have e2 := he 2 v2 (hv (2, v2) (by simp))
  have e3 := he 3 v3 (hv (3, v3) (by simp))
  have e4 := he 4 v4 (hv (4, v4) (by simp))
  have e5 := he 5 v5 (hv (5, v5) (by simp))
  have e6 := he 6 v6 (hv (6, v6) (by simp))
  have e14 := he 14 v14 (hv (14, v14) (by simp))
  have e15 := he 15 v15 (hv (15, v15) (by simp))
  have e17 := he 17 v17 (hv (17, v17) (by simp))
  have e18 := he 18 v18 (hv (18, v18) (by simp))
  refine ⟨f, ?_⟩
  simp only [tabF, Nat.reduceAdd, e0, e1, e2, e3, e4, e5, e6, e14, e15, e17, e18] at ht
  obtain ⟨t, ds⟩ := a
  simp only at ht
  subst ht
  rfl

/-- The block b holds an array of type t in which the first k elements, two cells each, are written. -/
def Fill2 {α : Type} (f g : α → Value) (b t : Nat) (xs : List α) (k : Nat) (W : World) : Prop := ∃ arr : Array Value, W.heap[b]? = some (.cells arr t) ∧ arr.size = xs.length * 2 ∧ ∀ j (h : j < xs.length), j < k → arr[j * 2]? = some (f xs[j]) ∧ arr[j * 2 + 1]? = some (g xs[j])

theorem Fill2.spot {α : Type} {f g : α → Value} {b t : Nat} {xs : List α} {k : Nat} {W : World} (h : Fill2 f g b t xs k W) {i : Nat} (hk : i < xs.length) : ∃ u v, W.cell? ⟨b, i * 2, none⟩ = some u ∧ W.cell? ⟨b, i * 2 + 1, none⟩ = some v ∧ W.frozen? ⟨b, i * 2, none⟩ = false ∧ W.frozen? ⟨b, i * 2 + 1, none⟩ = false := by
  obtain ⟨arr, h1, h2, _⟩ := h
  refine ⟨arr[i * 2]'(by omega), arr[i * 2 + 1]'(by omega), ?_, ?_, frozen_at h1, frozen_at h1⟩
  · rw [cell_at h1]; simp
  · rw [cell_at h1]; simp
theorem Fill2.step {α : Type} {f g : α → Value} {b t : Nat} {xs : List α} {k : Nat} {W : World} (h : Fill2 f g b t xs k W) (hk : k < xs.length) : Fill2 f g b t xs (k + 1) ((W.setCell ⟨b, k * 2, none⟩ (f xs[k])).setCell ⟨b, k * 2 + 1, none⟩ (g xs[k])) := by
  obtain ⟨arr, h1, h2, h3⟩ := h
  refine ⟨_, heap_setCell_at (o := k * 2 + 1) _ (heap_setCell_at (o := k * 2) _ h1), by simp [h2], fun j hj hjk => ?_⟩
  by_cases e : j = k
  · subst e
    constructor
    · rw [Array.getElem?_setIfInBounds_ne (by omega), Array.getElem?_setIfInBounds_self_of_lt (by omega)]
    · rw [Array.getElem?_setIfInBounds_self_of_lt (by simp; omega)]
  · obtain ⟨q1, q2⟩ := h3 j hj (by omega)
    constructor
    · rw [Array.getElem?_setIfInBounds_ne (by omega), Array.getElem?_setIfInBounds_ne (by omega)]; exact q1
    · rw [Array.getElem?_setIfInBounds_ne (by omega), Array.getElem?_setIfInBounds_ne (by omega)]; exact q2
theorem fillWi_row {b t n : Nat} {xs : List Wi} {W : World} (h : Fill2 (fun x => .string x.dep) (fun x => .string x.via) b t xs xs.length W) (hb : b < n) (hx : xs.length ≤ 4096) : RowIs n 2 32 WiAt W (.slice (some ⟨b, 0, none⟩) xs.length xs.length) xs := by
  obtain ⟨arr, h1, h2, h3⟩ := h
  refine ⟨_, _, rfl, Nat.le_refl _, by omega, fun j hj => ⟨b, 0, rfl, hb, ?_⟩⟩
  obtain ⟨q1, q2⟩ := h3 j hj hj
  rw [Nat.zero_add]
  exact ⟨(cell_at h1).trans q1, (cell_at h1).trans q2⟩

def facA (c : Code) : Code := seqL (seqR (seqR c))
def facB (c : Code) : Code := seqL (seqR (seqR (seqR (seqR c))))
def facC (c : Code) : Code := seqR (seqR (seqR (seqR (seqR c))))
theorem code14_parts : Try.f14.body = some (.seq (seqL (Try.f14.body.getD .skip)) (.seq (seqL (seqR (Try.f14.body.getD .skip))) (.seq (facA (Try.f14.body.getD .skip)) (.seq (seqL (seqR (seqR (seqR (Try.f14.body.getD .skip))))) (.seq (facB (Try.f14.body.getD .skip)) (facC (Try.f14.body.getD .skip))))))) := rfl

/-- The slots of the arguments and of the result. -/
def slotsIn (v0 v1 v2 v3 v4 v5 v6 v14 : Value) (more : List (Nat × Value)) : List (Nat × Value) := [(0, v0), (1, v1), (2, v2), (3, v3), (4, v4), (5, v5), (6, v6), (14, v14)] ++ more

set_option maxRecDepth 100000 in
set_option maxHeartbeats 2000000 in
theorem facts_partA {v0 v1 v2 v3 v4 v6 v14 dv : Value} (ds : List Wi) {a : Act} {W : World} (hd : RowIs W.heap.size 2 0 WiAt W dv ds) (hl : ds.length ≤ 4096) (ha : Slots 72 (slotsIn v0 v1 v2 v3 v4 dv v6 v14 [(15, .slice none 0 0)]) [] a) (K : Act → World → Prop) (Q : Exit → Act → World → Prop)
    (hK : ∀ a' W' dv', Slots 72 (slotsIn v0 v1 v2 v3 v4 dv v6 v14 [(15, dv')]) [] a' → RowIs W'.heap.size 2 32 WiAt W' dv' ds → FromOn W.heap.size dv' → Below W.heap.size W W' → K a' W') :
    (facA (Try.f14.body.getD .skip)).wp Try.prog (Exit.then K Q) a W := by
  obtain ⟨f, rfl⟩ := slotsFa ha
  dsimp only [facA, seqL, seqR, Try.f14, Option.getD]
  obtain ⟨da, dc, rfl, hdl, hdx, hdel⟩ := hd
  have HD := hidB hdel
  have HK : Hid _ := hK
  clear hdel hdx hdl hK ha
  have hnil := fun w => run_neq_slice_nil_any (P := Try.prog) w 42 76 da ds.length dc 0 0 Try.underlying42
  obtain ⟨arr, harr, hmk⟩ := made 34 79 _ 2 32 Try.underlying34 Try.info79 ds.length (by omega) (by omega)
  cases da with
  | none =>
    have hz : ds = [] := by
      cases ds with
      | nil => rfl
      | cons g gs => obtain ⟨b, off, e, _⟩ := HD.out 0 (by simp); cases e
    subst hz
    clear hmk HD
    simp only [List.length_nil] at hnil ⊢
    go_wp2
    exact HK.out _ _ (.slice none 0 0) ⟨rfl, rfl, by simp [slotsIn]⟩ ⟨none, 0, rfl, Nat.le_refl _, by omega, fun j h => by cases h⟩ (fromOn_nil _ _ _) (Below.refl _ _)
  | some ad =>
    have h0 : Fill2 (fun x : Wi => .string x.dep) (fun x => .string x.via) W.heap.size 79 ds 0 (W.alloc (.cells arr 79)) := ⟨arr, World.alloc_heap_new _ _, harr, fun j h h' => by omega⟩
    have hB : Below W.heap.size W (W.alloc (.cells arr 79)) := (Below.refl _ W).alloc (Nat.le_refl _) _
    have H0 := hidB h0
    have HB := hidB hB
    clear h0 harr hB
    go_wp2
    clear hmk hnil
    refine wp_loop (fun a wr => ∃ k : Nat, k ≤ ds.length ∧ Slots 72 (slotsIn v0 v1 v2 v3 v4 (.slice (some ad) ds.length dc) v6 v14 [(15, .slice (some ⟨W.heap.size, 0, none⟩) ds.length ds.length), (16, .int .i64 k)]) [] a ∧ Fill2 (fun x : Wi => .string x.dep) (fun x => .string x.via) W.heap.size 79 ds k wr ∧ Below W.heap.size W wr)
      (fun a _ => ds.length - (intOf (a.tmps.getD 16 undef)).toNat) ⟨0, Nat.zero_le _, ⟨rfl, rfl, by simp [slotsIn]⟩, H0.out, HB.out⟩ ?_
    clear H0 HB f
    rintro a wr ⟨k, hk, ha, hfill, hbel⟩
    obtain ⟨f, rfl⟩ := slotsFaL ha
    clear ha
    by_cases hlt : k < ds.length
    · obtain ⟨b, off, e, hb, c0, c1⟩ := HD.out k hlt
      cases e
      replace c0 := (hbel.cell (p := ⟨b, off + k * 2, none⟩) hb).trans c0
      replace c1 := (hbel.cell (p := ⟨b, off + k * 2 + 1, none⟩) hb).trans c1
      obtain ⟨u, v, s0, s1, f0, f1⟩ := hfill.spot hlt
      have HF := hidB (hfill.step hlt)
      have HB := hidB hbel
      clear hfill hbel HD
      have hne : ¬ W.heap.size = b := by omega
      have hi0 : (0 : Int) ≤ (k : Int) := by omega
      have hi1 : (k : Int) < (ds.length : Int) := by omega
      go_wp2
      go_region_held3 (fun W' => W'.cell? ⟨b, off + k * 2, none⟩ = some (.string ds[k].dep) ∧ W'.cell? ⟨b, off + k * 2 + 1, none⟩ = some (.string ds[k].via)) (go_keep) (fail)
      go_wp2
      exact ⟨⟨k + 1, by omega, ⟨rfl, rfl, by simp [slotsIn]⟩, HF.out, ((HB.out.setCell (p := ⟨W.heap.size, k * 2, none⟩) (Nat.le_refl _) _).setCell (p := ⟨W.heap.size, k * 2 + 1, none⟩) (Nat.le_refl _) _).drew⟩, by simp [intOf]; omega⟩
    · obtain rfl : k = ds.length := by omega
      have hlt' : W.heap.size < wr.heap.size := by obtain ⟨arr', h1, _⟩ := hfill; exact (Array.getElem?_eq_some_iff.1 h1).1
      have HF := hidB (fillWi_row hfill hlt' hl)
      have HB := hidB hbel
      clear hfill hbel HD
      go_wp2
      exact HK.out _ _ _ ⟨rfl, rfl, by simp [slotsIn]⟩ HF.out (fromOn_at (Nat.le_refl _)) HB.out

/-- The block b holds an array of knowledge bases in which the first k are written, their grants in blocks behind b. -/
def FillKb (b : Nat) (xs : List Kb) (k : Nat) (W : World) : Prop := ∃ arr : Array Value, W.heap[b]? = some (.cells arr 32) ∧ arr.size = xs.length * 6 ∧ ∀ j (h : j < xs.length), j < k →
  arr[j * 6]? = some (.bool xs[j].creator) ∧ arr[j * 6 + 1]? = some (.int .i8 xs[j].vis) ∧ arr[j * 6 + 2]? = some (.int .i8 xs[j].lvl) ∧ arr[j * 6 + 3]? = some (.string xs[j].dep) ∧ arr[j * 6 + 4]? = some (.int .i8 xs[j].pg) ∧
  ∃ gv, arr[j * 6 + 5]? = some gv ∧ RowIs W.heap.size 2 24 GrAt W gv xs[j].grants ∧ FromOn (b + 1) gv

theorem FillKb.later {b : Nat} {xs : List Kb} {k : Nat} {W W' : World} (h : FillKb b xs k W) (hb : Below W.heap.size W W') : FillKb b xs k W' := by
  obtain ⟨arr, h1, h2, h3⟩ := h
  refine ⟨arr, (hb.block b (Array.getElem?_eq_some_iff.1 h1).1).trans h1, h2, fun j hj hk => ?_⟩
  obtain ⟨q0, q1, q2, q3, q4, gv, q5, q6, q7⟩ := h3 j hj hk
  exact ⟨q0, q1, q2, q3, q4, gv, q5, q6.mono' hb.size (fun _ _ _ hb' => GrAt.below hb hb'), q7⟩
theorem FillKb.spot {b : Nat} {xs : List Kb} {k : Nat} {W : World} (h : FillKb b xs k W) {i : Nat} (hk : i < xs.length) (j : Nat) (hj : j < 6) : (∃ u, W.cell? ⟨b, i * 6 + j, none⟩ = some u) ∧ W.frozen? ⟨b, i * 6 + j, none⟩ = false := by
  obtain ⟨arr, h1, h2, _⟩ := h
  refine ⟨⟨arr[i * 6 + j]'(by omega), ?_⟩, frozen_at h1⟩
  rw [cell_at h1]; simp
/-- Six stores in a row. -/
def put6 (W : World) (b o : Nat) (v0 v1 v2 v3 v4 v5 : Value) : World := (((((W.setCell ⟨b, o, none⟩ v0).setCell ⟨b, o + 1, none⟩ v1).setCell ⟨b, o + 2, none⟩ v2).setCell ⟨b, o + 3, none⟩ v3).setCell ⟨b, o + 4, none⟩ v4).setCell ⟨b, o + 5, none⟩ v5
theorem put6_other {W : World} {b o k : Nat} {v0 v1 v2 v3 v4 v5 : Value} (hk : k ≠ b) : (put6 W b o v0 v1 v2 v3 v4 v5).heap[k]? = W.heap[k]? := by
  unfold put6
  rw [Below.heap_setCell _ _ _ _ hk, Below.heap_setCell _ _ _ _ hk, Below.heap_setCell _ _ _ _ hk, Below.heap_setCell _ _ _ _ hk, Below.heap_setCell _ _ _ _ hk, Below.heap_setCell _ _ _ _ hk]
theorem put6_size {W : World} {b o : Nat} {v0 v1 v2 v3 v4 v5 : Value} : (put6 W b o v0 v1 v2 v3 v4 v5).heap.size = W.heap.size := by simp [put6]
theorem put6_below {W : World} {b o B : Nat} {v0 v1 v2 v3 v4 v5 : Value} (hb : B ≤ b) : Below B W (put6 W b o v0 v1 v2 v3 v4 v5) :=
  ((((((Below.refl _ W).setCell (p := ⟨b, o, none⟩) hb _).setCell (p := ⟨b, o + 1, none⟩) hb _).setCell (p := ⟨b, o + 2, none⟩) hb _).setCell (p := ⟨b, o + 3, none⟩) hb _).setCell (p := ⟨b, o + 4, none⟩) hb _).setCell (p := ⟨b, o + 5, none⟩) hb _
theorem FillKb.step {b : Nat} {xs : List Kb} {k : Nat} {W : World} (h : FillKb b xs k W) (hk : k < xs.length) {gv : Value} (hrow : RowIs W.heap.size 2 24 GrAt W gv xs[k].grants) (hfrom : FromOn (b + 1) gv) :
    FillKb b xs (k + 1) (put6 W b (k * 6) (.bool xs[k].creator) (.int .i8 xs[k].vis) (.int .i8 xs[k].lvl) (.string xs[k].dep) (.int .i8 xs[k].pg) gv) := by
  obtain ⟨arr, h1, h2, h3⟩ := h
  refine ⟨_, heap_setCell_at (o := k * 6 + 5) _ (heap_setCell_at (o := k * 6 + 4) _ (heap_setCell_at (o := k * 6 + 3) _ (heap_setCell_at (o := k * 6 + 2) _ (heap_setCell_at (o := k * 6 + 1) _ (heap_setCell_at (o := k * 6) _ h1))))), by simp [h2], fun j hj hjk => ?_⟩
  have hrow' : ∀ (gv' : Value) (gs : List Gr), RowIs W.heap.size 2 24 GrAt W gv' gs → FromOn (b + 1) gv' → RowIs (put6 W b (k * 6) (.bool xs[k].creator) (.int .i8 xs[k].vis) (.int .i8 xs[k].lvl) (.string xs[k].dep) (.int .i8 xs[k].pg) gv).heap.size 2 24 GrAt (put6 W b (k * 6) (.bool xs[k].creator) (.int .i8 xs[k].vis) (.int .i8 xs[k].lvl) (.string xs[k].dep) (.int .i8 xs[k].pg) gv) gv' gs :=
    fun gv' gs hr hf => hr.own (by rw [put6_size]; exact Nat.le_refl _) hf (fun b' o x hb' _ hx => hx.heap (put6_other (by omega)))
  by_cases e : j = k
  · subst e
    refine ⟨?_, ?_, ?_, ?_, ?_, gv, ?_, hrow' _ _ hrow hfrom, hfrom⟩
    · iterate 5 rw [Array.getElem?_setIfInBounds_ne (by omega)]
      rw [Array.getElem?_setIfInBounds_self_of_lt (by omega)]
    · iterate 4 rw [Array.getElem?_setIfInBounds_ne (by omega)]
      rw [Array.getElem?_setIfInBounds_self_of_lt (by simp; omega)]
    · iterate 3 rw [Array.getElem?_setIfInBounds_ne (by omega)]
      rw [Array.getElem?_setIfInBounds_self_of_lt (by simp; omega)]
    · iterate 2 rw [Array.getElem?_setIfInBounds_ne (by omega)]
      rw [Array.getElem?_setIfInBounds_self_of_lt (by simp; omega)]
    · rw [Array.getElem?_setIfInBounds_ne (by omega)]
      rw [Array.getElem?_setIfInBounds_self_of_lt (by simp; omega)]
    · rw [Array.getElem?_setIfInBounds_self_of_lt (by simp; omega)]
  · obtain ⟨q0, q1, q2, q3, q4, gv', q5, q6, q7⟩ := h3 j hj (by omega)
    refine ⟨?_, ?_, ?_, ?_, ?_, gv', ?_, hrow' _ _ q6 q7, q7⟩
    · iterate 6 rw [Array.getElem?_setIfInBounds_ne (by omega)]
      exact q0
    · iterate 6 rw [Array.getElem?_setIfInBounds_ne (by omega)]
      exact q1
    · iterate 6 rw [Array.getElem?_setIfInBounds_ne (by omega)]
      exact q2
    · iterate 6 rw [Array.getElem?_setIfInBounds_ne (by omega)]
      exact q3
    · iterate 6 rw [Array.getElem?_setIfInBounds_ne (by omega)]
      exact q4
    · iterate 6 rw [Array.getElem?_setIfInBounds_ne (by omega)]
      exact q5
theorem FillKb.row {b : Nat} {xs : List Kb} {W : World} (h : FillKb b xs xs.length W) (hx : xs.length ≤ 4096) : RowIs W.heap.size 6 64 (KbAt W.heap.size) W (.slice (some ⟨b, 0, none⟩) xs.length xs.length) xs := by
  obtain ⟨arr, h1, h2, h3⟩ := h
  refine ⟨_, _, rfl, Nat.le_refl _, by omega, fun j hj => ⟨b, 0, rfl, (Array.getElem?_eq_some_iff.1 h1).1, ?_⟩⟩
  obtain ⟨q0, q1, q2, q3, q4, gv, q5, q6, q7⟩ := h3 j hj hj
  rw [Nat.zero_add]
  exact ⟨(cell_at h1).trans q0, (cell_at h1).trans q1, (cell_at h1).trans q2, (cell_at h1).trans q3, (cell_at h1).trans q4, gv, (cell_at h1).trans q5, q6⟩

/-- The copied knowledge bases, in blocks from base on. -/
def KbsOut (base : Nat) (ks : List Kb) (kv : Value) (W : World) : Prop := (kv = .slice none 0 0 ∧ ks = []) ∨ ∃ b, base ≤ b ∧ kv = .slice (some ⟨b, 0, none⟩) ks.length ks.length ∧ FillKb b ks ks.length W
theorem KbsOut.row {base : Nat} {ks : List Kb} {kv : Value} {W : World} (h : KbsOut base ks kv W) (hx : ks.length ≤ 4096) : RowIs W.heap.size 6 64 (KbAt W.heap.size) W kv ks := by
  rcases h with ⟨rfl, rfl⟩ | ⟨b, _, rfl, hf⟩
  · exact ⟨none, 0, rfl, Nat.le_refl _, by omega, fun j h => by cases h⟩
  · exact hf.row hx
theorem KbsOut.turned {base : Nat} {ks : List Kb} {kv : Value} {W W' : World} (h : KbsOut base ks kv W) (hs : W.heap.size ≤ W'.heap.size) (hk : ∀ k, base ≤ k → k < W.heap.size → W'.heap[k]? = W.heap[k]?) : KbsOut base ks kv W' := by
  rcases h with h | ⟨b, hb, rfl, arr, h1, h2, h3⟩
  · exact .inl h
  · refine .inr ⟨b, hb, rfl, arr, (hk b hb (Array.getElem?_eq_some_iff.1 h1).1).trans h1, h2, fun j hj hjk => ?_⟩
    obtain ⟨q0, q1, q2, q3, q4, gv, q5, q6, q7⟩ := h3 j hj hjk
    exact ⟨q0, q1, q2, q3, q4, gv, q5, q6.own hs q7 (fun b' o x hb' hlt hx => hx.heap (hk b' (by omega) hlt)), q7⟩

set_option maxRecDepth 100000 in
set_option maxHeartbeats 2000000 in
theorem facts_partB {v0 v1 v2 v3 v4 v5 v14 v15 kv : Value} (ks : List Kb) {a : Act} {W : World} (hd : RowIs W.heap.size 6 0 (ZkAt W.heap.size) W kv ks) (hl : ks.length ≤ 4096) (hgl : ∀ j (h : j < ks.length), ks[j].grants.length ≤ 4096) (ha : Slots 72 (slotsIn v0 v1 v2 v3 v4 v5 kv v14 [(15, v15), (17, .slice none 0 0)]) [] a) (K : Act → World → Prop) (Q : Exit → Act → World → Prop)
    (hK : ∀ a' W' kv', Slots 72 (slotsIn v0 v1 v2 v3 v4 v5 kv v14 [(15, v15), (17, kv')]) [] a' → KbsOut W.heap.size ks kv' W' → Below W.heap.size W W' → K a' W') :
    (facB (Try.f14.body.getD .skip)).wp Try.prog (Exit.then K Q) a W := by
  obtain ⟨f, rfl⟩ := slotsFb ha
  dsimp only [facB, seqL, seqR, Try.f14, Option.getD]
  obtain ⟨da, dc, rfl, hdl, hdx, hdel⟩ := hd
  have HD := hidB hdel
  have HK : Hid _ := hK
  have HL := hidB hgl
  clear hdel hdx hdl hK ha hgl
  have hnil := fun w => run_neq_slice_nil_any (P := Try.prog) w 43 53 da ks.length dc 0 0 Try.underlying43
  obtain ⟨arr, harr, hmk⟩ := made 33 32 _ 6 64 Try.underlying33 Try.info32 ks.length (by omega) (by omega)
  cases da with
  | none =>
    have hz : ks = [] := by
      cases ks with
      | nil => rfl
      | cons g gs => obtain ⟨b, off, e, _⟩ := HD.out 0 (by simp); cases e
    subst hz
    clear hmk HD HL
    simp only [List.length_nil] at hnil ⊢
    go_wp2
    exact HK.out _ _ (.slice none 0 0) ⟨rfl, rfl, by simp [slotsIn]⟩ (.inl ⟨rfl, rfl⟩) (Below.refl _ _)
  | some ad =>
    have h0 : FillKb W.heap.size ks 0 (W.alloc (.cells arr 32)) := ⟨arr, World.alloc_heap_new _ _, harr, fun j h h' => by omega⟩
    have hB : Below W.heap.size W (W.alloc (.cells arr 32)) := (Below.refl _ W).alloc (Nat.le_refl _) _
    have H0 := hidB h0
    have HB := hidB hB
    clear h0 harr hB
    go_wp2
    clear hmk hnil
    refine wp_loop (fun a wr => ∃ k : Nat, k ≤ ks.length ∧ Slots 72 (slotsIn v0 v1 v2 v3 v4 v5 (.slice (some ad) ks.length dc) v14 [(15, v15), (17, .slice (some ⟨W.heap.size, 0, none⟩) ks.length ks.length), (18, .int .i64 k)]) [] a ∧ FillKb W.heap.size ks k wr ∧ Below W.heap.size W wr)
      (fun a _ => ks.length - (intOf (a.tmps.getD 18 undef)).toNat) ⟨0, Nat.zero_le _, ⟨rfl, rfl, by simp [slotsIn]⟩, H0.out, HB.out⟩ ?_
    clear H0 HB f
    rintro a wr ⟨k, hk, ha, hfill, hbel⟩
    obtain ⟨f, rfl⟩ := slotsFbL ha
    clear ha
    by_cases hlt : k < ks.length
    · obtain ⟨b, off, e, hb, q⟩ := HD.out k hlt
      cases e
      obtain ⟨q0, q1, q2, q3, q4, gv, q5, q6⟩ := q.below hbel hb
      have hwr : W.heap.size < wr.heap.size := by obtain ⟨arr', h1, _⟩ := hfill; exact (Array.getElem?_eq_some_iff.1 h1).1
      have hcall : Calls Try.prog 22 #[.agg #[.bool ks[k].creator, .int .i8 ks[k].vis, .int .i8 ks[k].lvl, .string ks[k].dep, .int .i8 ks[k].pg, gv]] wr fun e W1 => ∃ ga' gc', e = .returned (.agg #[.bool ks[k].creator, .int .i8 ks[k].vis, .int .i8 ks[k].lvl, .string ks[k].dep, .int .i8 ks[k].pg, .slice ga' ks[k].grants.length gc']) ∧
          (∀ j, j < 6 → (∃ u, W1.cell? ⟨W.heap.size, k * 6 + j, none⟩ = some u) ∧ W1.frozen? ⟨W.heap.size, k * 6 + j, none⟩ = false) ∧
          Hid (FillKb W.heap.size ks (k + 1) (put6 W1 W.heap.size (k * 6) (.bool ks[k].creator) (.int .i8 ks[k].vis) (.int .i8 ks[k].lvl) (.string ks[k].dep) (.int .i8 ks[k].pg) (.slice ga' ks[k].grants.length gc'))) ∧ Hid (Below W.heap.size W W1) := by
        refine (kb_c ks[k] gv wr (q6.mono' (by omega) (fun _ _ _ _ h => h)) (HL.out k hlt)).mono ?_
        rintro e W1 ⟨⟨gv', rfl, hrow, hfrom⟩, hb1⟩
        have hrow' := hrow
        obtain ⟨ga', gc', rfl, _⟩ := hrow'
        have hf1 := hfill.later hb1
        exact ⟨ga', gc', rfl, fun j hj => hf1.spot hlt j hj, hf1.step hlt hrow (fun b o n c e => Nat.le_trans hwr (hfrom b o n c e)), hbel.trans (hb1.mono (by omega))⟩
      obtain ⟨ga0, gc0, rfl, _⟩ := q6
      have HC := hidB hcall
      clear hfill hbel HD HL hcall q
      go_wp2_with (go_at_call 22; refine HC.out.mono ?_; rintro e W1 ⟨ga', gc', rfl, hsp, HF, HB⟩; obtain ⟨⟨u0, s0⟩, p0⟩ := hsp 0 (by omega); obtain ⟨⟨u1, s1⟩, p1⟩ := hsp 1 (by omega); obtain ⟨⟨u2, s2⟩, p2⟩ := hsp 2 (by omega); obtain ⟨⟨u3, s3⟩, p3⟩ := hsp 3 (by omega); obtain ⟨⟨u4, s4⟩, p4⟩ := hsp 4 (by omega); obtain ⟨⟨u5, s5⟩, p5⟩ := hsp 5 (by omega); simp only [Nat.add_zero] at s0 p0; clear hsp HC)
      exact ⟨⟨k + 1, by omega, ⟨rfl, rfl, by simp [slotsIn]⟩, HF.out, HB.out.trans (put6_below (Nat.le_refl _))⟩, by simp [intOf]; omega⟩
    · obtain rfl : k = ks.length := by omega
      have HF := hidB hfill
      have HB := hidB hbel
      clear hfill hbel HD HL
      go_wp2
      exact HK.out _ _ _ ⟨rfl, rfl, by simp [slotsIn]⟩ (.inr ⟨_, Nat.le_refl _, rfl, HF.out⟩) HB.out

/-- Facts of package access are handed back. -/
def FaRes (f : Fa) (e : Ending) (w : World) : Prop := ∃ dv kv, e = .returned (.agg #[.bool f.known, .bool f.su, .bool f.dis, .int .i8 f.role, .string f.rt, dv, kv]) ∧ RowIs w.heap.size 2 32 WiAt w dv f.deps ∧ RowIs w.heap.size 6 64 (KbAt w.heap.size) w kv f.kbs

def zeroFa : Obj := .cells #[.bool false, .bool false, .bool false, .int .i8 0, .string ⟨#[]⟩, .slice none 0 0, .slice none 0 0] 36
theorem seven_cells {W : World} {b t : Nat} {v0 v1 v2 v3 v4 v5 v6 : Value} (h : W.heap[b]? = some (.cells #[v0, v1, v2, v3, v4, v5, v6] t)) :
    W.cell? ⟨b, 0, none⟩ = some v0 ∧ W.cell? ⟨b, 1, none⟩ = some v1 ∧ W.cell? ⟨b, 2, none⟩ = some v2 ∧ W.cell? ⟨b, 3, none⟩ = some v3 ∧ W.cell? ⟨b, 4, none⟩ = some v4 ∧ W.cell? ⟨b, 5, none⟩ = some v5 ∧ W.cell? ⟨b, 6, none⟩ = some v6 := ⟨cell_at h, cell_at h, cell_at h, cell_at h, cell_at h, cell_at h, cell_at h⟩
theorem seven_open {W : World} {b t : Nat} {v0 v1 v2 v3 v4 v5 v6 : Value} (h : W.heap[b]? = some (.cells #[v0, v1, v2, v3, v4, v5, v6] t)) :
    W.frozen? ⟨b, 0, none⟩ = false ∧ W.frozen? ⟨b, 1, none⟩ = false ∧ W.frozen? ⟨b, 2, none⟩ = false ∧ W.frozen? ⟨b, 3, none⟩ = false ∧ W.frozen? ⟨b, 4, none⟩ = false ∧ W.frozen? ⟨b, 5, none⟩ = false ∧ W.frozen? ⟨b, 6, none⟩ = false := ⟨frozen_at h, frozen_at h, frozen_at h, frozen_at h, frozen_at h, frozen_at h, frozen_at h⟩
def put7 (W : World) (b : Nat) (v0 v1 v2 v3 v4 v5 v6 : Value) : World := (put6 W b 0 v0 v1 v2 v3 v4 v5).setCell ⟨b, 6, none⟩ v6
theorem put7_at {W : World} {b : Nat} {v0 v1 v2 v3 v4 v5 v6 : Value} (h : W.heap[b]? = some zeroFa) : (put7 W b v0 v1 v2 v3 v4 v5 v6).heap[b]? = some (.cells #[v0, v1, v2, v3, v4, v5, v6] 36) := by
  unfold put7 put6
  rw [heap_setCell_at (o := 6) _ (heap_setCell_at (o := 0 + 5) _ (heap_setCell_at (o := 0 + 4) _ (heap_setCell_at (o := 0 + 3) _ (heap_setCell_at (o := 0 + 2) _ (heap_setCell_at (o := 0 + 1) _ (heap_setCell_at (o := 0) _ h))))))]
  rfl
theorem put7_other {W : World} {b k : Nat} {v0 v1 v2 v3 v4 v5 v6 : Value} (hk : k ≠ b) : (put7 W b v0 v1 v2 v3 v4 v5 v6).heap[k]? = W.heap[k]? := by
  unfold put7
  rw [Below.heap_setCell _ _ _ _ hk, put6_other hk]
theorem put7_size {W : World} {b : Nat} {v0 v1 v2 v3 v4 v5 v6 : Value} : (put7 W b v0 v1 v2 v3 v4 v5 v6).heap.size = W.heap.size := by simp [put7, put6_size]
theorem put7_below {W : World} {b B : Nat} {v0 v1 v2 v3 v4 v5 v6 : Value} (hb : B ≤ b) : Below B W (put7 W b v0 v1 v2 v3 v4 v5 v6) := (put6_below hb).setCell (p := ⟨b, 6, none⟩) hb _
theorem WiAt.heap {b o : Nat} {W W' : World} {x : Wi} (h : W'.heap[b]? = W.heap[b]?) (k : WiAt b o W x) : WiAt b o W' x := ⟨(World.cell?_of_block (w := W) (a := ⟨b, _, none⟩) h).trans k.1, (World.cell?_of_block (w := W) (a := ⟨b, _, none⟩) h).trans k.2⟩

theorem results14 {t : Array Value} {b : Nat} {W : World} {v0 v1 v2 v3 v4 v5 v6 : Value} (ht : t[14]? = some (.pointer (some ⟨b, 0, none⟩))) (h : W.heap[b]? = some (.cells #[v0, v1, v2, v3, v4, v5, v6] 36)) :
    (results Try.f14 t).run Try.prog W = .ok (.agg #[v0, v1, v2, v3, v4, v5, v6]) W := by
  obtain ⟨y0, y1, y2, y3, y4, y5, y6⟩ := seven_cells h
  simp [results, Try.results14, go_sem, ht, y0, y1, y2, y3, y4, y5, y6]

set_option maxRecDepth 100000 in
set_option maxHeartbeats 2000000 in
theorem facts_c (f : Fa) (dv kv : Value) (w : World) (hd : RowIs w.heap.size 2 0 WiAt w dv f.deps) (hk : RowIs w.heap.size 6 0 (ZkAt w.heap.size) w kv f.kbs) (hs : Small f.deps f.kbs) :
    Calls Try.prog 14 #[.bool f.known, .bool f.su, .bool f.dis, .int .i8 f.role, .string f.rt, dv, kv] w fun e w' => FaRes f e w' ∧ Below w.heap.size w w' := by
  refine calls_of_wp Try.func14 code14_parts ?_
  have hB0 : Below w.heap.size w (w.alloc zeroFa) := (Below.refl _ w).alloc (Nat.le_refl _) _
  have hz0 : (w.alloc zeroFa).heap[w.heap.size]? = some zeroFa := World.alloc_heap_new _ _
  have hsz0 : (w.alloc zeroFa).heap.size = w.heap.size + 1 := by simp
  have hd0 := hd
  have hk0 := hk
  have hR0 : ∀ (rest : Code) Q, (∀ a', Slots 72 (slotsIn (.bool f.known) (.bool f.su) (.bool f.dis) (.int .i8 f.role) (.string f.rt) dv kv (.pointer (some ⟨w.heap.size, 0, none⟩)) [(15, .slice none 0 0)]) [] a' → rest.wp Try.prog Q a' (w.alloc zeroFa)) →
      (Code.seq (seqL (Try.f14.body.getD .skip)) (.seq (seqL (seqR (Try.f14.body.getD .skip))) rest)).wp Try.prog Q { tmps := #[.bool f.known, .bool f.su, .bool f.dis, .int .i8 f.role, .string f.rt, dv, kv] ++ Array.replicate (Try.f14.ntmps - 7) undef, defers := [] } w := by
    intro rest Q hK
    have HK := hidB hK
    obtain ⟨da, dc, rfl, _⟩ := hd
    obtain ⟨ka, kc, rfl, _⟩ := hk
    simp only [Try.ntmps14, List.size_toArray, List.length_cons, List.length_nil, Nat.reduceAdd, Nat.reduceSub, Array.replicate_succ, Array.replicate_zero, List.push_toArray, List.append_toArray, List.nil_append, List.cons_append]
    dsimp only [seqL, seqR, Try.f14, Option.getD]
    clear hd0 hk0 hz0 hB0 hsz0 hs hK
    go_wp2
    exact HK.out _ ⟨rfl, rfl, by simp [slotsIn]⟩
  refine hR0 _ _ ?_
  clear hR0
  intro a1 ha1
  refine wp_seq (facts_partA f.deps (hd0.mono' (by omega) (fun _ _ _ hb' => WiAt.below hB0 hb')) hs.1 ha1 _ _ ?_)
  intro a2 W1 dv' ha2 hrow1 hfr1 hB1
  have hR8 : ∀ (rest : Code) Q, (∀ a', Slots 72 (slotsIn (.bool f.known) (.bool f.su) (.bool f.dis) (.int .i8 f.role) (.string f.rt) dv kv (.pointer (some ⟨w.heap.size, 0, none⟩)) [(15, dv'), (17, .slice none 0 0)]) [] a' → rest.wp Try.prog Q a' W1) →
      (Code.seq (seqL (seqR (seqR (seqR (Try.f14.body.getD .skip))))) rest).wp Try.prog Q a2 W1 := by
    intro rest Q hK
    have HK := hidB hK
    obtain ⟨fs, rfl⟩ := slotsFa ha2
    dsimp only [seqL, seqR, Try.f14, Option.getD]
    clear hd0 hk0 hz0 hB0 hsz0 hs hK hd hk hrow1 hfr1 hB1 ha1
    go_wp2
    exact HK.out _ ⟨rfl, rfl, by simp [slotsIn]⟩
  refine hR8 _ _ ?_
  clear hR8 ha2
  intro a3 ha3
  have hBw1 : Below w.heap.size w W1 := hB0.trans (hB1.mono (by omega))
  have hs1 : w.heap.size + 1 ≤ W1.heap.size := by have := hB1.size; omega
  refine wp_seq (facts_partB f.kbs (hk0.mono' (by omega) (fun _ _ _ hb' h => ZkAt.mono (by omega) hBw1 hb' h)) hs.2.1 hs.2.2 ha3 _ _ ?_)
  intro a4 W2 kv' ha4 hout hB2
  clear ha3 ha1
  have hz2 : W2.heap[w.heap.size]? = some zeroFa := (hB2.block _ (by omega)).trans ((hB1.block _ (by omega)).trans hz0)
  have hs2 : W1.heap.size ≤ W2.heap.size := hB2.size
  obtain ⟨z0, z1, z2, z3, z4, z5, z6⟩ := seven_cells hz2
  obtain ⟨o0, o1, o2, o3, o4, o5, o6⟩ := seven_open hz2
  have hfin : FaRes f (.returned (.agg #[.bool f.known, .bool f.su, .bool f.dis, .int .i8 f.role, .string f.rt, dv', kv'])) (put7 W2 w.heap.size (.bool f.known) (.bool f.su) (.bool f.dis) (.int .i8 f.role) (.string f.rt) dv' kv') := by
    refine ⟨dv', kv', rfl, ?_, ?_⟩
    · exact hrow1.own (by rw [put7_size]; exact hs2) hfr1 (fun b o x hb hlt hx => WiAt.heap ((put7_other (by omega)).trans (hB2.block b hlt)) hx)
    · exact (hout.turned (by rw [put7_size]; exact Nat.le_refl _) (fun k hk1 hk2 => put7_other (by omega))).row hs.2.1
  have hat := put7_at (v0 := .bool f.known) (v1 := .bool f.su) (v2 := .bool f.dis) (v3 := .int .i8 f.role) (v4 := .string f.rt) (v5 := dv') (v6 := kv') hz2
  have HF := hidB hfin
  have HB := hidB ((hBw1.trans (hB2.mono (by omega))).trans (put7_below (v0 := .bool f.known) (v1 := .bool f.su) (v2 := .bool f.dis) (v3 := .int .i8 f.role) (v4 := .string f.rt) (v5 := dv') (v6 := kv') (Nat.le_refl w.heap.size)))
  have hQ : ∀ a', Slots 72 (slotsIn (.bool f.known) (.bool f.su) (.bool f.dis) (.int .i8 f.role) (.string f.rt) dv kv (.pointer (some ⟨w.heap.size, 0, none⟩)) [(15, dv'), (17, kv')]) [] a' → bodyPost Try.prog Try.f14 (fun e w' => FaRes f e w' ∧ Below w.heap.size w w') .ret a' (put7 W2 w.heap.size (.bool f.known) (.bool f.su) (.bool f.dis) (.int .i8 f.role) (.string f.rt) dv' kv') :=
    fun a' ha' => ⟨ha'.1, _, results14 (ha'.2.2 (14, _) (by simp [slotsIn])) hat, HF.out, HB.out⟩
  have HQ := hidB hQ
  obtain ⟨da', dc', rfl, _⟩ := hrow1
  obtain ⟨ka', kc', rfl, _⟩ := hout.row hs.2.1
  clear hQ hfin hat hz2 hd0 hk0 hz0 hB0 hsz0 hs hd hk hfr1 hB1 hB2 hBw1 hout HF HB
  revert HQ
  generalize bodyPost Try.prog Try.f14 (fun e w' => FaRes f e w' ∧ Below w.heap.size w w') = QQ
  intro HQ
  obtain ⟨fs, rfl⟩ := slotsFb ha4
  dsimp only [facC, seqR, Try.f14, Option.getD]
  clear ha4
  go_wp2
  exact HQ.out _ ⟨rfl, rfl, by simp [slotsIn]⟩
end Go.Proofs.Qxb6613755a
