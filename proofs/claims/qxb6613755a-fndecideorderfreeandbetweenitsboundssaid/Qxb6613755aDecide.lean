/-
  Function 9, 'access.Decide': the greatest level of any source.
-/
import Derived.Test.Qxb6613755aSources
import Derived.Test.Qxb6613755aRange
namespace Go.Proofs.Qxb6613755a
open Go.RowKit Go.Shelf
attribute [local go_sem] Oper.semAt_some wide_depth wide_fn
set_option linter.unusedVariables false
set_option linter.unusedSimpArgs false

theorem slots12 {a : Act} {ds : List Deferred} {v3 v4 : Value} (h : Slots 12 [(3, v3), (4, v4)] ds a) : ∃ f : Nat → Value, a = { tmps := List.toArray (f 0 :: f 1 :: f 2 :: v3 :: v4 :: f 5 :: f 6 :: f 7 :: f 8 :: f 9 :: f 10 :: f 11 :: []), defers := ds } := by
  obtain ⟨rfl, hn, hv⟩ := h
  obtain ⟨f, hf⟩ : ∃ f : Nat → Value, f = fun i => a.tmps.getD i undef := ⟨_, rfl⟩
  have ht := tabF_of a.tmps f (fun i hi => by simp [hf, hi])
  have he : ∀ i v, a.tmps[i]? = some v → f i = v := fun i v h => by simp [hf, h]
  clear hf
  rw [hn] at ht
  have e3 := he 3 v3 (hv (3, v3) (by simp))
  have e4 := he 4 v4 (hv (4, v4) (by simp))
  refine ⟨f, ?_⟩
  simp only [tabF, Nat.reduceAdd, e3, e4] at ht
  obtain ⟨t, ds⟩ := a
  simp only at ht
  subst ht
  rfl

/-- The greatest level among v and the sources'. -/
def maxFrom (v : Int) (l : List Src) : Int := l.foldl (fun m s => max m s.lvl) v
def level (f : Fa) : Int := maxFrom 0 (srcs f)

set_option maxHeartbeats 400000 in
/-- 'f.sources()': one box, and the closure over it. -/
theorem sources_in (fb fo : Nat) (w : World) :
    CallsIn Fence.wide 0 Try.prog 26 #[.pointer (some ⟨fb, fo, none⟩)] w fun e w' => e = .returned (.func (.func 36) #[] #[.pointer (some ⟨w.heap.size, 0, none⟩)]) ∧ w' = w.alloc (.cells #[.pointer (some ⟨fb, fo, none⟩)] 61) := by
  refine callsIn_of_wp Try.func26 rfl trivial ?_ rfl
  simp only [Try.ntmps26, List.size_toArray, List.length_cons, List.length_nil, Nat.reduceAdd, Nat.reduceSub, Array.replicate_succ, Array.replicate_zero, List.push_toArray, List.append_toArray, List.nil_append, List.cons_append]
  gi_wp2
  go_ret
  exact ⟨rfl, rfl⟩

theorem RowIs.mono {α : Type} {n n' sz bytes : Nat} {At At' : Nat → Nat → World → α → Prop} {W W' : World} (hn : n ≤ n') (hAt : ∀ b o x, b < n → At b o W x → At' b o W' x) {sv : Value} {xs : List α} (h : RowIs n sz bytes At W sv xs) : RowIs n' sz bytes At' W' sv xs := by
  obtain ⟨a, cap, h1, h2, h3, h4⟩ := h
  refine ⟨a, cap, h1, h2, h3, fun j hj => ?_⟩
  obtain ⟨b, off, e, hb, hx⟩ := h4 j hj
  exact ⟨b, off, e, by omega, hAt _ _ _ hb hx⟩
theorem KbAt.mono {n n' b o : Nat} {W W' : World} {x : Kb} (hn : n ≤ n') (h : Below n W W') (hb : b < n) (k : KbAt n b o W x) : KbAt n' b o W' x := by
  obtain ⟨k1, k2, k3, k4, k5, sv, k6, k7⟩ := k.below h hb
  exact ⟨k1, k2, k3, k4, k5, sv, k6, k7.mono hn (fun _ _ _ _ h => h)⟩

/-- The blocks of the call's own that the loop turns. -/
def ownD (bl D : Nat) (k : Nat) : Prop := k = bl ∨ k = D ∨ k = D + 1
/-- What the loop holds between two rounds. -/
def decInv (bl : Nat) (T : Int) (r : List Src) (W : World) : Prop := ∃ v, W.heap[bl]? = some (.cells #[.int .i8 v] 24) ∧ maxFrom v r = T
/-- .. with the loop's book-keeping. -/
def decJ (bl D : Nat) (T : Int) (rdy : Obj) (G : Nat → Prop) (r : List Src) (W : World) : Prop :=
  G = ownD bl D ∧ decInv bl T r W ∧ W.heap[D + 1]? = some rdy ∧ W.heap[D]? = some (.deferred (some []))
theorem decJ_framed (bl D : Nat) (T : Int) (rdy : Obj) : Framed (decJ bl D T rdy) := by
  constructor
  · rintro G r W W' ⟨rfl, ⟨v, h1, h2⟩, h3, h4⟩ _ hk
    exact ⟨rfl, ⟨v, (hk bl (.inl rfl)).trans h1, h2⟩, (hk _ (.inr (.inr rfl))).trans h3, (hk _ (.inr (.inl rfl))).trans h4⟩
  · rintro G r W k ⟨rfl, ⟨v, h1, h2⟩, h3, h4⟩ (rfl | rfl | rfl)
    · exact (Array.getElem?_eq_some_iff.1 h1).1
    · exact (Array.getElem?_eq_some_iff.1 h4).1
    · exact (Array.getElem?_eq_some_iff.1 h3).1

set_option maxHeartbeats 2000000 in
theorem decide_in (f : Fa) (dv kv : Value) (w : World) (hd : RowIs w.heap.size 2 32 WiAt w dv f.deps) (hk : RowIs w.heap.size 6 64 (KbAt w.heap.size) w kv f.kbs) :
    CallsIn Fence.wide 0 Try.prog 9 #[.agg #[.bool f.known, .bool f.su, .bool f.dis, .int .i8 f.role, .string f.rt, dv, kv]] w fun e w' => e = .returned (.int .i8 (level f)) ∧ Below w.heap.size w w' := by
  have hd0 := hd; obtain ⟨da, dcap, rfl, _⟩ := hd0
  have hk0 := hk; obtain ⟨ka, kcap, rfl, _⟩ := hk0
  refine callsIn_of_wp_marks Try.func9 rfl trivial ?_ rfl
  simp only [Try.ntmps9, List.size_toArray, List.length_cons, List.length_nil, Nat.reduceAdd, Nat.reduceSub, Array.replicate_succ, Array.replicate_zero, List.push_toArray, List.append_toArray, List.nil_append, List.cons_append]
  gi_wp2_with (gi_at_call 26; refine (sources_in _ _ _).mono ?_; rintro e w' ⟨rfl, rfl⟩)
  have hf0 : FaAt (w.heap.size + 1) w.heap.size 0 (((w.alloc (.cells #[.bool f.known, .bool f.su, .bool f.dis, .int .i8 f.role, .string f.rt, .slice da f.deps.length dcap, .slice ka f.kbs.length kcap] 36)).alloc (.cells #[.int .i8 0] 24)).alloc (.cells #[.pointer (some ⟨w.heap.size, 0, none⟩)] 61)) f := by
    have hb : Below w.heap.size w (((w.alloc (.cells #[.bool f.known, .bool f.su, .bool f.dis, .int .i8 f.role, .string f.rt, .slice da f.deps.length dcap, .slice ka f.kbs.length kcap] 36)).alloc (.cells #[.int .i8 0] 24)).alloc (.cells #[.pointer (some ⟨w.heap.size, 0, none⟩)] 61)) :=
      (((Below.refl _ w).alloc (Nat.le_refl _) _).alloc (by simp) _).alloc (by simp; omega) _
    have hx : (((w.alloc (.cells #[.bool f.known, .bool f.su, .bool f.dis, .int .i8 f.role, .string f.rt, .slice da f.deps.length dcap, .slice ka f.kbs.length kcap] 36)).alloc (.cells #[.int .i8 0] 24)).alloc (.cells #[.pointer (some ⟨w.heap.size, 0, none⟩)] 61)).heap[w.heap.size]? =
        some (.cells #[.bool f.known, .bool f.su, .bool f.dis, .int .i8 f.role, .string f.rt, .slice da f.deps.length dcap, .slice ka f.kbs.length kcap] 36) :=
      (Below.heap_alloc _ _ _ (by simp; omega)).trans ((Below.heap_alloc _ _ _ (by simp)).trans (World.alloc_heap_new w _))
    exact ⟨by omega, cell_at hx, cell_at hx, cell_at hx, cell_at hx, cell_at hx, ⟨_, cell_at hx, hd.mono (by omega) (fun _ _ _ hb' => WiAt.below hb hb')⟩, _, cell_at hx, hk.mono (by omega) (fun _ _ _ hb' => KbAt.mono (by omega) hb hb')⟩
  have hbox : (((w.alloc (.cells #[.bool f.known, .bool f.su, .bool f.dis, .int .i8 f.role, .string f.rt, .slice da f.deps.length dcap, .slice ka f.kbs.length kcap] 36)).alloc (.cells #[.int .i8 0] 24)).alloc (.cells #[.pointer (some ⟨w.heap.size, 0, none⟩)] 61)).heap[w.heap.size + 2]? = some (.cells #[.pointer (some ⟨w.heap.size, 0, none⟩)] 61) := by
    have := World.alloc_heap_new ((w.alloc (.cells #[.bool f.known, .bool f.su, .bool f.dis, .int .i8 f.role, .string f.rt, .slice da f.deps.length dcap, .slice ka f.kbs.length kcap] 36)).alloc (.cells #[.int .i8 0] 24)) (.cells #[.pointer (some ⟨w.heap.size, 0, none⟩)] 61)
    simpa using this
  have hlev : (((w.alloc (.cells #[.bool f.known, .bool f.su, .bool f.dis, .int .i8 f.role, .string f.rt, .slice da f.deps.length dcap, .slice ka f.kbs.length kcap] 36)).alloc (.cells #[.int .i8 0] 24)).alloc (.cells #[.pointer (some ⟨w.heap.size, 0, none⟩)] 61)).heap[w.heap.size + 1]? = some (.cells #[.int .i8 0] 24) := by
    refine (Below.heap_alloc _ _ _ (by simp)).trans ?_
    have := World.alloc_heap_new (w.alloc (.cells #[.bool f.known, .bool f.su, .bool f.dis, .int .i8 f.role, .string f.rt, .slice da f.deps.length dcap, .slice ka f.kbs.length kcap] 36)) (.cells #[.int .i8 0] 24)
    simpa using this
  have hB0 : Below w.heap.size w (((w.alloc (.cells #[.bool f.known, .bool f.su, .bool f.dis, .int .i8 f.role, .string f.rt, .slice da f.deps.length dcap, .slice ka f.kbs.length kcap] 36)).alloc (.cells #[.int .i8 0] 24)).alloc (.cells #[.pointer (some ⟨w.heap.size, 0, none⟩)] 61)) :=
    (((Below.refl _ w).alloc (Nat.le_refl _) _).alloc (by simp) _).alloc (by simp; omega) _
  have hsz : (((w.alloc (.cells #[.bool f.known, .bool f.su, .bool f.dis, .int .i8 f.role, .string f.rt, .slice da f.deps.length dcap, .slice ka f.kbs.length kcap] 36)).alloc (.cells #[.int .i8 0] 24)).alloc (.cells #[.pointer (some ⟨w.heap.size, 0, none⟩)] 61)).heap.size = w.heap.size + 3 := by simp
  revert hf0 hbox hlev hB0 hsz
  generalize ((w.alloc (.cells #[.bool f.known, .bool f.su, .bool f.dis, .int .i8 f.role, .string f.rt, .slice da f.deps.length dcap, .slice ka f.kbs.length kcap] 36)).alloc (.cells #[.int .i8 0] 24)).alloc (.cells #[.pointer (some ⟨w.heap.size, 0, none⟩)] 61) = W2
  intro hf0 hbox hlev hB0 hsz
  clear hd hk
  obtain ⟨N, hN⟩ : ∃ N, N = w.heap.size := ⟨_, rfl⟩
  rw [← hN] at hf0 hbox hlev hB0 hsz ⊢
  have hs1 : N + 3 ≤ W2.heap.size := by omega
  have hs2 : W2.heap.size ≤ N + 3 := by omega
  clear hsz
  have hN1 : N ≤ w.heap.size := by omega
  have hN2 : w.heap.size ≤ N := by omega
  have HN : Hid (N = w.heap.size) := hN
  clear hN
  refine range_kept (gf := 36) (lb := #[.pointer (some ⟨N + 1 + 1, 0, none⟩)]) rfl (enters_of Try.func36 (by kernel_rfl) rfl) (fun x : Src => #[Value.agg x.cells]) (fun _ => rfl) (srcs f)
    (decInv (N + 1) (level f)) (fun _ _ _ => False)
    (fun x a' W => ∃ bs, W2.heap.size + 1 < bs ∧ W.heap[bs]? = some (.cells x.cells 74) ∧ Slots 12 [(3, .pointer (some ⟨N + 1, 0, none⟩)), (4, .pointer (some ⟨bs, 0, none⟩))] [] a')
    (Fr (ownD (N + 1) W2.heap.size)) (fun A B C h k => h.trans k (fun j hj => .inl hj)) (fun W o k hk => Fr.of_grownBy (grownBy_putObj' W k o) (fun j e => by cases e; exact .inl (.inr hk)))
    (fun r W o k hk ⟨v, hv, hT⟩ => ⟨v, (World.putObj_heap_other (by omega)).trans hv, hT⟩) (fun _ _ _ _ _ _ h => h) ?hAx ?h0 ?iter ?assign ?body ?done ?stop
  case hAx =>
    rintro x a' _ W o k hk ⟨bs, h1, h2, h3⟩
    exact ⟨bs, h1, (World.putObj_heap_other (by omega)).trans h2, h3⟩
  case h0 =>
    intro o
    exact ⟨0, (Below.heap_alloc _ _ _ (by simp; omega)).trans ((Below.heap_alloc _ _ _ (by omega)).trans hlev), rfl⟩
  case iter =>
    intro rdy dn hY W o hWo hi hl hd
    have hFr : Fr (ownD (N + 1) W2.heap.size) W2 W := by
      rw [hWo]
      exact ((Fr.of_grownBy (G := ownD (N + 1) W2.heap.size) (World.grownBy_alloc W2 _ none) (fun _ e => by cases e)).trans (Fr.of_grownBy (G := ownD (N + 1) W2.heap.size) (World.grownBy_alloc _ _ none) (fun _ e => by cases e)) (fun j hj => .inl hj))
    have hR : Reads (N + 1) (N + 2) N 0 f W (ownD (N + 1) W2.heap.size) :=
      ⟨by have := hFr.size; omega, fun k hk => by rcases hk with rfl | rfl | rfl <;> omega, hf0.below (hFr.below (fun k hk => by rcases hk with rfl | rfl | rfl <;> omega) (by omega)), (hFr.block (N + 2) (by omega) (fun hk => by rcases hk with h | h | h <;> omega)).trans hbox, fun hk => by rcases hk with h | h | h <;> omega⟩
    refine (sources1_in (J := decJ (N + 1) W2.heap.size (level f) rdy) (Jx := fun _ _ _ => False) (decJ_framed _ _ _ _) ⟨fun _ _ _ _ h _ _ => h, fun _ _ _ _ h _ => h.elim⟩ (l := W2.heap.size + 1) ?_ hR ⟨rfl, hi, hl, hd⟩).mono ?_
    · rintro G s r W' ⟨rfl, hi', hl', hd'⟩
      refine .inr ⟨_, rfl, (hY s r W' hi' hl' hd').mono ?_⟩
      rintro e W'' (⟨rfl, h1, h2, h3, h4⟩ | ⟨_, c, h, _⟩)
      · exact ⟨_, fun k hk => .inl hk, h4, .inl ⟨rfl, rfl, h1, h2, h3⟩⟩
      · exact h.elim
    · rintro e W' ⟨hv, hs | ⟨r', hs⟩⟩
      · obtain ⟨G, ⟨rfl, h1, h2, h3⟩, _, hF, _⟩ := hs
        exact ⟨hv, .inl ⟨h1, h2, h3, hF⟩⟩
      · obtain ⟨G, h, _⟩ := hs
        exact h.elim
  case assign =>
    intro x r W K hi hlt hK
    obtain ⟨v, hv, hT⟩ := hi
    have e1 : ∀ o, (W.alloc o).heap[W2.heap.size]? = W.heap[W2.heap.size]? := fun o => Below.heap_alloc _ _ _ (by omega)
    have e2 : ∀ o, (W.alloc o).heap[W2.heap.size + 1]? = W.heap[W2.heap.size + 1]? := fun o => Below.heap_alloc _ _ _ (by omega)
    have e3 : ∀ o, (W.alloc o).heap[N + 1]? = some (.cells #[.int .i8 v] 24) := fun o => (Below.heap_alloc _ _ _ (by omega)).trans hv
    have hfin : ∀ a', Slots 12 [(3, .pointer (some ⟨N + 1, 0, none⟩)), (4, .pointer (some ⟨W.heap.size, 0, none⟩))] [] a' → K a' (W.alloc (.cells x.cells 74)) := fun a' ha' =>
      hK a' _ (e1 _) (e2 _) ⟨v, e3 _, hT⟩ ⟨W.heap.size, hlt, World.alloc_heap_new _ _, ha'⟩ (Fr.of_grownBy (World.grownBy_alloc _ _ none) (fun _ e => by cases e))
    dsimp only [Src.cells] at hfin ⊢
    clear hK e1 e2 e3 hT hv hf0 hbox hlev hB0
    gi_wp2
    exact ⟨rfl, rfl, by simp⟩
  case body =>
    rintro x r a' W ⟨v, hv, hT⟩ hlt ⟨bs, hbs, hbc, ha'⟩
    obtain ⟨u, rfl⟩ := slots12 ha'
    dsimp only [Src.cells] at hbc
    have c0 : W.cell? ⟨N + 1, 0, none⟩ = some (.int .i8 v) := cell_at hv
    have c1 : W.frozen? ⟨N + 1, 0, none⟩ = false := frozen_at hv
    have c2 : W.cell? ⟨bs, 1, none⟩ = some (.int .i8 x.lvl) := cell_at hbc
    have hfin : ∀ m, m = max v x.lvl → (W.setCell ⟨N + 1, 0, none⟩ (.int .i8 m)).heap[W2.heap.size]? = W.heap[W2.heap.size]? ∧ (W.setCell ⟨N + 1, 0, none⟩ (.int .i8 m)).heap[W2.heap.size + 1]? = W.heap[W2.heap.size + 1]? ∧
        Fr (ownD (N + 1) W2.heap.size) W (W.setCell ⟨N + 1, 0, none⟩ (.int .i8 m)) ∧ decInv (N + 1) (level f) r (W.setCell ⟨N + 1, 0, none⟩ (.int .i8 m)) := fun m hm => by
      subst hm
      exact ⟨Below.heap_setCell _ _ _ _ (by simp; omega), Below.heap_setCell _ _ _ _ (by simp; omega), Fr.of_grownBy (grownBy_setCell W ⟨N + 1, 0, none⟩ _) (fun j e => by cases e; exact .inl (.inl rfl)), _, heap_setCell_at (o := 0) _ hv, hT⟩
    have HF : Hid _ := hfin
    clear hf0 hbox hlev hB0 hT hv hbc hfin
    by_cases hle : x.lvl ≤ v
    · gi_wp2
      all_goals exact HF.out _ (by omega)
    · gi_wp2
      all_goals exact HF.out _ (by omega)
  case done =>
    rintro o W hF ⟨v, hv, hT⟩ hd
    have hv' : v = level f := hT
    subst hv'
    have c0 : W.cell? ⟨N + 1, 0, none⟩ = some (.int .i8 (level f)) := cell_at hv
    have hbel : Below w.heap.size w (W.putObj W2.heap.size (.deferred none)) := by
      have h1 : Below w.heap.size w ((W2.alloc (.deferred (some []))).alloc o) := ((HN.out ▸ hB0).alloc (by omega) _).alloc (by simp; omega) _
      have h2 := h1.trans (hF.below (n := w.heap.size) (fun k hk => by rcases hk with rfl | rfl | rfl <;> omega) (by simp; omega))
      exact h2.grown (grownBy_putObj' W W2.heap.size _) (by have := hF.size; simp at this; omega) (fun k e => by cases e; omega)
    clear hf0 hbox hlev hB0 hF hv
    gi_wp2
    refine ⟨by simp, .inl ⟨_, _, rfl, run_takeDeferred hd, ?_⟩⟩
    exact ⟨_, results_tmp rfl _ _ _, rfl, hbel⟩
  case stop => intro _ _ _ h; exact h.elim
end Go.Proofs.Qxb6613755a
