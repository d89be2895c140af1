/-
  Functions 32, 34, 21, 23: 'ZZkbSourcesAll' and 'ZZkbSourcesFirst' with their closures: the sources that kbSources hands on are kept in a slice.
-/
import Derived.Test.Qxb6613755aMade
import Derived.Test.Qxb6613755aKb
import Derived.Deep.AppendLies
namespace Go.Proofs.Qxb6613755a
open Go.RowKit Go.Shelf
set_option linter.unusedVariables false
set_option linter.unusedSimpArgs false

theorem Try.info74 : (Try.prog.info? 74).map (fun i => (i.zero, i.size, i.bytes)) = some (some (.agg #[.int .i8 0, .int .i8 0, .int .i8 0, .string ⟨#[]⟩, .int .i8 0, .string ⟨#[]⟩, .int .i8 0, .string ⟨#[]⟩, .string ⟨#[]⟩]), 9, 88) := by kernel_rfl

def srcCells (l : List Src) : List Value := l.flatMap fun s => s.cells.toList
theorem srcCells_append (l k : List Src) : srcCells (l ++ k) = srcCells l ++ srcCells k := by simp [srcCells]
theorem srcCells_length (l : List Src) : (srcCells l).length = l.length * 9 := by
  induction l with
  | nil => rfl
  | cons s l ih =>
    have : srcCells (s :: l) = s.cells.toList ++ srcCells l := by simp [srcCells]
    rw [this, List.length_append, ih]
    simp [Src.cells]; omega

/-- What the yielder has kept: 'done', in the slice that the box bo holds. -/
def colJ (n bo : Nat) (L : List Src) (p : List Src → Prop) (G : Nat → Prop) (r : List Src) (W : World) : Prop :=
  ∃ done v, done ++ r = L ∧ p done ∧ n ≤ bo ∧ W.heap[bo]? = some (.cells #[v] 58) ∧ W.ownsRow n 74 9 v done.length (srcCells done) ∧ G = fun k => k = bo ∨ v.ownBlock = some k

theorem colJ_framed (n bo : Nat) (L : List Src) (p : List Src → Prop) : Framed (colJ n bo L p) := by
  constructor
  · rintro G r W W' ⟨done, v, h1, hp, h2, h3, h4, rfl⟩ hs hk
    refine ⟨done, v, h1, hp, h2, (hk bo (.inl rfl)).trans h3, ⟨h4.1, ?_⟩, rfl⟩
    rcases h4.2 with h | ⟨g, cap, cur, rfl, hb, hg, h5⟩
    · exact .inl h
    · exact .inr ⟨g, cap, cur, rfl, hb, (hk g (.inr rfl)).trans hg, h5⟩
  · rintro G r W k ⟨done, v, h1, hp, h2, h3, h4, rfl⟩ (rfl | hk)
    · exact (Array.getElem?_eq_some_iff.1 h3).1
    · exact (h4.lt k hk).2
theorem colJ_low {n bo : Nat} {L : List Src} {p : List Src → Prop} {G : Nat → Prop} {r : List Src} {W : World} (h : colJ n bo L p G r W) (k : Nat) (hk : G k) : n ≤ k := by
  obtain ⟨done, v, h1, hp, h2, h3, h4, rfl⟩ := h
  rcases hk with rfl | hk
  · exact h2
  · exact (h4.lt k hk).1

/-- The box is not the slice's block. -/
theorem colJ_apart {n bo : Nat} {done : List Src} {v : Value} {W : World} (hb : W.heap[bo]? = some (.cells #[v] 58)) (hv : W.ownsRow n 74 9 v done.length (srcCells done)) : v.ownBlock ≠ some bo := by
  intro e
  rcases hv.2 with ⟨rfl, _⟩ | ⟨g', cap', cur, rfl, _, hg', _⟩
  · simp [Value.ownBlock] at e
  · simp [Value.ownBlock] at e; subst e; rw [hb] at hg'; simp at hg'
theorem colJ_box {n bo : Nat} {done : List Src} {v : Value} {W W1 : World} {o1 o2 : Obj} (hb : W.heap[bo]? = some (.cells #[v] 58)) (hv : W.ownsRow n 74 9 v done.length (srcCells done))
    (hg : ((W.alloc o1).alloc o2).grownBy W1 v.ownBlock) : W1.heap[bo]? = some (.cells #[v] 58) := by
  have hlt : bo < W.heap.size := (Array.getElem?_eq_some_iff.1 hb).1
  refine (hg.block bo (by simp; omega) (fun e => colJ_apart hb hv e.symm)).trans ?_
  exact (Below.heap_alloc _ _ _ (by simp; omega)).trans ((Below.heap_alloc _ _ _ (by omega)).trans hb)

/-- One more source is kept. -/
theorem colJ_step {n bo : Nat} {L : List Src} {q : List Src → Prop} {s : Src} {r done : List Src} {v : Value} {W W1 : World} {g cap : Nat} {o1 o2 : Obj}
    (hr : done ++ s :: r = L) (hq : q (done ++ [s])) (hn : n ≤ bo) (hb : W.heap[bo]? = some (.cells #[v] 58)) (hv : W.ownsRow n 74 9 v done.length (srcCells done))
    (hown : W1.ownsRow n 74 9 (.slice (some ⟨g, 0, none⟩) (done.length + 1) cap) (done.length + 1) (srcCells done ++ s.cells.toList))
    (hg : ((W.alloc o1).alloc o2).grownBy W1 v.ownBlock) (hat : v.ownBlock = some g ∨ g = W.heap.size + 2) :
    ∃ G', (∀ k, G' k → (k = bo ∨ v.ownBlock = some k) ∨ W.heap.size ≤ k) ∧ Fr (fun k => k = bo ∨ v.ownBlock = some k) W (W1.setCell ⟨bo, 0, none⟩ (.slice (some ⟨g, 0, none⟩) (done.length + 1) cap)) ∧
      colJ n bo L q G' r (W1.setCell ⟨bo, 0, none⟩ (.slice (some ⟨g, 0, none⟩) (done.length + 1) cap)) := by
  have hlt : bo < W.heap.size := (Array.getElem?_eq_some_iff.1 hb).1
  have hvb : v.ownBlock ≠ some bo := colJ_apart hb hv
  have hgb : g ≠ bo := by
    rintro rfl
    rcases hat with h | h
    · exact hvb h
    · omega
  have hbo1 : W1.heap[bo]? = some (.cells #[v] 58) := colJ_box hb hv hg
  have hset := heap_setCell_at (o := 0) (.slice (some ⟨g, 0, none⟩) (done.length + 1) cap) hbo1
  refine ⟨fun k => k = bo ∨ (Value.slice (some ⟨g, 0, none⟩) (done.length + 1) cap).ownBlock = some k, ?_, ?_, ?_⟩
  · rintro k (rfl | hk)
    · exact .inl (.inl rfl)
    · simp [Value.ownBlock] at hk
      subst hk
      rcases hat with h | h
      · exact .inl (.inr h)
      · exact .inr (by omega)
  · have f1 : Fr (fun k => k = bo ∨ v.ownBlock = some k) W ((W.alloc o1).alloc o2) :=
      (Fr.of_grownBy (World.grownBy_alloc W o1 none) (fun _ e => by cases e)).trans (Fr.of_grownBy (G := fun _ => False) (World.grownBy_alloc _ o2 none) (fun _ e => by cases e)) (fun _ h => h.elim)
    have f2 := f1.trans (Fr.of_grownBy (G := fun k => v.ownBlock = some k) hg (fun k e => .inl e)) (fun k h => .inl (.inr h))
    exact f2.trans (Fr.of_grownBy (G := fun k => k = bo) (grownBy_setCell W1 ⟨bo, 0, none⟩ _) (fun k e => by cases e; exact .inl rfl)) (fun k h => .inl (.inl h))
  · refine ⟨done ++ [s], _, by simp [hr], hq, hn, hset, ?_, rfl⟩
    have e1 : (done ++ [s]).length = done.length + 1 := by simp
    have e2 : srcCells (done ++ [s]) = srcCells done ++ s.cells.toList := by rw [srcCells_append]; simp [srcCells]
    rw [e1, e2]
    refine hown.kept (grownBy_setCell W1 ⟨bo, 0, none⟩ _) (.inr ?_)
    simp [Value.ownBlock, hgb]

theorem ownsRow_form {W : World} {base e size n : Nat} {v : Value} {xs : List Value} (h : W.ownsRow base e size v n xs) : ∃ a cap, v = .slice a n cap := by
  rcases h.2 with ⟨rfl, rfl⟩ | ⟨g, cap, cur, rfl, _⟩
  · exact ⟨_, _, rfl⟩
  · exact ⟨_, _, rfl⟩

theorem src_one (s : Src) : ∀ u ∈ s.cells.toList, u.oneCell' = true := by
  intro u hu
  simp [Src.cells] at hu
  rcases hu with rfl | rfl | rfl | rfl | rfl | rfl | rfl | rfl | rfl <;> rfl

set_option maxRecDepth 100000 in
set_option maxHeartbeats 2000000 in
/-- 'ZZkbSourcesAll$1'. -/
theorem all1 (n bo : Nat) (L : List Src) (hL : L.length ≤ 33554432) (G : Nat → Prop) (s : Src) (r : List Src) (W : World) (h : colJ n bo L (fun _ => True) G (s :: r) W) :
    Calls Try.prog 32 #[.agg s.cells, .pointer (some ⟨bo, 0, none⟩)] W (YPost (colJ n bo L (fun _ => True)) (fun _ _ _ => False) G W r) := by
  obtain ⟨done, v, hr, _, hn, hb, hv, rfl⟩ := h
  have hlt : bo < W.heap.size := (Array.getElem?_eq_some_iff.1 hb).1
  have hdl : done.length + 1 ≤ 33554432 := by rw [← hr] at hL; simp at hL; omega
  obtain ⟨i74, hi, hz0, hz1, hz2⟩ := info_parts Try.info74
  have hfin := fun W1 g cap => colJ_step (W1 := W1) (q := fun _ => True) (g := g) (cap := cap) (o1 := .cells s.cells 74) (o2 := .cells s.cells 74) hr trivial hn hb hv
  have hbox := fun W1 => colJ_box (W1 := W1) (o1 := .cells s.cells 74) (o2 := .cells s.cells 74) hb hv
  have hv0 := hv
  obtain ⟨va, vc, rfl⟩ := ownsRow_form hv
  have c0 : (W.alloc (.cells s.cells 74)).cell? ⟨bo, 0, none⟩ = some (.slice va done.length vc) := cell_at ((Below.heap_alloc _ _ _ (by omega)).trans hb)
  have hown := (hv.alloc (.cells s.cells 74)).alloc (.cells s.cells 74)
  have hnew : ∀ j u, s.cells.toList[j]? = some u → ((W.alloc (.cells s.cells 74)).alloc (.cells s.cells 74)).cell? ((⟨W.heap.size + 1, 0, none⟩ : Addr).add j) = some u :=
    World.news_of_block (t := 74) (fr := (0, 0)) (by have := World.alloc_heap_new (W.alloc (.cells s.cells 74)) (.cells s.cells 74); simpa using this)
  have hne := src_one s
  have HF := hidB hfin
  have HX := hidB hbox
  have HO := hidB hown
  have HN := hidB hnew
  have HE := hidB hne
  clear hfin hown hnew hne hv0 hv hr hL hb hbox
  dsimp only [Src.cells] at HF HO HN HE HX c0 ⊢
  go_enter Try.func32, Try.ntmps32
  go_wp2_with (at_builtin; refine wpList_append_lies _ rfl _ _ 58 rfl n 74 i74 _ 9 88 Try.underlying58 hi hz0 hz1 hz2 rfl (by decide) (.slice va done.length vc) done.length (srcCells done) rfl HO.out ⟨W.heap.size + 1, 0, none⟩ 1 1 _ rfl rfl HN.out HE.out (by omega) (by simp only [maxLen]; omega) (by omega) (by simp; omega) (W.heap.size + 2) (by simp) ?_; intro g cap w1 how hgr hat hgl; have HR := hidB (HF.out w1 g cap how hgr hat); have cb : w1.cell? ⟨bo, 0, none⟩ = some (.slice va done.length vc) := cell_at (HX.out w1 hgr); have cf : w1.frozen? ⟨bo, 0, none⟩ = false := frozen_at (HX.out w1 hgr); clear how hgr hat)
  go_ret
  obtain ⟨G', k1, k2, k3⟩ := HR.out
  exact ⟨G', k1, k2, .inl ⟨rfl, k3⟩⟩

/-- .. beside a box bn that holds the number of those that are asked for. -/
def firJ (n bo bn : Nat) (nn : Int) (L : List Src) (p : List Src → Prop) (G : Nat → Prop) (r : List Src) (W : World) : Prop :=
  ∃ G0, colJ n bo L p G0 r W ∧ n ≤ bn ∧ bn ≠ bo ∧ W.heap[bn]? = some (.cells #[.int .i64 nn] 3) ∧ G = fun k => G0 k ∨ k = bn
theorem firJ_framed (n bo bn : Nat) (nn : Int) (L : List Src) (p : List Src → Prop) : Framed (firJ n bo bn nn L p) := by
  constructor
  · rintro G r W W' ⟨G0, h1, h2, h2', h3, rfl⟩ hs hk
    exact ⟨G0, (colJ_framed n bo L p).1 G0 r W W' h1 hs (fun k h => hk k (.inl h)), h2, h2', (hk bn (.inr rfl)).trans h3, rfl⟩
  · rintro G r W k ⟨G0, h1, h2, h2', h3, rfl⟩ (hk | rfl)
    · exact (colJ_framed n bo L p).2 G0 r W k h1 hk
    · exact (Array.getElem?_eq_some_iff.1 h3).1
theorem firJ_low {n bo bn : Nat} {nn : Int} {L : List Src} {p : List Src → Prop} {G : Nat → Prop} {r : List Src} {W : World} (h : firJ n bo bn nn L p G r W) (k : Nat) (hk : G k) : n ≤ k := by
  obtain ⟨G0, h1, h2, h2', h3, rfl⟩ := h
  rcases hk with hk | rfl
  · exact colJ_low h1 k hk
  · exact h2
def fewer (nn : Int) (done : List Src) : Prop := done = [] ∨ (done.length : Int) < nn
def enough (nn : Int) (done : List Src) : Prop := (done.length : Int) = max nn 1

set_option maxRecDepth 100000 in
set_option maxHeartbeats 2000000 in
/-- 'ZZkbSourcesFirst$1'. -/
theorem first1 (n bo bn : Nat) (nn : Int) (L : List Src) (hL : L.length ≤ 33554432) (G : Nat → Prop) (s : Src) (r : List Src) (W : World) (h : firJ n bo bn nn L (fewer nn) G (s :: r) W) :
    Calls Try.prog 34 #[.agg s.cells, .pointer (some ⟨bo, 0, none⟩), .pointer (some ⟨bn, 0, none⟩)] W (YPost (firJ n bo bn nn L (fewer nn)) (firJ n bo bn nn L (enough nn)) G W r) := by
  obtain ⟨G0, ⟨done, v, hr, hp, hn, hb, hv, rfl⟩, hbn1, hbn2, hbn3, rfl⟩ := h
  have hlt : bo < W.heap.size := (Array.getElem?_eq_some_iff.1 hb).1
  have hltn : bn < W.heap.size := (Array.getElem?_eq_some_iff.1 hbn3).1
  have hdl : done.length + 1 ≤ 33554432 := by rw [← hr] at hL; simp at hL; omega
  obtain ⟨i74, hi, hz0, hz1, hz2⟩ := info_parts Try.info74
  have hvn : v.ownBlock ≠ some bn := by
    intro e
    rcases hv.2 with ⟨rfl, _⟩ | ⟨g', cap', cur, rfl, _, hg', _⟩
    · simp [Value.ownBlock] at e
    · simp [Value.ownBlock] at e; subst e; rw [hbn3] at hg'; simp at hg'
  have hfin : ∀ W1 g cap, W1.ownsRow n 74 9 (.slice (some ⟨g, 0, none⟩) (done.length + 1) cap) (done.length + 1) (srcCells done ++ s.cells.toList) →
      ((W.alloc (.cells s.cells 74)).alloc (.cells s.cells 74)).grownBy W1 v.ownBlock → (v.ownBlock = some g ∨ g = W.heap.size + 2) →
      YPost (firJ n bo bn nn L (fewer nn)) (firJ n bo bn nn L (enough nn)) (fun k => (k = bo ∨ v.ownBlock = some k) ∨ k = bn) W r (.returned (.bool (decide ((done.length : Int) + 1 < nn)))) (W1.setCell ⟨bo, 0, none⟩ (.slice (some ⟨g, 0, none⟩) (done.length + 1) cap)) := by
    intro W1 g cap k1 k2 k3
    have hgo : ∀ q : List Src → Prop, q (done ++ [s]) → ∃ G', (∀ k, G' k → ((k = bo ∨ v.ownBlock = some k) ∨ k = bn) ∨ W.heap.size ≤ k) ∧ Fr (fun k => (k = bo ∨ v.ownBlock = some k) ∨ k = bn) W (W1.setCell ⟨bo, 0, none⟩ (.slice (some ⟨g, 0, none⟩) (done.length + 1) cap)) ∧
        firJ n bo bn nn L q G' r (W1.setCell ⟨bo, 0, none⟩ (.slice (some ⟨g, 0, none⟩) (done.length + 1) cap)) := by
      intro q hq
      obtain ⟨G', m1, m2, m3⟩ := colJ_step (q := q) hr hq hn hb hv k1 k2 k3
      refine ⟨fun k => G' k ∨ k = bn, ?_, m2.mono (fun k h => .inl h), G', m3, hbn1, hbn2, (m2.block bn hltn ?_).trans hbn3, rfl⟩
      · rintro k (hk | rfl)
        · exact (m1 k hk).elim (fun h => .inl (.inl h)) .inr
        · exact .inl (.inr rfl)
      · rintro (h | h)
        · exact hbn2 h
        · exact hvn h
    have hle : (done ++ [s]).length = done.length + 1 := by simp
    by_cases hc : (done.length : Int) + 1 < nn
    · obtain ⟨G', m1, m2, m3⟩ := hgo (fewer nn) (.inr (by rw [hle]; omega))
      exact ⟨G', m1, m2, .inl ⟨by simp [hc], m3⟩⟩
    · obtain ⟨G', m1, m2, m3⟩ := hgo (enough nn) (by
        unfold enough
        rw [hle]
        rcases hp with rfl | hp
        · simp at hc ⊢; omega
        · omega)
      exact ⟨G', m1, m2, .inr ⟨by simp [hc], r, m3⟩⟩
  have hbox := fun W1 => colJ_box (W1 := W1) (o1 := .cells s.cells 74) (o2 := .cells s.cells 74) hb hv
  have hboxn : ∀ W1, ((W.alloc (.cells s.cells 74)).alloc (.cells s.cells 74)).grownBy W1 v.ownBlock → W1.heap[bn]? = some (.cells #[.int .i64 nn] 3) := fun W1 hg =>
    (hg.block bn (by simp; omega) (fun e => hvn e.symm)).trans ((Below.heap_alloc _ _ _ (by simp; omega)).trans ((Below.heap_alloc _ _ _ (by omega)).trans hbn3))
  obtain ⟨va, vc, rfl⟩ := ownsRow_form hv
  have c0 : (W.alloc (.cells s.cells 74)).cell? ⟨bo, 0, none⟩ = some (.slice va done.length vc) := cell_at ((Below.heap_alloc _ _ _ (by omega)).trans hb)
  have hown := (hv.alloc (.cells s.cells 74)).alloc (.cells s.cells 74)
  have hnew : ∀ j u, s.cells.toList[j]? = some u → ((W.alloc (.cells s.cells 74)).alloc (.cells s.cells 74)).cell? ((⟨W.heap.size + 1, 0, none⟩ : Addr).add j) = some u :=
    World.news_of_block (t := 74) (fr := (0, 0)) (by have := World.alloc_heap_new (W.alloc (.cells s.cells 74)) (.cells s.cells 74); simpa using this)
  have hne := src_one s
  have HF := hidB hfin
  have HX := hidB hbox
  have HY := hidB hboxn
  have HO := hidB hown
  have HN := hidB hnew
  have HE := hidB hne
  clear hfin hown hnew hne hv hr hL hb hbox hboxn hvn hp hbn3
  dsimp only [Src.cells] at HF HO HN HE HX HY c0 ⊢
  go_enter Try.func34, Try.ntmps34
  go_wp2_with (at_builtin; refine wpList_append_lies _ rfl _ _ 58 rfl n 74 i74 _ 9 88 Try.underlying58 hi hz0 hz1 hz2 rfl (by decide) (.slice va done.length vc) done.length (srcCells done) rfl HO.out ⟨W.heap.size + 1, 0, none⟩ 1 1 _ rfl rfl HN.out HE.out (by omega) (by simp only [maxLen]; omega) (by omega) (by simp; omega) (W.heap.size + 2) (by simp) ?_; intro g cap w1 how hgr hat hgl; have HR := hidB (HF.out w1 g cap how hgr hat); have cb : w1.cell? ⟨bo, 0, none⟩ = some (.slice va done.length vc) := cell_at (HX.out w1 hgr); have cf : w1.frozen? ⟨bo, 0, none⟩ = false := frozen_at (HX.out w1 hgr); have cn : w1.cell? ⟨bn, 0, none⟩ = some (.int .i64 nn) := cell_at (HY.out w1 hgr); clear how hgr hat)
  go_ret
  exact HR.out

def SrcAt (b o : Nat) (W : World) (x : Src) : Prop := W.cell? ⟨b, o, none⟩ = some (.int .i8 x.kind) ∧ W.cell? ⟨b, o + 1, none⟩ = some (.int .i8 x.lvl) ∧ W.cell? ⟨b, o + 2, none⟩ = some (.int .i8 x.role) ∧ W.cell? ⟨b, o + 3, none⟩ = some (.string x.tenant) ∧
  W.cell? ⟨b, o + 4, none⟩ = some (.int .i8 x.vis) ∧ W.cell? ⟨b, o + 5, none⟩ = some (.string x.dep) ∧ W.cell? ⟨b, o + 6, none⟩ = some (.int .i8 x.gk) ∧ W.cell? ⟨b, o + 7, none⟩ = some (.string x.gid) ∧ W.cell? ⟨b, o + 8, none⟩ = some (.string x.via)
theorem SrcAt.below {n b o : Nat} {W W' : World} {x : Src} (h : Below n W W') (hb : b < n) (k : SrcAt b o W x) : SrcAt b o W' x := by
  obtain ⟨k0, k1, k2, k3, k4, k5, k6, k7, k8⟩ := k
  have e : ∀ j, W'.cell? ⟨b, j, none⟩ = W.cell? ⟨b, j, none⟩ := fun j => h.cell (p := ⟨b, j, none⟩) hb
  exact ⟨(e _).trans k0, (e _).trans k1, (e _).trans k2, (e _).trans k3, (e _).trans k4, (e _).trans k5, (e _).trans k6, (e _).trans k7, (e _).trans k8⟩

theorem srcCells_get (l : List Src) (j : Nat) (h : j < l.length) (i : Nat) (hi : i < 9) : (srcCells l)[j * 9 + i]? = l[j].cells[i]? := by
  induction l generalizing j with
  | nil => cases h
  | cons s l ih =>
    have e : srcCells (s :: l) = s.cells.toList ++ srcCells l := by simp [srcCells]
    have e9 : s.cells.toList.length = 9 := rfl
    rw [e]
    cases j with
    | zero =>
      rw [List.getElem?_append_left (by rw [e9]; omega)]
      simp
    | succ j =>
      rw [List.getElem?_append_right (by rw [e9]; omega), e9]
      have : (j + 1) * 9 + i - 9 = j * 9 + i := by omega
      rw [this, ih j (by simpa using h)]
      simp

theorem srcRow {n : Nat} {W : World} {v : Value} {l : List Src} (h : W.ownsRow n 74 9 v l.length (srcCells l)) : RowIs W.heap.size 9 0 SrcAt W v l := by
  rcases h.2 with ⟨rfl, h0⟩ | ⟨g, cap, cur, rfl, hb, hg, hc1, hc2, hc3, ht⟩
  · exact ⟨none, 0, by rw [h0], by omega, by omega, fun j hj => by omega⟩
  · refine ⟨_, _, rfl, hc1, by omega, fun j hj => ⟨g, 0, rfl, (Array.getElem?_eq_some_iff.1 hg).1, ?_⟩⟩
    have e : ∀ i, i < 9 → W.cell? ⟨g, 0 + j * 9 + i, none⟩ = l[j].cells[i]? := by
      intro i hi
      rw [cell_at hg, ← srcCells_get l j hj i hi, ← ht, List.getElem?_take, if_pos (by omega), Nat.zero_add]
      simp
    exact ⟨e 0 (by omega), e 1 (by omega), e 2 (by omega), e 3 (by omega), e 4 (by omega), e 5 (by omega), e 6 (by omega), e 7 (by omega), e 8 (by omega)⟩

/-- A slice of sources and a bool are handed back. -/
def ColRes (l : List Src) (ok : Bool) (e : Ending) (W : World) : Prop := ∃ v, e = .returned (.tuple #[v, .bool ok]) ∧ RowIs W.heap.size 9 0 SrcAt W v l

set_option maxRecDepth 100000 in
set_option maxHeartbeats 2000000 in
theorem all_c (kb : Kb) (deps : List Wi) (fb fo : Nat) (sv gv : Value) (w : World) (hL : (kbSrcs deps kb).length ≤ 33554432) (hfb : fb < w.heap.size) (hsv : w.cell? ⟨fb, fo + 5, none⟩ = some sv)
    (hrow : RowIs w.heap.size 2 32 WiAt w sv deps) (hgr : RowIs w.heap.size 2 24 GrAt w gv kb.grants) :
    Calls Try.prog 21 #[.pointer (some ⟨fb, fo, none⟩), .agg #[.bool kb.creator, .int .i8 kb.vis, .int .i8 kb.lvl, .string kb.dep, .int .i8 kb.pg, gv]] w fun e w' => ColRes (kbSrcs deps kb) true e w' ∧ Below w.heap.size w w' := by
  have hB : Below w.heap.size w ((w.alloc (kbObj kb gv)).alloc (.cells #[.slice none 0 0] 58)) := ((Below.refl _ w).alloc (Nat.le_refl _) _).alloc (by simp) _
  have hbo : ((w.alloc (kbObj kb gv)).alloc (.cells #[.slice none 0 0] 58)).heap[w.heap.size + 1]? = some (.cells #[.slice none 0 0] 58) := by
    have := World.alloc_heap_new (w.alloc (kbObj kb gv)) (.cells #[.slice none 0 0] 58)
    simpa using this
  have hsz : ((w.alloc (kbObj kb gv)).alloc (.cells #[.slice none 0 0] 58)).heap.size = w.heap.size + 2 := by simp
  have hcall := callsIn_wide.1 (kbSources_in (colJ_framed w.heap.size (w.heap.size + 1) (kbSrcs deps kb) (fun _ => True)) (Jx := fun _ _ _ => False) ⟨fun _ _ _ _ h _ _ => h, fun _ _ _ _ h _ => h.elim⟩ (fv := .func 32) (caps := #[.pointer (some ⟨w.heap.size + 1, 0, none⟩)])
    (fun G s r W h => .inl ⟨32, rfl, enters_of Try.func32 (by kernel_rfl) rfl, callsIn_wide.2 (all1 _ _ _ hL G s r W h)⟩)
    (W := (w.alloc (kbObj kb gv)).alloc (.cells #[.slice none 0 0] 58)) (G := fun k => k = w.heap.size + 1 ∨ (Value.slice none 0 0).ownBlock = some k) (n := w.heap.size) (fo := fo) (gv := gv) (sv := sv) (kb := kb) (deps := deps) (r := []) (by omega)
    (by rintro k (rfl | h); omega; cases h) hfb ((hB.cell (p := ⟨fb, fo + 5, none⟩) hfb).trans hsv) (hrow.turned fun _ _ _ hb' => WiAt.below hB hb') (hgr.turned fun _ _ _ hb' => GrAt.below hB hb')
    ⟨[], _, by simp, trivial, by omega, hbo, World.ownsRow_nil _ _ _ _, rfl⟩)
  have hlow : ∀ k, (k = w.heap.size + 1 ∨ (Value.slice none 0 0).ownBlock = some k) → w.heap.size ≤ k := by rintro k (rfl | h); omega; cases h
  have hs2 : w.heap.size ≤ ((w.alloc (kbObj kb gv)).alloc (.cells #[.slice none 0 0] 58)).heap.size := by omega
  obtain ⟨ga, gc, rfl, _⟩ := hgr
  have HC := hidB hcall
  have HB := hidB hB
  have HL := hidB hlow
  have HS := hidB hs2
  clear hcall hB hbo hsz hrow hsv hlow hs2
  simp only [kbObj] at HC HB HS
  go_enter Try.func21, Try.ntmps21
  go_wp2_with (go_at_call 31; refine HC.out.mono ?_; rintro e W' ⟨G', m1, m2, ⟨rfl, done, v, h1, _, h2, h3, h4, rfl⟩ | ⟨_, _, h⟩⟩; rotate_left; exact h.elim; obtain ⟨va, vc, rfl⟩ := ownsRow_form h4; have c0 := cell_at (o := 0) h3; have HBB := hidB (HB.out.trans (m2.below HL.out HS.out)); have HR := hidB (srcRow h4); have HE := hidB h1; clear m1 m2 h1 h2 h3 h4)
  go_ret2
  have e := HE.out
  rw [List.append_nil] at e
  exact ⟨⟨_, rfl, e ▸ HR.out⟩, HBB.out⟩

/-- How 'ZZkbSourcesFirst' ends, behind kbSources' own answer. -/
theorem first_end {n bo bn : Nat} {nn : Int} {L : List Src} {G : Nat → Prop} {W W' : World} {e : Ending} (h : YPost (firJ n bo bn nn L (fewer nn)) (firJ n bo bn nn L (enough nn)) G W [] e W') :
    Fr G W W' ∧ e = .returned (.bool (decide ((L.length : Int) < max nn 1))) ∧ ∃ va vc, W'.heap[bo]? = some (.cells #[.slice va (L.take (max nn 1).toNat).length vc] 58) ∧ RowIs W'.heap.size 9 0 SrcAt W' (.slice va (L.take (max nn 1).toNat).length vc) (L.take (max nn 1).toNat) := by
  obtain ⟨G', m1, m2, h⟩ := h
  refine ⟨m2, ?_⟩
  rcases h with ⟨rfl, G0, ⟨done, v, h1, hp, h2, h3, h4, rfl⟩, _⟩ | ⟨rfl, r', G0, ⟨done, v, h1, hp, h2, h3, h4, rfl⟩, _⟩
  · rw [List.append_nil] at h1
    subst h1
    have hlt : (done.length : Int) < max nn 1 := by
      rcases hp with rfl | hp
      · simp; omega
      · omega
    have ht : done.take (max nn 1).toNat = done := List.take_of_length_le (by omega)
    obtain ⟨va, vc, rfl⟩ := ownsRow_form h4
    rw [ht]
    exact ⟨by simp [hlt], va, vc, h3, srcRow h4⟩
  · subst h1
    unfold enough at hp
    have hlt : ¬ ((done ++ r').length : Int) < max nn 1 := by simp; omega
    have ht : (done ++ r').take (max nn 1).toNat = done := by
      rw [← hp, Int.toNat_natCast, List.take_left]
    obtain ⟨va, vc, rfl⟩ := ownsRow_form h4
    rw [ht]
    exact ⟨by simp only [hlt, decide_false], va, vc, h3, srcRow h4⟩

set_option maxRecDepth 100000 in
set_option maxHeartbeats 2000000 in
theorem first_c (kb : Kb) (deps : List Wi) (fb fo : Nat) (sv gv : Value) (nn : Int) (w : World) (hL : (kbSrcs deps kb).length ≤ 33554432) (hfb : fb < w.heap.size) (hsv : w.cell? ⟨fb, fo + 5, none⟩ = some sv)
    (hrow : RowIs w.heap.size 2 32 WiAt w sv deps) (hgr : RowIs w.heap.size 2 24 GrAt w gv kb.grants) :
    Calls Try.prog 23 #[.pointer (some ⟨fb, fo, none⟩), .agg #[.bool kb.creator, .int .i8 kb.vis, .int .i8 kb.lvl, .string kb.dep, .int .i8 kb.pg, gv], .int .i64 nn] w fun e w' =>
      ColRes ((kbSrcs deps kb).take (max nn 1).toNat) (decide (((kbSrcs deps kb).length : Int) < max nn 1)) e w' ∧ Below w.heap.size w w' := by
  obtain ⟨W2, hW2⟩ : ∃ W2, W2 = ((w.alloc (kbObj kb gv)).alloc (.cells #[.int .i64 nn] 3)).alloc (.cells #[.slice none 0 0] 58) := ⟨_, rfl⟩
  have hB : Below w.heap.size w W2 := hW2 ▸ (((Below.refl _ w).alloc (Nat.le_refl _) _).alloc (by simp) _).alloc (by simp; omega) _
  have hbo : W2.heap[w.heap.size + 2]? = some (.cells #[.slice none 0 0] 58) := by
    have := World.alloc_heap_new ((w.alloc (kbObj kb gv)).alloc (.cells #[.int .i64 nn] 3)) (.cells #[.slice none 0 0] 58)
    rw [hW2]; simpa using this
  have hbn : W2.heap[w.heap.size + 1]? = some (.cells #[.int .i64 nn] 3) := by
    have := World.alloc_heap_new (w.alloc (kbObj kb gv)) (.cells #[.int .i64 nn] 3)
    rw [hW2]
    exact (Below.heap_alloc _ _ _ (by simp)).trans (by simpa using this)
  have hsz : W2.heap.size = w.heap.size + 3 := by simp [hW2]
  have hlow : ∀ k, (k = w.heap.size + 2 ∨ (Value.slice none 0 0).ownBlock = some k) ∨ k = w.heap.size + 1 → w.heap.size ≤ k := by rintro k ((rfl | h) | rfl); omega; cases h; omega
  have hcall := callsIn_wide.1 (kbSources_in (firJ_framed w.heap.size (w.heap.size + 2) (w.heap.size + 1) nn (kbSrcs deps kb) (fewer nn)) (firJ_framed w.heap.size (w.heap.size + 2) (w.heap.size + 1) nn (kbSrcs deps kb) (enough nn)) (fv := .func 34) (caps := #[.pointer (some ⟨w.heap.size + 2, 0, none⟩), .pointer (some ⟨w.heap.size + 1, 0, none⟩)])
    (fun G s r W h => .inl ⟨34, rfl, enters_of Try.func34 (by kernel_rfl) rfl, callsIn_wide.2 (first1 _ _ _ _ _ hL G s r W h)⟩)
    (W := W2) (G := fun k => (k = w.heap.size + 2 ∨ (Value.slice none 0 0).ownBlock = some k) ∨ k = w.heap.size + 1) (n := w.heap.size) (fo := fo) (gv := gv) (sv := sv) (kb := kb) (deps := deps) (r := []) (by omega)
    hlow hfb ((hB.cell (p := ⟨fb, fo + 5, none⟩) hfb).trans hsv) (hrow.turned fun _ _ _ hb' => WiAt.below hB hb') (hgr.turned fun _ _ _ hb' => GrAt.below hB hb')
    ⟨_, ⟨[], _, by simp, .inl rfl, by omega, hbo, World.ownsRow_nil _ _ _ _, rfl⟩, by omega, by omega, hbn, rfl⟩)
  have hs2 : w.heap.size ≤ W2.heap.size := by omega
  subst hW2
  obtain ⟨ga, gc, rfl, _⟩ := hgr
  have HC := hidB hcall
  have HB := hidB hB
  have HL := hidB hlow
  have HS := hidB hs2
  clear hcall hB hbo hsz hrow hsv hlow hs2 hbn
  simp only [kbObj] at HC HB HS
  go_enter Try.func23, Try.ntmps23
  go_wp2_with (go_at_call 31; refine HC.out.mono ?_; intro e W' hp; obtain ⟨m2, rfl, va, vc, h3, h4⟩ := first_end hp; clear hp; have c0 := cell_at (o := 0) h3; have HBB := hidB (HB.out.trans (m2.below HL.out HS.out)); have HR := hidB h4; clear m2 h3 h4)
  go_ret2
  have hr := HR.out
  rw [List.length_take] at hr
  exact ⟨⟨_, rfl, hr⟩, HBB.out⟩
end Go.Proofs.Qxb6613755a
