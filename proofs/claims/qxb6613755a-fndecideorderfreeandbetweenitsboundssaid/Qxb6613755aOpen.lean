/-
  The arguments opened: a slice of structs that reads as data lies in memory as the walks want it.
-/
import Derived.Test.Qxb6613755aBig
import Derived.Deep.Slices
import Derived.Deep.Fields
import Derived.WideShapes
namespace Go.Proofs.Qxb6613755a
open Go.ChangeShapes Go.WideShapes Go.RowKit
set_option linter.unusedVariables false
set_option linter.unusedSimpArgs false

theorem Try.cells76 : Try.prog.cellsOf 76 = 2 := by kernel_rfl
theorem Try.cells53 : Try.prog.cellsOf 53 = 6 := by kernel_rfl
theorem Try.cells55 : Try.prog.cellsOf 55 = 2 := by kernel_rfl

/-- From 'for every i < n there is one' to one list. -/
theorem list_of {α : Type} {p : Nat → α → Prop} : ∀ n, (∀ i, i < n → ∃ x, p i x) → ∃ l : List α, l.length = n ∧ ∀ j (h : j < l.length), p j l[j]
  | 0, _ => ⟨[], rfl, fun j h => by cases h⟩
  | n + 1, h => by
    obtain ⟨l, h1, h2⟩ := list_of n (fun i hi => h i (by omega))
    obtain ⟨x, hx⟩ := h n (by omega)
    refine ⟨l ++ [x], by simp [h1], fun j hj => ?_⟩
    by_cases hjl : j < l.length
    · rw [List.getElem_append_left hjl]; exact h2 j hjl
    · have : j = n := by simp at hj; omega
      subst this
      rw [List.getElem_append_right (by omega)]
      simpa using hx

section
variable {H : Type} {enc : TypeId × Value → H} {P : Program} {w : World} {spare : Nat → Bool} {held : Bool}

theorem row_of_trod {α : Type} {t e : TypeId} {sz fuel : Nat} {cs : List Value} {x : DataW H × List MemPlace} (ht : P.underlying t = some (.slice e)) (hc : P.cellsOf e = sz) (hsz : 0 < sz) (At : Nat → Nat → World → α → Prop)
    (hel : ∀ n cs x b o, cs.length = sz → (∀ i, i < sz → w.cell? ⟨b, o + i, none⟩ = cs[i]?) → DataW.trod enc P w 0 spare held n e cs = some x → ∃ y : α, At b o w y)
    (h : DataW.trod enc P w 0 spare held fuel t cs = some x) : ∃ v xs, cs = [v] ∧ RowIs w.heap.size sz 0 At w v xs := by
  rcases Deep.open_slice ht h with ⟨rfl, _⟩ | ⟨a, len, cap, m, n, D, Pl, rfl, _, hl, hm, hmm, _, hx⟩
  · exact ⟨_, [], rfl, none, 0, rfl, Nat.le_refl _, by omega, fun j h => by cases h⟩
  · subst hc
    have hle : len ≤ m := by rw [hmm]; split <;> omega
    have hone : ∀ i, i < len → ∃ y : α, ∃ b off, some a = some ⟨b, off, none⟩ ∧ b < w.heap.size ∧ At b (off + i * P.cellsOf e) w y := by
      intro i hi
      have hspot : a.spot = none := by
        obtain ⟨cs', h1, _⟩ := hx 0 (by omega)
        obtain ⟨_, hlen, hcell⟩ := World.cells?_some h1
        have h0 := hcell 0 hsz
        rw [List.getElem?_eq_getElem (by omega), Nat.zero_mul] at h0
        exact World.cell?_spot (a := a) (by simpa [Addr.add] using h0)
      obtain ⟨b, off, spot⟩ := a
      simp only at hspot
      subst hspot
      obtain ⟨cs', h1, h2⟩ := hx i (by omega)
      obtain ⟨_, hlen, hcell⟩ := World.cells?_some h1
      have hadd : ∀ k, (⟨b, off, none⟩ : Addr).add k = ⟨b, off + k, none⟩ := fun k => by unfold Addr.add; split <;> simp_all
      have hcell' : ∀ j, j < P.cellsOf e → w.cell? ⟨b, off + i * P.cellsOf e + j, none⟩ = cs'[j]? := fun j hj => by
        rw [← hcell j hj, Deep.add_add, hadd, Nat.add_assoc]
      obtain ⟨y, hy⟩ := hel n cs' _ b (off + i * P.cellsOf e) hlen hcell' h2
      refine ⟨y, b, off, rfl, ?_, hy⟩
      have h0 := hcell' 0 hsz
      rw [List.getElem?_eq_getElem (by omega)] at h0
      exact World.block_lt_of_cell? w _ h0
    obtain ⟨xs, hxl, hxs⟩ := list_of len hone
    exact ⟨_, xs, rfl, _, cap, by rw [hxl], by omega, by omega, fun j hj => hxs j hj⟩

theorem open_fields {t : TypeId} {fs : Array Field} {fuel : Nat} {cs : List Value} {x : DataW H × List MemPlace} (ht : P.underlying t = some (.struct fs)) (hone : Deep.oneCellFields P fs = true) (hC : P.cellsOf t = fs.size) (h : DataW.trod enc P w 0 spare held fuel t cs = some x) :
    cs.length = fs.size ∧ ∃ n, ∀ (i : Nat) (f : Field), fs[i]? = some f → ∃ v y, cs[i]? = some v ∧ DataW.trod enc P w 0 spare held n f.type [v] = some y := by
  obtain ⟨xs, n, rfl, _, hlen, hxl, hf⟩ := DataW.trod_struct ht h
  refine ⟨by omega, n, fun i f hi => ?_⟩
  have hlt : i < fs.size := (Array.getElem?_eq_some_iff.1 hi).1
  obtain ⟨h1, h2⟩ := Deep.hone_of hone i f hi
  have := hf i f hi
  rw [h1, h2, Deep.take1_drop cs i undef (by omega), List.getElem?_eq_getElem (show i < xs.length by omega)] at this
  exact ⟨_, _, by rw [List.getD_eq_getElem?_getD, List.getElem?_eq_getElem (by omega)]; rfl, this⟩
end

section
variable {H : Type} {enc : TypeId × Value → H} {w : World} {spare : Nat → Bool} {held : Bool}

theorem wi_of {n : Nat} {cs : List Value} {x : DataW H × List MemPlace} {b o : Nat} (hc : ∀ i, i < 2 → w.cell? ⟨b, o + i, none⟩ = cs[i]?) (h : DataW.trod enc Try.prog w 0 spare held n 76 cs = some x) : ∃ y : Wi, WiAt b o w y := by
  obtain ⟨hl, n', hf⟩ := open_fields Try.underlying76 (by kernel_rfl) (by kernel_rfl) h
  obtain ⟨v0, y0, e0, t0⟩ := hf 0 _ rfl
  obtain ⟨v1, y1, e1, t1⟩ := hf 1 _ rfl
  obtain ⟨s0, q0, _⟩ := DataW.trod_string Try.underlying9 t0
  obtain ⟨s1, q1, _⟩ := DataW.trod_string Try.underlying9 t1
  cases q0; cases q1
  exact ⟨⟨s0, s1⟩, (hc 0 (by omega)).trans e0, (hc 1 (by omega)).trans e1⟩
theorem gr_of {n : Nat} {cs : List Value} {x : DataW H × List MemPlace} {b o : Nat} (hc : ∀ i, i < 2 → w.cell? ⟨b, o + i, none⟩ = cs[i]?) (h : DataW.trod enc Try.prog w 0 spare held n 55 cs = some x) : ∃ y : Gr, GrAt b o w y := by
  obtain ⟨hl, n', hf⟩ := open_fields Try.underlying55 (by kernel_rfl) (by kernel_rfl) h
  obtain ⟨v0, y0, e0, t0⟩ := hf 0 _ rfl
  obtain ⟨v1, y1, e1, t1⟩ := hf 1 _ rfl
  obtain ⟨s0, q0, _⟩ := DataW.trod_string Try.underlying9 t0
  obtain ⟨s1, q1, _⟩ := DataW.trod_int Try.underlying24 t1
  cases q0; cases q1
  exact ⟨⟨s0, s1⟩, (hc 0 (by omega)).trans e0, (hc 1 (by omega)).trans e1⟩
theorem six_list {cs : List Value} {v0 v1 v2 v3 v4 v5 : Value} (hl : cs.length = 6) (e0 : cs[0]? = some v0) (e1 : cs[1]? = some v1) (e2 : cs[2]? = some v2) (e3 : cs[3]? = some v3) (e4 : cs[4]? = some v4) (e5 : cs[5]? = some v5) : cs = [v0, v1, v2, v3, v4, v5] := by
  match cs, hl with
  | [c0, c1, c2, c3, c4, c5], _ => simp at e0 e1 e2 e3 e4 e5; simp [e0, e1, e2, e3, e4, e5]
/-- The cells of a ZKB. -/
theorem zk_cells {n : Nat} {cs : List Value} {x : DataW H × List MemPlace} (h : DataW.trod enc Try.prog w 0 spare held n 53 cs = some x) :
    ∃ (y : Kb) (gv : Value), cs = [.bool y.creator, .int .i8 y.vis, .int .i8 y.lvl, .string y.dep, .int .i8 y.pg, gv] ∧ RowIs w.heap.size 2 0 GrAt w gv y.grants := by
  obtain ⟨hl, n', hf⟩ := open_fields Try.underlying53 (by kernel_rfl) (by kernel_rfl) h
  obtain ⟨v0, y0, e0, t0⟩ := hf 0 _ rfl
  obtain ⟨v1, y1, e1, t1⟩ := hf 1 _ rfl
  obtain ⟨v2, y2, e2, t2⟩ := hf 2 _ rfl
  obtain ⟨v3, y3, e3, t3⟩ := hf 3 _ rfl
  obtain ⟨v4, y4, e4, t4⟩ := hf 4 _ rfl
  obtain ⟨v5, y5, e5, t5⟩ := hf 5 _ rfl
  obtain ⟨s0, q0, _⟩ := DataW.trod_bool Try.underlying4 t0
  obtain ⟨s1, q1, _⟩ := DataW.trod_int Try.underlying27 t1
  obtain ⟨s2, q2, _⟩ := DataW.trod_int Try.underlying24 t2
  obtain ⟨s3, q3, _⟩ := DataW.trod_string Try.underlying9 t3
  obtain ⟨s4, q4, _⟩ := DataW.trod_int Try.underlying24 t4
  obtain ⟨gv, gs, q5, hgs⟩ := row_of_trod Try.underlying51 Try.cells55 (by omega) GrAt (fun n cs x b o _ hc h => gr_of hc h) t5
  cases q0; cases q1; cases q2; cases q3; cases q4; cases q5
  exact ⟨⟨s0, s1, s2, s3, s4, gs⟩, v5, six_list hl e0 e1 e2 e3 e4 e5, hgs⟩
theorem zk_of {n : Nat} {cs : List Value} {x : DataW H × List MemPlace} {b o : Nat} (hc : ∀ i, i < 6 → w.cell? ⟨b, o + i, none⟩ = cs[i]?) (h : DataW.trod enc Try.prog w 0 spare held n 53 cs = some x) : ∃ y : Kb, ZkAt w.heap.size b o w y := by
  obtain ⟨y, gv, rfl, hg⟩ := zk_cells h
  exact ⟨y, hc 0 (by omega), hc 1 (by omega), hc 2 (by omega), hc 3 (by omega), hc 4 (by omega), gv, hc 5 (by omega), hg⟩

theorem open_deps {v : Value} {d : DataW H} {ps : List MemPlace} {a : Option Addr} {l c : Nat} (hv : v = .slice a l c) (h : DataW.Trod enc Try.prog w 0 spare held 42 v d ps) : ∃ ds, RowIs w.heap.size 2 0 WiAt w v ds := by
  subst hv
  obtain ⟨fuel, hf⟩ := h
  obtain ⟨v', xs, e, hx⟩ := row_of_trod Try.underlying42 Try.cells76 (by omega) WiAt (fun n cs x b o _ hc h => wi_of hc h) hf
  simp [Value.cells] at e
  subst e
  exact ⟨xs, hx⟩
theorem open_kbs {v : Value} {d : DataW H} {ps : List MemPlace} {a : Option Addr} {l c : Nat} (hv : v = .slice a l c) (h : DataW.Trod enc Try.prog w 0 spare held 43 v d ps) : ∃ ks, RowIs w.heap.size 6 0 (ZkAt w.heap.size) w v ks := by
  subst hv
  obtain ⟨fuel, hf⟩ := h
  obtain ⟨v', xs, e, hx⟩ := row_of_trod Try.underlying43 Try.cells53 (by omega) (ZkAt w.heap.size) (fun n cs x b o _ hc h => zk_of hc h) hf
  simp [Value.cells] at e
  subst e
  exact ⟨xs, hx⟩
theorem open_kb {cs : Array Value} {d : DataW H} {ps : List MemPlace} (h : DataW.Trod enc Try.prog w 0 spare held 53 (.agg cs) d ps) :
    ∃ (y : Kb) (gv : Value), cs = #[.bool y.creator, .int .i8 y.vis, .int .i8 y.lvl, .string y.dep, .int .i8 y.pg, gv] ∧ RowIs w.heap.size 2 0 GrAt w gv y.grants := by
  obtain ⟨fuel, hf⟩ := h
  obtain ⟨y, gv, e, hg⟩ := zk_cells hf
  refine ⟨y, gv, ?_, hg⟩
  simp only [Value.cells] at e
  rw [← Array.toList_inj, e]
end
end Go.Proofs.Qxb6613755a
