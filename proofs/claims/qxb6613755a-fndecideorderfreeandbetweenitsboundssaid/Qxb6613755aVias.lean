/-
  The data of a decision as they lie in memory; the closure of 'vias' (function 39).
-/
import Derived.RangeFuncNested
import Derived.RangeFuncBound
import Derived.RangeFuncCalls
import Derived.RangeFuncLeaves
import Derived.Shelf.Abstract
import Derived.Shelf.RegionOpen
import Derived.WalkKit
import Derived.OwnWalkIn
import Derived.TacticsInMore
import Derived.LoopNIn
import Derived.LoopIn
import Derived.Outline
import Derived.Test.Qxb6613755aProg
import Derived.Test.Qxb6613755aYield
namespace Go.Proofs.Qxb6613755a
open Go.RowKit Go.Shelf
attribute [local go_sem] Oper.semAt_some wide_depth wide_fn

/-- A department that a person is within, by way of which. -/
structure Wi where
  dep : ByteArray
  via : ByteArray
/-- A grant to a department. -/
structure Gr where
  dep : ByteArray
  lvl : Int
/-- What is stored of one knowledge base. -/
structure Kb where
  creator : Bool
  vis : Int
  lvl : Int
  dep : ByteArray
  pg : Int
  grants : List Gr
/-- The facts of a question. -/
structure Fa where
  known : Bool
  su : Bool
  dis : Bool
  role : Int
  rt : ByteArray
  deps : List Wi
  kbs : List Kb
/-- A source. -/
structure Src where
  kind : Int
  lvl : Int
  role : Int
  tenant : ByteArray
  vis : Int
  dep : ByteArray
  gk : Int
  gid : ByteArray
  via : ByteArray

def Src.cells (s : Src) : Array Value := #[.int .i8 s.kind, .int .i8 s.lvl, .int .i8 s.role, .string s.tenant, .int .i8 s.vis, .string s.dep, .int .i8 s.gk, .string s.gid, .string s.via]

/-- The slice value sv leads to the elements xs, sz cells each, in a block below n. -/
def RowIs {α : Type} (n sz bytes : Nat) (At : Nat → Nat → World → α → Prop) (W : World) (sv : Value) (xs : List α) : Prop :=
  ∃ a cap, sv = .slice a xs.length cap ∧ xs.length ≤ cap ∧ cap * bytes ≤ 140737488351232 ∧ ∀ j (h : j < xs.length), ∃ b off, a = some ⟨b, off, none⟩ ∧ b < n ∧ At b (off + j * sz) W xs[j]

theorem RowIs.turned {α : Type} {n sz bytes : Nat} {At : Nat → Nat → World → α → Prop} {W W' : World} (hAt : ∀ b o x, b < n → At b o W x → At b o W' x) {sv : Value} {xs : List α} (h : RowIs n sz bytes At W sv xs) : RowIs n sz bytes At W' sv xs := by
  obtain ⟨a, cap, h1, h2, h3, h4⟩ := h
  refine ⟨a, cap, h1, h2, h3, fun j hj => ?_⟩
  obtain ⟨b, off, e, hb, hx⟩ := h4 j hj
  exact ⟨b, off, e, hb, hAt _ _ _ hb hx⟩

def WiAt (b o : Nat) (W : World) (x : Wi) : Prop := W.cell? ⟨b, o, none⟩ = some (.string x.dep) ∧ W.cell? ⟨b, o + 1, none⟩ = some (.string x.via)
def GrAt (b o : Nat) (W : World) (x : Gr) : Prop := W.cell? ⟨b, o, none⟩ = some (.string x.dep) ∧ W.cell? ⟨b, o + 1, none⟩ = some (.int .i8 x.lvl)
def KbAt (n b o : Nat) (W : World) (x : Kb) : Prop := W.cell? ⟨b, o, none⟩ = some (.bool x.creator) ∧ W.cell? ⟨b, o + 1, none⟩ = some (.int .i8 x.vis) ∧ W.cell? ⟨b, o + 2, none⟩ = some (.int .i8 x.lvl) ∧
  W.cell? ⟨b, o + 3, none⟩ = some (.string x.dep) ∧ W.cell? ⟨b, o + 4, none⟩ = some (.int .i8 x.pg) ∧ ∃ sv, W.cell? ⟨b, o + 5, none⟩ = some sv ∧ RowIs n 2 24 GrAt W sv x.grants
def FaAt (n b o : Nat) (W : World) (f : Fa) : Prop := b < n ∧ W.cell? ⟨b, o, none⟩ = some (.bool f.known) ∧ W.cell? ⟨b, o + 1, none⟩ = some (.bool f.su) ∧ W.cell? ⟨b, o + 2, none⟩ = some (.bool f.dis) ∧ W.cell? ⟨b, o + 3, none⟩ = some (.int .i8 f.role) ∧
  W.cell? ⟨b, o + 4, none⟩ = some (.string f.rt) ∧ (∃ sv, W.cell? ⟨b, o + 5, none⟩ = some sv ∧ RowIs n 2 32 WiAt W sv f.deps) ∧ ∃ sv, W.cell? ⟨b, o + 6, none⟩ = some sv ∧ RowIs n 6 64 (KbAt n) W sv f.kbs

theorem WiAt.below {n b o : Nat} {W W' : World} {x : Wi} (h : Below n W W') (hb : b < n) (k : WiAt b o W x) : WiAt b o W' x := ⟨(h.cell (p := ⟨b, _, none⟩) hb).trans k.1, (h.cell (p := ⟨b, _, none⟩) hb).trans k.2⟩
theorem GrAt.below {n b o : Nat} {W W' : World} {x : Gr} (h : Below n W W') (hb : b < n) (k : GrAt b o W x) : GrAt b o W' x := ⟨(h.cell (p := ⟨b, _, none⟩) hb).trans k.1, (h.cell (p := ⟨b, _, none⟩) hb).trans k.2⟩
theorem KbAt.below {n b o : Nat} {W W' : World} {x : Kb} (h : Below n W W') (hb : b < n) (k : KbAt n b o W x) : KbAt n b o W' x := by
  obtain ⟨k1, k2, k3, k4, k5, sv, k6, k7⟩ := k
  exact ⟨(h.cell (p := ⟨b, _, none⟩) hb).trans k1, (h.cell (p := ⟨b, _, none⟩) hb).trans k2, (h.cell (p := ⟨b, _, none⟩) hb).trans k3, (h.cell (p := ⟨b, _, none⟩) hb).trans k4, (h.cell (p := ⟨b, _, none⟩) hb).trans k5, sv, (h.cell (p := ⟨b, _, none⟩) hb).trans k6, k7.turned fun _ _ _ hb' => GrAt.below h hb'⟩
theorem FaAt.below {n b o : Nat} {W W' : World} {x : Fa} (h : Below n W W') (k : FaAt n b o W x) : FaAt n b o W' x := by
  obtain ⟨hb, k1, k2, k3, k4, k5, ⟨sv, k6, k7⟩, sv', k8, k9⟩ := k
  exact ⟨hb, (h.cell (p := ⟨b, _, none⟩) hb).trans k1, (h.cell (p := ⟨b, _, none⟩) hb).trans k2, (h.cell (p := ⟨b, _, none⟩) hb).trans k3, (h.cell (p := ⟨b, _, none⟩) hb).trans k4, (h.cell (p := ⟨b, _, none⟩) hb).trans k5,
    ⟨sv, (h.cell (p := ⟨b, _, none⟩) hb).trans k6, k7.turned fun _ _ _ hb' => WiAt.below h hb'⟩, sv', (h.cell (p := ⟨b, _, none⟩) hb).trans k8, k9.turned fun _ _ _ hb' => KbAt.below h hb'⟩

def viasOf (ds : List Wi) (d : ByteArray) : List ByteArray := (ds.filter (fun w => w.dep.toList == d.toList)).map (·.via)

theorem viasOf_drop (ds : List Wi) (d : ByteArray) (k : Nat) (h : k < ds.length) :
    viasOf (ds.drop k) d = if (ds[k].dep.toList == d.toList) = true then ds[k].via :: viasOf (ds.drop (k + 1)) d else viasOf (ds.drop (k + 1)) d := by
  unfold viasOf
  rw [List.drop_eq_getElem_cons h, List.filter_cons]
  by_cases hd : (ds[k].dep.toList == d.toList) = true
  · rw [if_pos hd, if_pos hd]; rfl
  · rw [if_neg hd, if_neg hd]

set_option maxHeartbeats 1000000 in
/-- 'for _, w := range f.Departments { if w.Department == d && !yield(w.Via) { return } }' -/
theorem vias1 (l bf bd fb fo n : Nat) (ds : List Wi) (d : ByteArray) (J Jx : List ByteArray → World → Prop)
    (hR : ∀ r W, J r W → W.cell? ⟨bf, 0, none⟩ = some (.pointer (some ⟨fb, fo, none⟩)) ∧ W.cell? ⟨bd, 0, none⟩ = some (.string d))
    (hA : ∀ r W o, J r W → J r (W.alloc o))
    (hY : ∀ x r W, J (x :: r) W → YieldAt Fence.wide 0 Try.prog l #[.string x] W fun e W' => (e = .returned (.bool true) ∧ J r W') ∨ (e = .returned (.bool false) ∧ Jx r W'))
    (W : World) (h0 : J (viasOf ds d) W) (sv : Value) (hsv : W.cell? ⟨fb, fo + 5, none⟩ = some sv) (hrow : ∀ r W, J r W → RowIs n 2 32 WiAt W sv ds) :
    CallsIn Fence.wide 0 Try.prog 39 (#[.func (.yield l) #[] #[]] ++ #[.pointer (some ⟨bf, 0, none⟩), .pointer (some ⟨bd, 0, none⟩)]) W fun e W' =>
      (∃ v, e = .returned v) ∧ (J [] W' ∨ ∃ r, Jx r W') := by
  refine callsIn_of_wp Try.func39 rfl trivial ?_ rfl
  simp only [Try.ntmps39, List.size_toArray, List.length_cons, List.length_nil, Nat.reduceAdd, Nat.reduceSub, Array.replicate_succ, Array.replicate_zero, List.push_toArray, List.append_toArray, List.nil_append, List.cons_append]
  obtain ⟨c1, c2⟩ := hR _ _ h0
  obtain ⟨a, cap, rfl, hle, hcap, _⟩ := hrow _ _ h0
  replace hrow : ∀ r W, J r W → ∀ j (h : j < ds.length), ∃ b off, a = some ⟨b, off, none⟩ ∧ WiAt b (off + j * 2) W ds[j] := fun r W h j hj => by
    obtain ⟨a', cap', e, _, _, h4⟩ := hrow r W h
    obtain ⟨b, off, e', _, hx⟩ := h4 j hj
    cases e
    exact ⟨b, off, e', hx⟩
  gi_wp2
  clear c1 c2 hsv
  gi_loopw [5, 11] (fun _ i wr => ∃ k : Nat, k ≤ ds.length ∧ i = .int .i64 k ∧ J (viasOf (ds.drop k) d) wr) (fun _ i _ => ds.length - (intOf i).toNat)
  case atStart => exact ⟨0, Nat.zero_le _, rfl, h0⟩
  case round =>
    obtain ⟨k, hk, rfl, hJ⟩ := hrel
    clear h0
    by_cases hlt : k < ds.length
    · obtain ⟨b, off, rfl, c5, c6⟩ := hrow _ _ hJ k hlt
      have c2' : ∀ o, (wr.alloc o).cell? ⟨bd, 0, none⟩ = some (.string d) := fun o => (hR _ _ (hA _ _ o hJ)).2
      have hJ' := hA _ _ (.cells #[.string ds[k].dep, .string ds[k].via] 79) hJ
      have hstep := viasOf_drop ds d k hlt
      clear hR hrow
      by_cases hd : (ds[k].dep.toList == d.toList) = true
      · rw [if_pos hd] at hstep
        rw [hstep] at hJ'
        obtain ⟨fn, tmps, assign, body, hy, hRr⟩ := hY _ _ _ hJ'
        clear hY hA hJ hJ' hstep
        gi_wp2
        refine hRr.mono ?_
        rintro e W3 (⟨rfl, hJ3⟩ | ⟨rfl, hJx3⟩)
        · clear hy hRr c5 c6 c2' hd
          gi_wp2
          go_roundw
          case rel => exact ⟨k + 1, by omega, by simp, hJ3⟩
          case measure => simp [intOf]; omega
        · clear hy hRr c5 c6 c2' hd
          gi_wp2
          refine bodyPost_ret (results_none rfl _ _ _) rfl ?_
          exact ⟨⟨_, rfl⟩, .inr ⟨_, hJx3⟩⟩
      · rw [if_neg hd] at hstep
        rw [hstep] at hJ'
        have hd' : (ds[k].dep.toList == d.toList) = false := by simpa using hd
        clear hY hA hJ hstep hd
        gi_wp2
        go_roundw
        case rel => exact ⟨k + 1, by omega, by simp, hJ'⟩
        case measure => simp [intOf]; omega
    · gi_wp2
      go_end0
      refine ⟨⟨_, rfl⟩, .inl ?_⟩
      rw [List.drop_of_length_le (by omega)] at hJ
      exact hJ

set_option maxHeartbeats 400000 in
/-- 'f.vias(d)': two boxes, and the closure over them. -/
theorem vias_in (p : Value) (d : ByteArray) (w : World) (fb fo : Nat) (hp : p = .pointer (some ⟨fb, fo, none⟩)) :
    CallsIn Fence.wide 0 Try.prog 38 #[p, .string d] w fun e w' => e = .returned (.func (.func 39) #[] #[.pointer (some ⟨w.heap.size, 0, none⟩), .pointer (some ⟨w.heap.size + 1, 0, none⟩)]) ∧
      w' = (w.alloc (.cells #[p] 61)).alloc (.cells #[.string d] 9) := by
  subst hp
  refine callsIn_of_wp Try.func38 rfl trivial ?_ rfl
  simp only [Try.ntmps38, List.size_toArray, List.length_cons, List.length_nil, Nat.reduceAdd, Nat.reduceSub, Array.replicate_succ, Array.replicate_zero, List.push_toArray, List.append_toArray, List.nil_append, List.cons_append]
  gi_wp2
  go_ret
  exact ⟨rfl, rfl⟩
end Go.Proofs.Qxb6613755a
