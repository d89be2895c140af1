/-
  What statements 4 and 5 share: the arguments in memory, a row cut in two, the facts in a block of their own.
-/
import Derived.Test.Qxb6613755aFacts
import Derived.Test.Qxb6613755aAdmins
namespace Go.Proofs.Qxb6613755a
open Go.RowKit Go.Shelf
set_option linter.unusedVariables false
set_option linter.unusedSimpArgs false

/-- The arguments lie in memory. -/
def InpD (f : Fa) (dv kv : Value) (w : World) : Prop := RowIs w.heap.size 2 0 WiAt w dv f.deps ∧ RowIs w.heap.size 6 0 (ZkAt w.heap.size) w kv f.kbs
theorem InpD.mono {f : Fa} {dv kv : Value} {w w' : World} (h : InpD f dv kv w) (hb : Below w.heap.size w w') : InpD f dv kv w' :=
  ⟨h.1.mono' hb.size fun _ _ _ hb' => WiAt.below hb hb', h.2.mono' hb.size fun _ _ _ hb' h => ZkAt.mono hb.size hb hb' h⟩
theorem below_twice {w w1 w2 : World} (h : Below w.heap.size w w1) (k : Below w1.heap.size w1 w2) : Below w.heap.size w w2 := h.trans (k.mono h.size)

theorem RowIs.firstN {α : Type} {n sz : Nat} {At : Nat → Nat → World → α → Prop} {W : World} {a : Option Addr} {l cap : Nat} {xs : List α} (h : RowIs n sz 0 At W (.slice a l cap) xs) (m : Nat) (hm : m ≤ xs.length) : RowIs n sz 0 At W (.slice a m cap) (xs.take m) := by
  obtain ⟨a', cap', e, h2, h3, h4⟩ := h
  cases e
  have hl : (xs.take m).length = m := by simp; omega
  refine ⟨_, _, by rw [hl], by omega, by omega, fun j hj => ?_⟩
  obtain ⟨b, off, e, hb, hx⟩ := h4 j (by omega)
  exact ⟨b, off, e, hb, by rw [List.getElem_take]; exact hx⟩
theorem RowIs.fromN {α : Type} {n sz : Nat} {At : Nat → Nat → World → α → Prop} {W : World} {a : Option Addr} {l cap : Nat} {xs : List α} (h : RowIs n sz 0 At W (.slice a l cap) xs) (m cap' : Nat) (a' : Option Addr) (hm : m ≤ xs.length) (hc : xs.length - m ≤ cap')
    (ha : m < xs.length → ∀ b off, a = some ⟨b, off, none⟩ → a' = some ⟨b, off + m * sz, none⟩) : RowIs n sz 0 At W (.slice a' (xs.length - m) cap') (xs.drop m) := by
  obtain ⟨a0, cap0, e, h2, h3, h4⟩ := h
  cases e
  refine ⟨_, _, by rw [List.length_drop], by rw [List.length_drop]; omega, by omega, fun j hj => ?_⟩
  rw [List.length_drop] at hj
  obtain ⟨b, off, e, hb, hx⟩ := h4 (m + j) (by omega)
  refine ⟨b, off + m * sz, ha (by omega) b off e, hb, ?_⟩
  rw [List.getElem_drop, Nat.add_assoc, ← Nat.add_mul]
  exact hx

theorem Small.firstN {ds : List Wi} {ks : List Kb} (h : Small ds ks) (m : Nat) : Small ds (ks.take m) := by
  obtain ⟨h1, h2, h3⟩ := h
  refine ⟨h1, by simp; omega, fun j hj => ?_⟩
  rw [List.getElem_take]
  exact h3 j (by simp at hj; omega)
theorem Small.fromN {ds : List Wi} {ks : List Kb} (h : Small ds ks) (m : Nat) : Small ds (ks.drop m) := by
  obtain ⟨h1, h2, h3⟩ := h
  refine ⟨h1, by simp; omega, fun j hj => ?_⟩
  rw [List.getElem_drop]
  exact h3 (m + j) (by simp at hj; omega)

/-- The facts' own block. -/
def faObj (f : Fa) (dv kv : Value) : Obj := .cells #[.bool f.known, .bool f.su, .bool f.dis, .int .i8 f.role, .string f.rt, dv, kv] 36
def FaLies (f : Fa) (dv kv : Value) (b : Nat) (W : World) : Prop := W.heap[b]? = some (faObj f dv kv) ∧ RowIs W.heap.size 2 32 WiAt W dv f.deps ∧ RowIs W.heap.size 6 64 (KbAt W.heap.size) W kv f.kbs
theorem FaLies.laid {f : Fa} {dv kv : Value} {W : World} (hd : RowIs W.heap.size 2 32 WiAt W dv f.deps) (hk : RowIs W.heap.size 6 64 (KbAt W.heap.size) W kv f.kbs) : FaLies f dv kv W.heap.size (W.alloc (faObj f dv kv)) := by
  have hb : Below W.heap.size W (W.alloc (faObj f dv kv)) := (Below.refl _ W).alloc (Nat.le_refl _) _
  exact ⟨World.alloc_heap_new _ _, hd.mono hb.size fun _ _ _ hb' => WiAt.below hb hb', hk.mono hb.size fun _ _ _ hb' => KbAt.mono hb.size hb hb'⟩
theorem FaLies.mono {f : Fa} {dv kv : Value} {b : Nat} {W W' : World} (h : FaLies f dv kv b W) (hb : Below W.heap.size W W') : FaLies f dv kv b W' := by
  obtain ⟨h1, h2, h3⟩ := h
  exact ⟨(hb.block b (Array.getElem?_eq_some_iff.1 h1).1).trans h1, h2.mono hb.size fun _ _ _ hb' => WiAt.below hb hb', h3.mono hb.size fun _ _ _ hb' => KbAt.mono hb.size hb hb'⟩
theorem FaLies.decide {f : Fa} {dv kv : Value} {b : Nat} {W : World} (h : FaLies f dv kv b W) :
    Calls Try.prog 9 #[.agg #[.bool f.known, .bool f.su, .bool f.dis, .int .i8 f.role, .string f.rt, dv, kv]] W fun e w' => e = .returned (.int .i8 (level f)) ∧ Below W.heap.size W w' := decide_c f dv kv W h.2.1 h.2.2
end Go.Proofs.Qxb6613755a
