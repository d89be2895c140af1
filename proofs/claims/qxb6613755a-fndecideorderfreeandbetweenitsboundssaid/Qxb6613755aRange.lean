/-
  The law for a range over a function once more, where the rounds say from world to world what they keep.
-/
import Derived.Test.Qxb6613755aYield
namespace Go.Proofs.Qxb6613755a
open Go.RowKit Go.Shelf

/-- How the body of a round may be left, what it keeps said. -/
def roundPostK {α : Type} (D : Nat) (I : List α → World → Prop) (Ix : Code → List α → World → Prop) (Kp : World → World → Prop) (r : List α) (W : World) : Exit → Act → World → Prop
  | .normal, _, W' => W'.heap[D]? = W.heap[D]? ∧ W'.heap[D + 1]? = W.heap[D + 1]? ∧ Kp W W' ∧ I r W'
  | .ret, _, W' => W'.heap[D]? = W.heap[D]? ∧ W'.heap[D + 1]? = W.heap[D + 1]? ∧ Ix .ret r W'
  | .exit id, _, W' => W'.heap[D]? = W.heap[D]? ∧ W'.heap[D + 1]? = W.heap[D + 1]? ∧ Ix (.exit id) r W'
  | .goto t, _, W' => W'.heap[D]? = W.heap[D]? ∧ W'.heap[D + 1]? = W.heap[D + 1]? ∧ Ix (.goto t) r W'
  | _, _, _ => False

/-- **A RANGE OVER A FUNCTION, at the wide fence, in a plain frame**: xs is what the iterator gives; I r W: r is still to come. The iterator's premise (hiter) is its contract at whatever J that says I, the loop's record ready and the block for deferred calls. -/
theorem range_kept {α : Type} {P : Program} {g : Operand} {ps : Array Tmp} {assign body : Code} {Q : Exit → Act → World → Prop} {a : Act} {w : World} {gf : Nat} {lb : Array Value}
    (hg : a.eval g = .func (.func gf) #[] lb) (eg : Enters P gf) (encs : α → Array Value) (hps : ∀ x, (encs x).size = ps.size) (xs : List α)
    (I : List α → World → Prop) (Ix : Code → List α → World → Prop) (Ax : α → Act → World → Prop) (Kp : World → World → Prop) (hKt : ∀ A B C, Kp A B → Kp B C → Kp A C) (hKb : ∀ W o k, (k = w.heap.size ∨ k = w.heap.size + 1) → Kp W (W.putObj k o))
    (hI : Deaf w.heap.size I) (hIx : ∀ c, Deaf w.heap.size (Ix c)) (hAx : ∀ x a', Deaf (α := Unit) w.heap.size (fun _ W => Ax x a' W)) (h0 : ∀ o, I xs ((w.alloc (.deferred (some []))).alloc o))
    (hiter : ∀ (rdy : Obj) (dn : Code → Obj),
      (∀ x r W, I (x :: r) W → W.heap[w.heap.size + 1]? = some rdy → W.heap[w.heap.size]? = some (.deferred (some [])) → YieldAt Fence.wide 0 P (w.heap.size + 1) (encs x) W fun e W' =>
        (e = .returned (.bool true) ∧ I r W' ∧ W'.heap[w.heap.size + 1]? = some rdy ∧ W'.heap[w.heap.size]? = some (.deferred (some [])) ∧ Kp W W') ∨
        (e = .returned (.bool false) ∧ ∃ c, Ix c r W' ∧ W'.heap[w.heap.size + 1]? = some (dn c) ∧ W'.heap[w.heap.size]? = some (.deferred (some [])))) →
      ∀ W o, W = (w.alloc (.deferred (some []))).alloc o → I xs W → W.heap[w.heap.size + 1]? = some rdy → W.heap[w.heap.size]? = some (.deferred (some [])) → CallsIn Fence.wide 0 P gf (#[.func (.yield (w.heap.size + 1)) #[] #[]] ++ lb) W fun e W' => (∃ v, e = .returned v) ∧
        ((I [] W' ∧ W'.heap[w.heap.size + 1]? = some rdy ∧ W'.heap[w.heap.size]? = some (.deferred (some [])) ∧ Kp W W') ∨ ∃ r c, Ix c r W' ∧ W'.heap[w.heap.size + 1]? = some (dn c) ∧ W'.heap[w.heap.size]? = some (.deferred (some []))))
    (hassign : ∀ (x : α) (r : List α) (W : World) (K : Act → World → Prop), I (x :: r) W → w.heap.size + 1 < W.heap.size →
      (∀ a' W', W'.heap[w.heap.size]? = W.heap[w.heap.size]? → W'.heap[w.heap.size + 1]? = W.heap[w.heap.size + 1]? → I (x :: r) W' → Ax x a' W' → Kp W W' → K a' W') →
      assign.wpIn (Fence.wide.inRound (w.heap.size + 1)) 0 P (Exit.then K (fun _ _ _ => False)) { tmps := (ps.zip (encs x)).foldl (fun t (p, v) => t.setIfInBounds p v) a.tmps, defers := [] } W)
    (hbody : ∀ (x : α) (r : List α) (a' : Act) (W : World), I (x :: r) W → w.heap.size + 1 < W.heap.size → Ax x a' W → body.wpIn (Fence.wide.inRound (w.heap.size + 1)) 0 P (roundPostK w.heap.size I Ix Kp r W) a' W)
    (hdone : ∀ (o : Obj) (W : World), Kp ((w.alloc (.deferred (some []))).alloc o) W → I [] W → W.heap[w.heap.size]? = some (.deferred (some [])) → Q .normal { a with defers := { target := .collected w.heap.size, args := #[] } :: a.defers } W)
    (hstop : ∀ (c : Code) (r : List α) (W : World), Ix c r W → W.heap[w.heap.size]? = some (.deferred (some [])) → c.wpIn Fence.wide 0 P Q { a with defers := { target := .collected w.heap.size, args := #[] } :: a.defers } W) :
    (Code.rangeFunc g ps assign body).wpIn Fence.wide 0 P Q a w := by
  refine wpIn_rangeFunc ?_
  intro fn hfn
  obtain ⟨D, hD⟩ : ∃ D, w.heap.size = D := ⟨_, rfl⟩
  obtain ⟨rec, hrec⟩ : ∃ rec : LoopState → Option Code → Loop, rec = fun st pe => { state := st, pending := pe, fn, tmps := a.tmps, params := ps, assign, body, defers := D } := ⟨_, rfl⟩
  rw [hD] at hI hIx hAx hKb hiter hassign hbody hdone hstop
  have hW1s : ((w.alloc (.deferred (some []))).alloc (.loop (rec .ready none))).heap[D + 1]? = some (.loop (rec .ready none)) := by
    have := World.alloc_heap_new (w.alloc (.deferred (some []))) (.loop (rec .ready none)); rwa [World.size_alloc, hD] at this
  have hW1d : ((w.alloc (.deferred (some []))).alloc (.loop (rec .ready none))).heap[D]? = some (.deferred (some [])) := by
    rw [← hD]; exact (Below.heap_alloc _ _ _ (by simp)).trans (World.alloc_heap_new w _)
  have hI1 : I xs ((w.alloc (.deferred (some []))).alloc (.loop (rec .ready none))) := h0 _
  revert hW1s hW1d hI1
  generalize hW1 : (w.alloc (.deferred (some []))).alloc (.loop (rec .ready none)) = W1
  intro hL1 hK1 hI1
  refine ⟨D + 1, [{ target := .collected D, args := #[] }], W1, { target := .fn (.func gf) lb, args := #[.func (.yield (D + 1)) #[] #[]] }, W1, gf, #[.func (.yield (D + 1)) #[] #[]] ++ lb, W1, ?_, ?_, fun _ _ => trivial, ?_, fun h => (by cases h), ?_⟩
  · rw [← hW1, hrec, ← hD]; exact run_enterLoop_outer _ _ _ _ _
  · simp only [resolve, hg]
    simp [go_sem]
  · simp [invoke]; exact eg _ _
  · refine (callsIn_any (hiter (.loop (rec .ready none)) (fun c => .loop (rec .done (some c))) ?_ W1 _ hW1.symm hI1 hL1 hK1)).mono ?_
    · -- one round
      intro x r W hi hl hk
      have hlt : D + 1 < W.heap.size := (Array.getElem?_eq_some_iff.1 hl).1
      have hy := run_yield (P := P) (args := encs x) hl (by rw [hrec]; exact hps x)
      rw [hrec] at hy
      refine ⟨fn, _, assign, body, hy, roundIn_of_wpIn hfn (hassign x r W _ hi hlt ?_)⟩
      clear hy
      intro a' Wa hda hla hia hax hkpa
      rw [hl] at hla
      rw [hk] at hda
      refine ⟨_, run_beginRound hla (by rw [hrec]), ?_⟩
      have hlta : D + 1 < Wa.heap.size := (Array.getElem?_eq_some_iff.1 hla).1
      have hl2 : (Wa.putObj (D + 1) (.loop { rec .ready none with state := .busy })).heap[D + 1]? = some (.loop { rec .ready none with state := .busy }) := World.putObj_heap_same hlta
      have hk2 : (Wa.putObj (D + 1) (.loop { rec .ready none with state := .busy })).heap[D]? = some (.deferred (some [])) := (World.putObj_heap_other (by omega)).trans hda
      refine wpIn_mono (hbody x r a' _ (hI _ _ _ _ (.inr rfl) hia) (by rw [World.putObj_size]; exact hlta) (hAx x a' [] _ _ _ (.inr rfl) hax)) ?_
      have fin : ∀ (jump : Option Code) (W3 : World), W3.heap[D]? = (Wa.putObj (D + 1) (.loop { rec .ready none with state := .busy })).heap[D]? → W3.heap[D + 1]? = (Wa.putObj (D + 1) (.loop { rec .ready none with state := .busy })).heap[D + 1]? →
          (Instr.endRound (D + 1) jump).run P W3 = .ok (.bool jump.isNone) (W3.putObj (D + 1) (.loop (rec (if jump.isNone then .ready else .done) jump))) ∧
          (W3.putObj (D + 1) (.loop (rec (if jump.isNone then .ready else .done) jump))).heap[D + 1]? = some (.loop (rec (if jump.isNone then .ready else .done) jump)) ∧
          (W3.putObj (D + 1) (.loop (rec (if jump.isNone then .ready else .done) jump))).heap[D]? = some (.deferred (some [])) := fun jump W3 h1 h2 => by
        rw [hl2] at h2
        rw [hk2] at h1
        have := run_endRound (P := P) jump h2
        rw [hrec] at this ⊢
        exact ⟨this, World.putObj_heap_same (Array.getElem?_eq_some_iff.1 h2).1, (World.putObj_heap_other (by omega)).trans h1⟩
      rintro e a3 W3 hp
      cases e with
      | normal =>
        obtain ⟨h1, h2, hkp, hi3⟩ := hp
        obtain ⟨hr, hl4, hk4⟩ := fin none W3 h1 h2
        exact ⟨_, _, hr, .inl ⟨rfl, hI _ _ _ _ (.inr rfl) hi3, hl4, hk4, hKt _ _ _ (hKt _ _ _ (hKt _ _ _ hkpa (hKb _ _ _ (.inr rfl))) hkp) (hKb _ _ _ (.inr rfl))⟩⟩
      | ret =>
        obtain ⟨h1, h2, hi3⟩ := hp
        obtain ⟨hr, hl4, hk4⟩ := fin (some .ret) W3 h1 h2
        exact ⟨_, _, hr, .inr ⟨rfl, .ret, hIx _ _ _ _ _ (.inr rfl) hi3, hl4, hk4⟩⟩
      | exit id =>
        obtain ⟨h1, h2, hi3⟩ := hp
        obtain ⟨hr, hl4, hk4⟩ := fin (some (.exit id)) W3 h1 h2
        exact ⟨_, _, hr, .inr ⟨rfl, .exit id, hIx _ _ _ _ _ (.inr rfl) hi3, hl4, hk4⟩⟩
      | goto t =>
        obtain ⟨h1, h2, hi3⟩ := hp
        obtain ⟨hr, hl4, hk4⟩ := fin (some (.goto t)) W3 h1 h2
        exact ⟨_, _, hr, .inr ⟨rfl, .goto t, hIx _ _ _ _ _ (.inr rfl) hi3, hl4, hk4⟩⟩
      | panic ch => exact hp.elim
      | outgrown => exact hp.elim
    · rintro e W2 ⟨⟨v, rfl⟩, (⟨hi, hl, hk, hkp⟩ | ⟨r, c, hi, hl, hk⟩)⟩
      · exact ⟨none, _, by have := run_endLoop (P := P) hl (by rw [hrec]; simp); rw [hrec] at this; exact this, hdone (.loop (rec .ready none)) _ (by rw [hW1]; exact hKt _ _ _ hkp (hKb _ _ _ (.inr rfl))) (hI _ _ _ _ (.inr rfl) hi) ((World.putObj_heap_other (by omega)).trans hk)⟩
      · exact ⟨some c, _, by have := run_endLoop (P := P) hl (by rw [hrec]; simp); rw [hrec] at this; exact this, hstop c r _ (hIx _ _ _ _ _ (.inr rfl) hi) ((World.putObj_heap_other (by omega)).trans hk)⟩

end Go.Proofs.Qxb6613755a
