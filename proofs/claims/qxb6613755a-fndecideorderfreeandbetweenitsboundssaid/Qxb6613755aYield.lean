/-
  The law for a range over a function, at the wide fence, where the iterator is met by a direct premise, and a call of a function value that is either a closure or a loop's yield. No text of the program is looked at here.
-/
import Derived.RangeFuncNested
import Derived.RangeFuncBound
import Derived.Shelf.Abstract
import Derived.WalkKit
namespace Go.Proofs.Qxb6613755a
open Go.RowKit Go.Shelf

theorem wide_depth : Fence.wide.depth = none := rfl
theorem wide_fn (f : FuncId) : Fence.wide.fn f := trivial

/-- At the wide fence the count of frames says nothing. -/
theorem callsIn_any {n m : Nat} {P : Program} {f : FuncId} {args : Array Value} {w : World} {R : Ending → World → Prop} (h : CallsIn Fence.wide n P f args w R) : CallsIn Fence.wide m P f args w R :=
  callsIn_wide.2 (callsIn_wide.1 h)
theorem roundIn_any {n m : Nat} {P : Program} {l : Nat} {f : FuncId} {tmps : Array Value} {assign body : Code} {w : World} {R : Ending → World → Prop}
    (h : RoundIn Fence.wide n P l f tmps assign body w R) : RoundIn Fence.wide m P l f tmps assign body w R :=
  ⟨h.1, fun c cs _ => h.2 c cs (room_wide _)⟩

/-- A call of the function value '.func fv #[] caps' at the arguments args, in the world W: it enters a function's body, or it is a loop's yield and asks for a round. -/
def YCall (P : Program) (fv : Fn) (caps args : Array Value) (W : World) (R : Ending → World → Prop) : Prop :=
  (∃ f, fv = .func f ∧ Enters P f ∧ CallsIn Fence.wide 0 P f (args ++ caps) W R) ∨ (∃ l, fv = .yield l ∧ YieldAt Fence.wide 0 P l args W R)

theorem YCall.mono {P : Program} {fv : Fn} {caps args : Array Value} {W : World} {R R' : Ending → World → Prop} (h : YCall P fv caps args W R) (hr : ∀ e w, R e w → R' e w) : YCall P fv caps args W R' := by
  rcases h with ⟨f, e, he, hc⟩ | ⟨l, e, hy⟩
  · exact .inl ⟨f, e, he, hc.mono hr⟩
  · exact .inr ⟨l, e, hy.mono hr⟩

/-- What stands behind a call in a list of operations. -/
def afterCall (F : Fence) (n : Nat) (P : Program) (ops : Array Oper) (Q : Exit → Act → World → Prop) (rest : List Oper) (a : Act) (dst : Option Tmp) : Ending → World → Prop
  | .returned v, w => wpListIn F n P ops Q rest (a.put dst v) w
  | _, _ => False

theorem run_call_value {P : Program} {ρ : Operand → Value} {o : Oper} {w : World} {g x : Operand} {tys : Array TypeId} (hop : o.op = .call { callee := .value g, args := #[x], argTypes := tys })
    {fv : Fn} {caps : Array Value} (hg : ρ g = .func fv #[] caps) : (execOp ρ o).run P w = (invoke (.fn fv caps) #[ρ x]).run P w := by
  simp [execOp, hop, resolve, hg, Deferred.ofValue]

/-- The operation 'y(x)' where y is such a value. -/
theorem wpListIn_ycall {F : Fence} {n : Nat} {P : Program} {ops : Array Oper} {rest : List Oper} {o : Oper} {a : Act} {w : World} {Q : Exit → Act → World → Prop}
    (hF : ∀ f, F.fn f) (hd : F.depth = none) (hwide : ∀ {f args w R}, CallsIn Fence.wide 0 P f args w R → CallsIn F (n - 1) P f args w R)
    (hwide2 : ∀ {l f tmps assign body w R}, RoundIn Fence.wide 0 P l f tmps assign body w R → RoundIn F (n - 1) P l f tmps assign body w R)
    (hwant : Region.wanted o (yielded ops a.tmps) = true)
    (g x : Operand) (tys : Array TypeId) (hop : o.op = .call { callee := .value g, args := #[x], argTypes := tys })
    (fv : Fn) (caps : Array Value) (hg : a.eval g = .func fv #[] caps)
    (h : YCall P fv caps #[a.eval x] w (afterCall F n P ops Q rest a o.dst)) :
    wpListIn F n P ops Q (o :: rest) a w := by
  have hsem : o.semAt F.round a.eval = execOp a.eval o := by
    cases hr : F.round with
    | none => rfl
    | some l => exact Oper.semAt_some l _ _ (by intro c hc; rw [hop] at hc; cases hc)
  refine wpListIn_step fun K hK => ?_
  rw [if_pos hwant]
  refine ⟨fun f _ => hF f, ?_⟩
  rw [hsem]
  rcases h with ⟨f, rfl, he, hc⟩ | ⟨l, rfl, fn, tmps, assign, body, hy, hR⟩
  · have hrun : (execOp a.eval o).run P w = .ok (.enter f (#[a.eval x] ++ caps)) w := by
      rw [run_call_value hop hg]
      exact he (#[a.eval x] ++ caps) w
    rw [hrun, Oper.uponIn_enter]
    refine ⟨by rw [hd]; simp, (hwide hc).mono ?_⟩
    rintro e w' he'
    cases e with
    | returned v => exact hK _ _ he'
    | panicked ch => exact he'.elim
    | outgrown => exact he'.elim
  · have hrun : (execOp a.eval o).run P w = .ok (.round l fn tmps assign body) w := by
      rw [run_call_value hop hg]
      exact hy
    rw [hrun, Oper.uponIn_round]
    refine ⟨by rw [hd]; simp, (hwide2 hR).mono ?_⟩
    rintro e w' he'
    cases e with
    | returned v => exact hK _ _ he'
    | panicked ch => exact he'.elim
    | outgrown => exact he'.elim

/-- How the body of a round may be left: the block for deferred calls and the loop's record lie as they lay; it goes on with what is left to come, or it leaves by a jump. -/
def roundPostW {α : Type} (D : Nat) (I : List α → World → Prop) (Ix : Code → List α → World → Prop) (r : List α) (W : World) : Exit → Act → World → Prop
  | .normal, _, W' => W'.heap[D]? = W.heap[D]? ∧ W'.heap[D + 1]? = W.heap[D + 1]? ∧ I r W'
  | .ret, _, W' => W'.heap[D]? = W.heap[D]? ∧ W'.heap[D + 1]? = W.heap[D + 1]? ∧ Ix .ret r W'
  | .exit id, _, W' => W'.heap[D]? = W.heap[D]? ∧ W'.heap[D + 1]? = W.heap[D + 1]? ∧ Ix (.exit id) r W'
  | .goto t, _, W' => W'.heap[D]? = W.heap[D]? ∧ W'.heap[D + 1]? = W.heap[D + 1]? ∧ Ix (.goto t) r W'
  | _, _, _ => False

/-- 'I' speaks neither of block D nor of block D + 1. -/
def Deaf {α : Type} (D : Nat) (I : List α → World → Prop) : Prop := ∀ r W o k, (k = D ∨ k = D + 1) → I r W → I r (W.putObj k o)

/-- **A RANGE OVER A FUNCTION, at the wide fence, in a plain frame**: xs is what the iterator gives; I r W: r is still to come. The iterator's premise (hiter) is its contract at whatever J that says I, the loop's record ready and the block for deferred calls. -/
theorem range_wide {α : Type} {P : Program} {g : Operand} {ps : Array Tmp} {assign body : Code} {Q : Exit → Act → World → Prop} {a : Act} {w : World} {gf : Nat} {lb : Array Value}
    (hg : a.eval g = .func (.func gf) #[] lb) (eg : Enters P gf) (encs : α → Array Value) (hps : ∀ x, (encs x).size = ps.size) (xs : List α)
    (I : List α → World → Prop) (Ix : Code → List α → World → Prop) (Ax : α → Act → World → Prop)
    (hI : Deaf w.heap.size I) (hIx : ∀ c, Deaf w.heap.size (Ix c)) (hAx : ∀ x a', Deaf (α := Unit) w.heap.size (fun _ W => Ax x a' W)) (hIa : ∀ r W o, I r W → I r (W.alloc o)) (h0 : ∀ o, I xs ((w.alloc (.deferred (some []))).alloc o))
    (hiter : ∀ (J Jx : List α → World → Prop), (∀ r W, J r W → I r W) → (∀ r W o, J r W → J r (W.alloc o)) →
      (∀ x r W, J (x :: r) W → YieldAt Fence.wide 0 P (w.heap.size + 1) (encs x) W fun e W' => (e = .returned (.bool true) ∧ J r W') ∨ (e = .returned (.bool false) ∧ Jx r W')) →
      ∀ W, J xs W → CallsIn Fence.wide 0 P gf (#[.func (.yield (w.heap.size + 1)) #[] #[]] ++ lb) W fun e W' => (∃ v, e = .returned v) ∧ (J [] W' ∨ ∃ r, Jx r W'))
    (hassign : ∀ (x : α) (r : List α) (W : World) (K : Act → World → Prop), I (x :: r) W → w.heap.size + 1 < W.heap.size →
      (∀ a' W', W'.heap[w.heap.size]? = W.heap[w.heap.size]? → W'.heap[w.heap.size + 1]? = W.heap[w.heap.size + 1]? → I (x :: r) W' → Ax x a' W' → K a' W') →
      assign.wpIn (Fence.wide.inRound (w.heap.size + 1)) 0 P (Exit.then K (fun _ _ _ => False)) { tmps := (ps.zip (encs x)).foldl (fun t (p, v) => t.setIfInBounds p v) a.tmps, defers := [] } W)
    (hbody : ∀ (x : α) (r : List α) (a' : Act) (W : World), I (x :: r) W → w.heap.size + 1 < W.heap.size → Ax x a' W → body.wpIn (Fence.wide.inRound (w.heap.size + 1)) 0 P (roundPostW w.heap.size I Ix r W) a' W)
    (hdone : ∀ (W : World), I [] W → W.heap[w.heap.size]? = some (.deferred (some [])) → Q .normal { a with defers := { target := .collected w.heap.size, args := #[] } :: a.defers } W)
    (hstop : ∀ (c : Code) (r : List α) (W : World), Ix c r W → W.heap[w.heap.size]? = some (.deferred (some [])) → c.wpIn Fence.wide 0 P Q { a with defers := { target := .collected w.heap.size, args := #[] } :: a.defers } W) :
    (Code.rangeFunc g ps assign body).wpIn Fence.wide 0 P Q a w := by
  refine wpIn_rangeFunc ?_
  intro fn hfn
  obtain ⟨D, hD⟩ : ∃ D, w.heap.size = D := ⟨_, rfl⟩
  obtain ⟨rec, hrec⟩ : ∃ rec : LoopState → Option Code → Loop, rec = fun st pe => { state := st, pending := pe, fn, tmps := a.tmps, params := ps, assign, body, defers := D } := ⟨_, rfl⟩
  rw [hD] at hI hIx hAx hiter hassign hbody hdone hstop
  have hW1s : ((w.alloc (.deferred (some []))).alloc (.loop (rec .ready none))).heap[D + 1]? = some (.loop (rec .ready none)) := by
    have := World.alloc_heap_new (w.alloc (.deferred (some []))) (.loop (rec .ready none)); rwa [World.size_alloc, hD] at this
  have hW1d : ((w.alloc (.deferred (some []))).alloc (.loop (rec .ready none))).heap[D]? = some (.deferred (some [])) := by
    rw [← hD]; exact (Below.heap_alloc _ _ _ (by simp)).trans (World.alloc_heap_new w _)
  have hI1 : I xs ((w.alloc (.deferred (some []))).alloc (.loop (rec .ready none))) := h0 _
  revert hW1s hW1d hI1
  generalize hW1 : (w.alloc (.deferred (some []))).alloc (.loop (rec .ready none)) = W1
  intro hL1 hK1 hI1
  refine ⟨D + 1, [{ target := .collected D, args := #[] }], W1, { target := .fn (.func gf) lb, args := #[.func (.yield (D + 1)) #[] #[]] }, W1, gf, #[.func (.yield (D + 1)) #[] #[]] ++ lb, W1, ?_, ?_, fun _ _ => trivial, ?_, fun h => (by cases h), ?_⟩
  · rw [← hW1, hrec, ← hD]; exact run_enterLoop_outer _ _ _ _ _
  · simp only [resolve, hg]
    simp [go_sem]
  · simp [invoke]; exact eg _ _
  · refine (callsIn_any (hiter (fun r W => I r W ∧ W.heap[D + 1]? = some (.loop (rec .ready none)) ∧ W.heap[D]? = some (.deferred (some [])))
      (fun r W => ∃ c, Ix c r W ∧ W.heap[D + 1]? = some (.loop (rec .done (some c))) ∧ W.heap[D]? = some (.deferred (some [])))
      (fun _ _ h => h.1)
      (fun r W o h => ⟨hIa _ _ _ h.1, (Below.heap_alloc W o _ (Array.getElem?_eq_some_iff.1 h.2.1).1).trans h.2.1, (Below.heap_alloc W o _ (Array.getElem?_eq_some_iff.1 h.2.2).1).trans h.2.2⟩)
      ?_ W1 ⟨hI1, hL1, hK1⟩)).mono ?_
    · -- one round
      rintro x r W ⟨hi, hl, hk⟩
      have hlt : D + 1 < W.heap.size := (Array.getElem?_eq_some_iff.1 hl).1
      have hy := run_yield (P := P) (args := encs x) hl (by rw [hrec]; exact hps x)
      rw [hrec] at hy
      refine ⟨fn, _, assign, body, hy, roundIn_of_wpIn hfn (hassign x r W _ hi hlt ?_)⟩
      clear hy
      intro a' Wa hda hla hia hax
      rw [hl] at hla
      rw [hk] at hda
      refine ⟨_, run_beginRound hla (by rw [hrec]), ?_⟩
      have hlta : D + 1 < Wa.heap.size := (Array.getElem?_eq_some_iff.1 hla).1
      have hl2 : (Wa.putObj (D + 1) (.loop { rec .ready none with state := .busy })).heap[D + 1]? = some (.loop { rec .ready none with state := .busy }) := World.putObj_heap_same hlta
      have hk2 : (Wa.putObj (D + 1) (.loop { rec .ready none with state := .busy })).heap[D]? = some (.deferred (some [])) := (World.putObj_heap_other (by omega)).trans hda
      refine wpIn_mono (hbody x r a' _ (hI _ _ _ _ (.inr rfl) hia) (by rw [World.putObj_size]; exact hlta) (hAx x a' [] _ _ _ (.inr rfl) hax)) ?_
      have fin : ∀ (jump : Option Code) (W3 : World), W3.heap[D]? = (Wa.putObj (D + 1) (.loop { rec .ready none with state := .busy })).heap[D]? → W3.heap[D + 1]? = (Wa.putObj (D + 1) (.loop { rec .ready none with state := .busy })).heap[D + 1]? →
          (Instr.endRound (D + 1) jump).run P W3 = .ok (.bool jump.isNone) (W3.putObj (D + 1) (.loop (rec (if jump.isNone then .ready else .done) jump))) ∧
          (W3.putObj (D + 1) (.loop (rec (if jump.isNone then .ready else .done) jump))).heap[D + 1]? = some (.loop (rec (if jump.isNone then .ready else .done) jump)) ∧
          (W3.putObj (D + 1) (.loop (rec (if jump.isNone then .ready else .done) jump))).heap[D]? = some (.deferred (some [])) := fun jump W3 h1 h2 => by
        rw [hl2] at h2
        rw [hk2] at h1
        have := run_endRound (P := P) jump h2
        rw [hrec] at this ⊢
        exact ⟨this, World.putObj_heap_same (Array.getElem?_eq_some_iff.1 h2).1, (World.putObj_heap_other (by omega)).trans h1⟩
      rintro e a3 W3 hp
      cases e with
      | normal =>
        obtain ⟨h1, h2, hi3⟩ := hp
        obtain ⟨hr, hl4, hk4⟩ := fin none W3 h1 h2
        exact ⟨_, _, hr, .inl ⟨rfl, hI _ _ _ _ (.inr rfl) hi3, hl4, hk4⟩⟩
      | ret =>
        obtain ⟨h1, h2, hi3⟩ := hp
        obtain ⟨hr, hl4, hk4⟩ := fin (some .ret) W3 h1 h2
        exact ⟨_, _, hr, .inr ⟨rfl, .ret, hIx _ _ _ _ _ (.inr rfl) hi3, hl4, hk4⟩⟩
      | exit id =>
        obtain ⟨h1, h2, hi3⟩ := hp
        obtain ⟨hr, hl4, hk4⟩ := fin (some (.exit id)) W3 h1 h2
        exact ⟨_, _, hr, .inr ⟨rfl, .exit id, hIx _ _ _ _ _ (.inr rfl) hi3, hl4, hk4⟩⟩
      | goto t =>
        obtain ⟨h1, h2, hi3⟩ := hp
        obtain ⟨hr, hl4, hk4⟩ := fin (some (.goto t)) W3 h1 h2
        exact ⟨_, _, hr, .inr ⟨rfl, .goto t, hIx _ _ _ _ _ (.inr rfl) hi3, hl4, hk4⟩⟩
      | panic ch => exact hp.elim
      | outgrown => exact hp.elim
    · rintro e W2 ⟨⟨v, rfl⟩, (⟨hi, hl, hk⟩ | ⟨r, c, hi, hl, hk⟩)⟩
      · exact ⟨none, _, by have := run_endLoop (P := P) hl (by rw [hrec]; simp); rw [hrec] at this; exact this, hdone _ (hI _ _ _ _ (.inr rfl) hi) ((World.putObj_heap_other (by omega)).trans hk)⟩
      · exact ⟨some c, _, by have := run_endLoop (P := P) hl (by rw [hrec]; simp); rw [hrec] at this; exact this, hstop c r _ (hIx _ _ _ _ _ (.inr rfl) hi) ((World.putObj_heap_other (by omega)).trans hk)⟩

/-- The marks that the loops of one call have left, block by block; each block still open. -/
def marks (Ds : List Nat) : List Deferred := Ds.map fun D => { target := .collected D, args := #[] }

/-- The blocks of the marks shut, one after the other. -/
def shutAll : List Nat → World → World
  | [], W => W
  | D :: Ds, W => shutAll Ds (W.putObj D (.deferred none))

theorem shutAll_other {Ds : List Nat} : ∀ {W : World} {k : Nat}, k ∉ Ds → (shutAll Ds W).heap[k]? = W.heap[k]? := by
  induction Ds with
  | nil => intro W k _; rfl
  | cons D Ds ih => intro W k hk; simp at hk; exact (ih hk.2).trans (World.putObj_heap_other hk.1)
theorem shutAll_size {Ds : List Nat} : ∀ {W : World}, (shutAll Ds W).heap.size = W.heap.size := by
  induction Ds with
  | nil => intro W; rfl
  | cons D Ds ih => intro W; exact ih.trans World.putObj_size
theorem shutAll_still {Ds : List Nat} : ∀ {W : World}, (shutAll Ds W).os = W.os ∧ (shutAll Ds W).tape = W.tape ∧ (shutAll Ds W).output = W.output := by
  induction Ds with
  | nil => intro W; exact ⟨rfl, rfl, rfl⟩
  | cons D Ds ih => intro W; exact ih

theorem leaves_marks {P : Program} {fn : Func} {tmps : Array Value} {R : Ending → World → Prop} : ∀ (Ds : List Nat) (W : World), Ds.Nodup → (∀ D ∈ Ds, W.heap[D]? = some (.deferred (some []))) →
    (∃ v, (results fn tmps).run P (shutAll Ds W) = .ok v (shutAll Ds W) ∧ R (.returned v) (shutAll Ds W)) → LeavesInM Fence.wide 0 P fn tmps R (marks Ds) .returning W := by
  intro Ds
  induction Ds with
  | nil => intro W _ _ h; exact h
  | cons D Ds ih =>
    intro W hn hd h
    have hD := hd D (by simp)
    obtain ⟨hnot, hn'⟩ := List.nodup_cons.1 hn
    refine ⟨by simp, .inl ⟨D, _, rfl, run_takeDeferred hD, ?_⟩⟩
    exact ih _ hn' (fun D' h' => (World.putObj_heap_other (fun e => hnot (by rw [← e]; exact h'))).trans (hd D' (by simp [h']))) h

/-! ### What a party of the call owns -/

/-- From W to W' nothing of what lay has turned but for blocks of G. -/
structure Fr (G : Nat → Prop) (W W' : World) : Prop where
  os : W'.os = W.os
  tape : W'.tape = W.tape
  output : W'.output = W.output
  size : W.heap.size ≤ W'.heap.size
  block : ∀ k, k < W.heap.size → ¬ G k → W'.heap[k]? = W.heap[k]?

theorem Fr.refl (G : Nat → Prop) (W : World) : Fr G W W := ⟨rfl, rfl, rfl, Nat.le_refl _, fun _ _ _ => rfl⟩
theorem Fr.trans {G₀ G : Nat → Prop} {w W W' : World} (h : Fr G₀ w W) (k : Fr G W W') (hG : ∀ k, G k → G₀ k ∨ w.heap.size ≤ k) : Fr G₀ w W' :=
  ⟨k.os.trans h.os, k.tape.trans h.tape, k.output.trans h.output, Nat.le_trans h.size k.size, fun i hi hn =>
    (k.block i (Nat.lt_of_lt_of_le hi h.size) (fun hg => (hG i hg).elim hn (fun hh => absurd hi (by omega)))).trans (h.block i hi hn)⟩
theorem Fr.below {G : Nat → Prop} {n : Nat} {W W' : World} (h : Fr G W W') (hG : ∀ k, G k → n ≤ k) (hn : n ≤ W.heap.size) : Below n W W' :=
  ⟨h.os, h.tape, h.output, h.size, fun k hk => h.block k (by omega) (fun hg => by have := hG k hg; omega)⟩
theorem Fr.of_grownBy {G : Nat → Prop} {W W' : World} {row : Option Nat} (h : W.grownBy W' row) (hr : ∀ k, row = some k → G k ∨ W.heap.size ≤ k) : Fr G W W' :=
  ⟨h.os, h.tape, h.output, h.size, fun k hk hn => h.block k hk (fun e => (hr k e.symm).elim hn (fun hh => by omega))⟩
theorem Fr.mono {G G' : Nat → Prop} {W W' : World} (h : Fr G W W') (hG : ∀ k, G k → G' k) : Fr G' W W' := ⟨h.os, h.tape, h.output, h.size, fun k hk hn => h.block k hk (fun hg => hn (hG k hg))⟩

/-- J speaks of the blocks of G alone, and these lie. -/
def Framed {β : Type} (J : (Nat → Prop) → β → World → Prop) : Prop :=
  (∀ G r W W', J G r W → W.heap.size ≤ W'.heap.size → (∀ k, G k → W'.heap[k]? = W.heap[k]?) → J G r W') ∧ (∀ G r W k, J G r W → G k → k < W.heap.size)

/-- What a call that hands on the rounds promises: asked for more, or not. -/
def YPost {α : Type} (J Jx : (Nat → Prop) → List α → World → Prop) (G : Nat → Prop) (W : World) (r : List α) (e : Ending) (W' : World) : Prop :=
  ∃ G', (∀ k, G' k → G k ∨ W.heap.size ≤ k) ∧ Fr G W W' ∧ ((e = .returned (.bool true) ∧ J G' r W') ∨ (e = .returned (.bool false) ∧ ∃ r', Jx G' r' W'))

/-- The yielder's state, beside blocks of one's own (L; 'none': whatever it holds), since the world w where the yielder owned G₀. -/
def Sp {β : Type} (J : (Nat → Prop) → β → World → Prop) (w : World) (G₀ : Nat → Prop) (L : List (Nat × Option Obj)) (r : β) (W : World) : Prop :=
  ∃ G, J G r W ∧ (∀ k, G k → G₀ k ∨ w.heap.size ≤ k) ∧ Fr G₀ w W ∧ ∀ p ∈ L, w.heap.size ≤ p.1 ∧ p.1 < W.heap.size ∧ ¬ G p.1 ∧ ∀ o, p.2 = some o → W.heap[p.1]? = some o

section
variable {β : Type} {J : (Nat → Prop) → β → World → Prop} {w W W' : World} {G₀ : Nat → Prop} {L L' : List (Nat × Option Obj)} {r : β}

theorem Sp.start {G : Nat → Prop} (h : J G r W) : Sp J W G [] r W := ⟨G, h, fun _ h => .inl h, Fr.refl _ _, fun _ h => by cases h⟩
theorem Sp.fr (h : Sp J w G₀ L r W) : Fr G₀ w W := let ⟨_, _, _, h, _⟩ := h; h
theorem Sp.weaken (h : Sp J w G₀ L r W) (hL : ∀ p ∈ L', p ∈ L) : Sp J w G₀ L' r W := let ⟨G, a, b, c, d⟩ := h; ⟨G, a, b, c, fun p hp => d p (hL p hp)⟩
theorem Sp.lt (h : Sp J w G₀ L r W) {b : Nat} {x : Option Obj} (hb : (b, x) ∈ L) : w.heap.size ≤ b ∧ b < W.heap.size := let ⟨_, _, _, _, d⟩ := h; ⟨(d _ hb).1, (d _ hb).2.1⟩
theorem Sp.heap (h : Sp J w G₀ L r W) {b : Nat} {o : Obj} (hb : (b, some o) ∈ L) : W.heap[b]? = some o := let ⟨_, _, _, _, d⟩ := h; (d _ hb).2.2.2 o rfl
theorem Sp.forget {b : Nat} {o : Obj} (h : Sp J w G₀ ((b, some o) :: L) r W) : Sp J w G₀ ((b, none) :: L) r W := by
  obtain ⟨G, a, b', c, d⟩ := h
  refine ⟨G, a, b', c, fun p hp => ?_⟩
  rcases List.mem_cons.1 hp with rfl | hp
  · have := d (b, some o) (by simp)
    exact ⟨this.1, this.2.1, this.2.2.1, fun _ e => by cases e⟩
  · exact d p (by simp [hp])
theorem Sp.know {b : Nat} {x : Option Obj} {o : Obj} (h : Sp J w G₀ ((b, x) :: L) r W) (ho : W.heap[b]? = some o) : Sp J w G₀ ((b, some o) :: L) r W := by
  obtain ⟨G, a, b', c, d⟩ := h
  refine ⟨G, a, b', c, fun p hp => ?_⟩
  rcases List.mem_cons.1 hp with rfl | hp
  · have := d (b, x) (by simp)
    exact ⟨this.1, this.2.1, this.2.2.1, fun _ e => by cases e; exact ho⟩
  · exact d p (by simp [hp])
theorem Sp.alloc (hJ : Framed J) (h : Sp J w G₀ L r W) (o : Obj) : Sp J w G₀ ((W.heap.size, some o) :: L) r (W.alloc o) := by
  obtain ⟨G, a, b, c, d⟩ := h
  refine ⟨G, hJ.1 G r W _ a (by simp) (fun k hk => Below.heap_alloc _ _ _ (hJ.2 G r W k a hk)), b, c.trans (Fr.of_grownBy (G := G) (World.grownBy_alloc W o none) (fun _ e => by cases e)) b, fun p hp => ?_⟩
  rcases List.mem_cons.1 hp with rfl | hp
  · exact ⟨c.size, by simp, fun hg => absurd (hJ.2 G r W _ a hg) (by simp), fun o' e => by cases e; exact World.alloc_heap_new W o⟩
  · have := d p hp
    exact ⟨this.1, by simp; omega, this.2.2.1, fun o' e => (Below.heap_alloc _ _ _ this.2.1).trans (this.2.2.2 o' e)⟩
/-- One block of one's own is turned. -/
theorem Sp.turn (hJ : Framed J) {b : Nat} {x : Option Obj} (h : Sp J w G₀ ((b, x) :: L) r W) (hne : ∀ p ∈ L, p.1 ≠ b) (hg : W.grownBy W' (some b)) (o : Obj) (ho : W'.heap[b]? = some o) : Sp J w G₀ ((b, some o) :: L) r W' := by
  obtain ⟨G, a, b', c, d⟩ := h
  have hb := d (b, x) (by simp)
  have hk : ∀ k, G k → W'.heap[k]? = W.heap[k]? := fun k hk => hg.block k (hJ.2 G r W k a hk) (fun e => hb.2.2.1 (by cases e; exact hk))
  refine ⟨G, hJ.1 G r W _ a hg.size hk, b', ?_, fun p hp => ?_⟩
  · refine ⟨hg.os.trans c.os, hg.tape.trans c.tape, hg.output.trans c.output, Nat.le_trans c.size hg.size, fun k hk1 hk2 => (hg.block k (Nat.lt_of_lt_of_le hk1 c.size) (fun e => ?_)).trans (c.block k hk1 hk2)⟩
    have h1 := hb.1
    simp at h1
    cases e
    omega
  · rcases List.mem_cons.1 hp with rfl | hp
    · exact ⟨hb.1, Nat.lt_of_lt_of_le hb.2.1 hg.size, hb.2.2.1, fun o' e => by cases e; exact ho⟩
    · have := d p (by simp [hp])
      exact ⟨this.1, Nat.lt_of_lt_of_le this.2.1 hg.size, this.2.2.1, fun o' e => (hg.block p.1 this.2.1 (fun e' => hne p hp (by cases e'; rfl))).trans (this.2.2.2 o' e)⟩
/-- The same, at whatever list. -/
theorem Sp.turnTo (hJ : Framed J) {b : Nat} {x : Option Obj} (h : Sp J w G₀ L r W) (hb : (b, x) ∈ L) (hg : W.grownBy W' (some b)) (hL : ∀ p ∈ L', (p ∈ L ∧ p.1 ≠ b) ∨ (p.1 = b ∧ ∀ o, p.2 = some o → W'.heap[b]? = some o)) : Sp J w G₀ L' r W' := by
  obtain ⟨G, a, b', c, d⟩ := h
  have hb := d (b, x) hb
  have hk : ∀ k, G k → W'.heap[k]? = W.heap[k]? := fun k hk => hg.block k (hJ.2 G r W k a hk) (fun e => hb.2.2.1 (by cases e; exact hk))
  refine ⟨G, hJ.1 G r W _ a hg.size hk, b', ?_, fun p hp => ?_⟩
  · refine ⟨hg.os.trans c.os, hg.tape.trans c.tape, hg.output.trans c.output, Nat.le_trans c.size hg.size, fun k hk1 hk2 => (hg.block k (Nat.lt_of_lt_of_le hk1 c.size) (fun e => ?_)).trans (c.block k hk1 hk2)⟩
    have h1 := hb.1
    simp at h1
    cases e
    omega
  · rcases hL p hp with ⟨hp, hne⟩ | ⟨hpe, ho⟩
    · have := d p hp
      exact ⟨this.1, Nat.lt_of_lt_of_le this.2.1 hg.size, this.2.2.1, fun o' e => (hg.block p.1 this.2.1 (fun e' => hne (by cases e'; rfl))).trans (this.2.2.2 o' e)⟩
    · rw [hpe]
      exact ⟨hb.1, Nat.lt_of_lt_of_le hb.2.1 hg.size, hb.2.2.1, ho⟩
/-- A block of one's own of which nothing is said. -/
theorem Sp.put (hJ : Framed J) {b : Nat} (h : Sp J w G₀ L r W) (hb : (b, none) ∈ L) (hne : ∀ p ∈ L, p.1 = b → p.2 = none) (o : Obj) : Sp J w G₀ L r (W.putObj b o) :=
  h.turnTo hJ hb (grownBy_putObj' W b o) fun p hp => by
    by_cases e : p.1 = b
    · exact .inr ⟨e, fun o' e' => by rw [hne p hp e] at e'; cases e'⟩
    · exact .inl ⟨hp, e⟩
theorem Sp.still (hJ : Framed J) (h : Sp J w G₀ L r W) (h1 : W'.heap = W.heap) (h2 : W'.os = W.os) (h3 : W'.tape = W.tape) (h4 : W'.output = W.output) : Sp J w G₀ L r W' := by
  obtain ⟨G, a, b, c, d⟩ := h
  exact ⟨G, hJ.1 G r W _ a (by rw [h1]; exact Nat.le_refl _) (fun _ _ => by rw [h1]), b, ⟨h2.trans c.os, h3.trans c.tape, h4.trans c.output, by rw [h1]; exact c.size, fun k hk hn => by rw [h1]; exact c.block k hk hn⟩, fun p hp => by rw [h1]; exact d p hp⟩
theorem Sp.drew (hJ : Framed J) (h : Sp J w G₀ L r W) : Sp J w G₀ L r W.drew := by
  obtain ⟨G, a, b, c, d⟩ := h
  exact ⟨G, hJ.1 G r W _ a (Nat.le_refl _) (fun _ _ => rfl), b, ⟨c.os, c.tape, c.output, c.size, c.block⟩, d⟩
end

/-- A call that hands on the rounds, beside blocks of one's own. -/
theorem Sp.postG {α : Type} {J Jx : (Nat → Prop) → List α → World → Prop} {w W : World} {G₀ : Nat → Prop} {L : List (Nat × Option Obj)} {q r : List α} {C : (Ending → World → Prop) → Prop} (hC : ∀ R R', C R → (∀ e w, R e w → R' e w) → C R')
    (hc : ∀ G, J G q W → (∀ k, G k → G₀ k ∨ w.heap.size ≤ k) → C (YPost J Jx G W r)) (h : Sp J w G₀ L q W) :
    C fun e W' => (∀ p ∈ L, W'.heap[p.1]? = W.heap[p.1]?) ∧ ((e = .returned (.bool true) ∧ Sp J w G₀ L r W') ∨ (e = .returned (.bool false) ∧ ∃ r', Sp Jx w G₀ L r' W')) := by
  obtain ⟨G, a, b, c, d⟩ := h
  refine hC _ _ (hc G a b) ?_
  rintro e W' ⟨G', hG', hF, hor⟩
  have hs : ∀ p ∈ L, W'.heap[p.1]? = W.heap[p.1]? := fun p hp => hF.block p.1 (d p hp).2.1 (d p hp).2.2.1
  have hb' : ∀ k, G' k → G₀ k ∨ w.heap.size ≤ k := fun k hk => (hG' k hk).elim (b k) (fun hh => .inr (Nat.le_trans c.size hh))
  have hc' : Fr G₀ w W' := c.trans hF b
  have hd' : ∀ p ∈ L, w.heap.size ≤ p.1 ∧ p.1 < W'.heap.size ∧ ¬ G' p.1 ∧ ∀ o, p.2 = some o → W'.heap[p.1]? = some o := fun p hp =>
    ⟨(d p hp).1, Nat.lt_of_lt_of_le (d p hp).2.1 hF.size, fun hg => (hG' _ hg).elim (d p hp).2.2.1 (fun hh => by have := (d p hp).2.1; omega), fun o e => (hs p hp).trans ((d p hp).2.2.2 o e)⟩
  refine ⟨hs, hor.elim (fun h => .inl ⟨h.1, G', h.2, hb', hc', hd'⟩) (fun h => .inr ⟨h.1, ?_⟩)⟩
  obtain ⟨r', hx⟩ := h.2
  exact ⟨r', G', hx, hb', hc', hd'⟩

theorem Sp.post {α : Type} {J Jx : (Nat → Prop) → List α → World → Prop} {w W : World} {G₀ : Nat → Prop} {L : List (Nat × Option Obj)} {q r : List α} {C : (Ending → World → Prop) → Prop} (hC : ∀ R R', C R → (∀ e w, R e w → R' e w) → C R')
    (hc : ∀ G, J G q W → C (YPost J Jx G W r)) (h : Sp J w G₀ L q W) :
    C fun e W' => (∀ p ∈ L, W'.heap[p.1]? = W.heap[p.1]?) ∧ ((e = .returned (.bool true) ∧ Sp J w G₀ L r W') ∨ (e = .returned (.bool false) ∧ ∃ r', Sp Jx w G₀ L r' W')) :=
  Sp.postG hC (fun G h _ => hc G h) h

theorem Sp.ypost_true {α : Type} {J Jx : (Nat → Prop) → List α → World → Prop} {W W' : World} {G : Nat → Prop} {L : List (Nat × Option Obj)} {r : List α} (h : Sp J W G L r W') : YPost J Jx G W r (.returned (.bool true)) W' := by
  obtain ⟨G', a, b, c, _⟩ := h
  exact ⟨G', b, c, .inl ⟨rfl, a⟩⟩
theorem Sp.ypost_false {α : Type} {J Jx : (Nat → Prop) → List α → World → Prop} {W W' : World} {G : Nat → Prop} {L : List (Nat × Option Obj)} {r r' : List α} (h : Sp Jx W G L r' W') : YPost J Jx G W r (.returned (.bool false)) W' := by
  obtain ⟨G', a, b, c, _⟩ := h
  exact ⟨G', b, c, .inr ⟨rfl, r', a⟩⟩

theorem grownBy_setCell (W : World) (a : Addr) (v : Value) : W.grownBy (W.setCell a v) (some a.block) :=
  ⟨rfl, rfl, rfl, (KeepsWalks.setCell W _ v).size, fun k _ hk => Below.heap_setCell _ _ _ k (fun e => hk (by rw [e]))⟩
theorem heap_setCell_at {W : World} {b o : Nat} {cs : Array Value} {t : TypeId} {m : Nat × Nat} (v : Value) (h : W.heap[b]? = some (.cells cs t m)) : (W.setCell ⟨b, o, none⟩ v).heap[b]? = some (.cells (cs.setIfInBounds o v) t m) := by
  obtain ⟨hlt, hk⟩ := Array.getElem?_eq_some_iff.1 h
  show (W.heap.modify b _)[b]? = _
  rw [Array.getElem?_eq_getElem (by rw [Array.size_modify]; exact hlt), Array.getElem_modify_self, hk]
  rfl
theorem cell_at {W : World} {b o : Nat} {cs : Array Value} {t : TypeId} {m : Nat × Nat} (h : W.heap[b]? = some (.cells cs t m)) : W.cell? ⟨b, o, none⟩ = cs[o]? := by simp [World.cell?, h]
theorem frozen_at {W : World} {b o : Nat} {cs : Array Value} {t : TypeId} (h : W.heap[b]? = some (.cells cs t (0, 0))) : W.frozen? ⟨b, o, none⟩ = false := by simp [World.frozen?, h]
theorem heap_drew (W : World) : W.drew.heap = W.heap := rfl

end Go.Proofs.Qxb6613755a
