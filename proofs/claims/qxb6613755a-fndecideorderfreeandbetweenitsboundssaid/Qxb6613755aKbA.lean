/-
  Function 31, '(*Facts).kbSources', part by part: the creator's source; the general access.
-/
import Derived.Test.Qxb6613755aSlots
namespace Go.Proofs.Qxb6613755a
open Go.RowKit Go.Shelf
attribute [local go_sem] Oper.semAt_some wide_depth wide_fn
set_option linter.unusedVariables false
set_option linter.unusedSimpArgs false

abbrev emp : ByteArray := ⟨#[]⟩
def srcCreator : Src := ⟨2, 3, 0, emp, 0, emp, 0, emp, emp⟩
def srcGen (kb : Kb) (dep via : ByteArray) : Src := ⟨3, kb.lvl, 0, emp, kb.vis, dep, 0, emp, via⟩
def srcPerson (kb : Kb) : Src := ⟨4, kb.pg, 0, emp, 0, emp, 0, emp, emp⟩
def srcGrant (g : Gr) (via : ByteArray) : Src := ⟨4, g.lvl, 0, emp, 0, emp, 1, g.dep, via⟩
def creatorSrcs (kb : Kb) : List Src := if kb.creator = true then [srcCreator] else []
def genSrcs (deps : List Wi) (kb : Kb) : List Src :=
  if kb.vis = 2 then [srcGen kb emp emp] else if kb.vis = 1 then (viasOf deps kb.dep).map (srcGen kb kb.dep) else []
def personSrcs (kb : Kb) : List Src := if 0 < kb.pg then [srcPerson kb] else []
def grantSrcs (deps : List Wi) (gs : List Gr) : List Src := gs.flatMap fun g => (viasOf deps g.dep).map (srcGrant g)
def kbSrcs (deps : List Wi) (kb : Kb) : List Src := creatorSrcs kb ++ (genSrcs deps kb ++ (personSrcs kb ++ grantSrcs deps kb.grants))

/-- The blocks of one call of kbSources: the result's, the knowledge base's, yield's; the blocks for deferred calls that its loops have left. -/
def kbObj (kb : Kb) (gv : Value) : Obj := .cells #[.bool kb.creator, .int .i8 kb.vis, .int .i8 kb.lvl, .string kb.dep, .int .i8 kb.pg, gv] 32
def dsL (Ds : List Nat) : List (Nat × Option Obj) := Ds.map fun D => (D, some (.deferred (some [])))
def own3 (bk : Nat) (kb : Kb) (gv y : Value) (rv : Bool) (X : List (Nat × Option Obj)) (Ds : List Nat) : List (Nat × Option Obj) :=
  (bk + 2, some (.cells #[.bool rv] 4)) :: (bk, some (kbObj kb gv)) :: (bk + 1, some (.cells #[y] 84)) :: (X ++ dsL Ds)
def slots3 (fp : Value) (bk : Nat) : List (Nat × Value) := [(0, fp), (4, .pointer (some ⟨bk, 0, none⟩)), (5, .pointer (some ⟨bk + 1, 0, none⟩)), (6, .pointer (some ⟨bk + 2, 0, none⟩))]

theorem own3_mem {bk : Nat} {kb : Kb} {gv y : Value} {rv : Bool} {X : List (Nat × Option Obj)} {Ds : List Nat} {p : Nat × Option Obj} :
    p ∈ own3 bk kb gv y rv X Ds ↔ p = (bk + 2, some (.cells #[.bool rv] 4)) ∨ p = (bk, some (kbObj kb gv)) ∨ p = (bk + 1, some (.cells #[y] 84)) ∨ p ∈ X ∨ p ∈ dsL Ds := by simp [own3]
theorem mem_dsL {Ds : List Nat} {p : Nat × Option Obj} (h : p ∈ dsL Ds) : p.1 ∈ Ds := by
  simp [dsL] at h
  obtain ⟨D, hD, rfl⟩ := h
  exact hD

section
variable {J Jx : (Nat → Prop) → List Src → World → Prop} {w W : World} {G₀ : Nat → Prop} {bk : Nat} {kb : Kb} {gv y fp : Value} {rv : Bool} {X : List (Nat × Option Obj)} {Ds : List Nat} {r : List Src}

/-- What the loads of a part want. -/
theorem own3_cells (h : Sp J w G₀ (own3 bk kb gv y rv X Ds) r W) :
    W.cell? ⟨bk, 0, none⟩ = some (.bool kb.creator) ∧ W.cell? ⟨bk, 1, none⟩ = some (.int .i8 kb.vis) ∧ W.cell? ⟨bk, 2, none⟩ = some (.int .i8 kb.lvl) ∧ W.cell? ⟨bk, 3, none⟩ = some (.string kb.dep) ∧ W.cell? ⟨bk, 4, none⟩ = some (.int .i8 kb.pg) ∧ W.cell? ⟨bk, 5, none⟩ = some gv ∧
    W.cell? ⟨bk + 1, 0, none⟩ = some y ∧ W.cell? ⟨bk + 2, 0, none⟩ = some (.bool rv) ∧ W.frozen? ⟨bk + 2, 0, none⟩ = false := by
  have h1 := h.heap (b := bk) (o := kbObj kb gv) (by simp [own3])
  have h2 := h.heap (b := bk + 1) (o := .cells #[y] 84) (by simp [own3])
  have h3 := h.heap (b := bk + 2) (o := .cells #[.bool rv] 4) (by simp [own3])
  unfold kbObj at h1
  exact ⟨cell_at h1, cell_at h1, cell_at h1, cell_at h1, cell_at h1, cell_at h1, cell_at h2, cell_at h3, frozen_at h3⟩

/-- 'return false': the result's cell. -/
theorem own3_result (hJ : Framed J) (h : Sp J w G₀ (own3 bk kb gv y rv X Ds) r W) (hX : ∀ p ∈ X, bk + 2 < p.1) (hD : ∀ D ∈ Ds, bk + 2 < D) (b : Bool) : Sp J w G₀ (own3 bk kb gv y b X Ds) r (W.setCell ⟨bk + 2, 0, none⟩ (.bool b)) := by
  have h3 := h.heap (b := bk + 2) (o := .cells #[.bool rv] 4) (by simp [own3])
  refine Sp.turn hJ h (fun p hp => ?_) (grownBy_setCell W ⟨bk + 2, 0, none⟩ _) _ (heap_setCell_at _ h3)
  simp at hp
  rcases hp with rfl | rfl | hp | hp
  · simp
  · simp
  · have := hX p hp; omega
  · have := hD _ (mem_dsL hp); omega

end

set_option maxHeartbeats 1000000 in
theorem kb_part1 {J Jx : (Nat → Prop) → List Src → World → Prop} (hJ : Framed J) (hJx : Framed Jx) {fv : Fn} {caps : Array Value}
    (hc : ∀ G s r W, J G (s :: r) W → YCall Try.prog fv caps #[.agg s.cells] W (YPost J Jx G W r))
    {w W : World} {G₀ : Nat → Prop} {bk : Nat} {kb : Kb} {gv fp : Value} {Ds : List Nat} {r : List Src} (hD : ∀ D ∈ Ds, bk + 2 < D) {a : Act} (ha : Slots 92 (slots3 fp bk) (marks Ds) a)
    (h : Sp J w G₀ (own3 bk kb gv (.func fv #[] caps) false [] Ds) (creatorSrcs kb ++ r) W) (K : Act → World → Prop) (Q : Exit → Act → World → Prop)
    (hK : ∀ a' W', Slots 92 (slots3 fp bk) (marks Ds) a' → Sp J w G₀ (own3 bk kb gv (.func fv #[] caps) false [] Ds) r W' → K a' W')
    (hQ : ∀ a' W' r', Slots 92 (slots3 fp bk) (marks Ds) a' → Sp Jx w G₀ (own3 bk kb gv (.func fv #[] caps) false [] Ds) r' W' → Q .ret a' W') :
    (part1 (Try.f31.body.getD .skip)).wpIn Fence.wide 0 Try.prog (Exit.then K Q) a W := by
  obtain ⟨f, rfl⟩ := slotsKb ha
  obtain ⟨c0, c1, c2, c3, c4, c5, c6, c7, c8⟩ := own3_cells h
  dsimp only [part1, seqL, seqR, Try.f31, Option.getD]
  by_cases hcr : kb.creator = true
  · rw [hcr] at c0
    have h' : Sp J w G₀ (own3 bk kb gv (.func fv #[] caps) false [] Ds) (srcCreator :: r) W := by simpa [creatorSrcs, hcr] using h
    have hy := Sp.post (fun _ _ => YCall.mono) (fun G => hc G srcCreator r W) h'
    clear h hc h'
    gi_wp2_with (refine wpListIn_ycall (fun _ => trivial) rfl callsIn_any roundIn_any (by first | rfl | simp [go_sem]) _ _ _ rfl _ _ rfl ?_)
    refine hy.mono ?_
    clear hy c0 c1 c2 c3 c4 c5 c6 c7 c8
    rintro e W' ⟨_, ⟨rfl, h⟩ | ⟨rfl, r', h⟩⟩
    · simp only [afterCall]
      gi_wp2
      exact hK _ _ ⟨rfl, rfl, by simp [slots3]⟩ h
    · obtain ⟨d0, d1, d2, d3, d4, d5, d6, d7, d8⟩ := own3_cells h
      simp only [afterCall]
      gi_wp2
      exact hQ _ _ r' ⟨rfl, rfl, by simp [slots3]⟩ (own3_result hJx h (by simp) hD false)
  · have hcr' : kb.creator = false := by simpa using hcr
    rw [hcr'] at c0
    have h' : Sp J w G₀ (own3 bk kb gv (.func fv #[] caps) false [] Ds) r W := by simpa [creatorSrcs, hcr'] using h
    clear h hc
    gi_wp2
    exact hK _ _ ⟨rfl, rfl, by simp [slots3]⟩ h'

/-- The variable 'general'. -/
def genObj (kb : Kb) (dep via : ByteArray) : Obj := .cells (srcGen kb dep via).cells 74
def slots4 (fp : Value) (bk gb : Nat) : List (Nat × Value) := [(0, fp), (4, .pointer (some ⟨bk, 0, none⟩)), (5, .pointer (some ⟨bk + 1, 0, none⟩)), (6, .pointer (some ⟨bk + 2, 0, none⟩)), (7, .pointer (some ⟨gb, 0, none⟩))]

set_option maxHeartbeats 1000000 in
theorem kb_part3 {J : (Nat → Prop) → List Src → World → Prop} (hJ : Framed J)
    {w W : World} {G₀ : Nat → Prop} {bk : Nat} {kb : Kb} {gv y fp : Value} {Ds : List Nat} {r : List Src} {a : Act} (ha : Slots 92 (slots3 fp bk) (marks Ds) a)
    (h : Sp J w G₀ (own3 bk kb gv y false [] Ds) r W) (K : Act → World → Prop) (Q : Exit → Act → World → Prop)
    (hK : ∀ a' W' gb, bk + 2 < gb → Slots 92 (slots4 fp bk gb) (marks Ds) a' → Sp J w G₀ (own3 bk kb gv y false [(gb, some (genObj kb emp emp))] Ds) r W' → K a' W') :
    (part3 (Try.f31.body.getD .skip)).wpIn Fence.wide 0 Try.prog (Exit.then K Q) a W := by
  obtain ⟨f, rfl⟩ := slotsKb ha
  obtain ⟨c0, c1, c2, c3, c4, c5, c6, c7, c8⟩ := own3_cells h
  dsimp only [part3, seqL, seqR, Try.f31, Option.getD]
  have hlt := h.lt (b := bk + 2) (x := some (.cells #[.bool false] 4)) (by simp [own3])
  have h' := h.alloc hJ (genObj kb emp emp)
  clear h
  gi_wp2
  exact hK _ _ W.heap.size hlt.2 ⟨rfl, rfl, by simp [slots4]⟩ (h'.weaken (fun p hp => by rcases own3_mem.1 hp with rfl | rfl | rfl | hp | hp <;> simp_all [own3]))
end Go.Proofs.Qxb6613755a
