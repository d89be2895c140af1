/-
  Function 36, the closure of '(*Facts).sources': every source of the facts, handed to a loop's yield.
-/
import Derived.Test.Qxb6613755aKb
import Derived.Stop.RegionWithIn
namespace Go.Proofs.Qxb6613755a
open Go.RowKit Go.Shelf
attribute [local go_sem] Oper.semAt_some wide_depth wide_fn
set_option linter.unusedVariables false
set_option linter.unusedSimpArgs false

theorem slotsSr {a : Act} {ds : List Deferred} {v0 v1 : Value} (h : Slots 66 [(0, v0), (1, v1)] ds a) : ∃ f : Nat → Value, a = { tmps := List.toArray (v0 :: v1 :: f 2 :: f 3 :: f 4 :: f 5 :: f 6 :: f 7 :: f 8 :: f 9 :: f 10 :: f 11 :: f 12 :: f 13 :: f 14 :: f 15 :: f 16 :: f 17 :: f 18 :: f 19 :: f 20 :: f 21 :: f 22 :: f 23 :: f 24 :: f 25 :: f 26 :: f 27 :: f 28 :: f 29 :: f 30 :: f 31 :: f 32 :: f 33 :: f 34 :: f 35 :: f 36 :: f 37 :: f 38 :: f 39 :: f 40 :: f 41 :: f 42 :: f 43 :: f 44 :: f 45 :: f 46 :: f 47 :: f 48 :: f 49 :: f 50 :: f 51 :: f 52 :: f 53 :: f 54 :: f 55 :: f 56 :: f 57 :: f 58 :: f 59 :: f 60 :: f 61 :: f 62 :: f 63 :: f 64 :: f 65 :: []), defers := ds } := by
  obtain ⟨rfl, hn, hv⟩ := h
  obtain ⟨f, hf⟩ : ∃ f : Nat → Value, f = fun i => a.tmps.getD i undef := ⟨_, rfl⟩
  have ht := tabF_of a.tmps f (fun i hi => by simp [hf, hi])
  have he : ∀ i v, a.tmps[i]? = some v → f i = v := fun i v h => by simp [hf, h]
  clear hf
  rw [hn] at ht
  have e0 := he 0 v0 (hv (0, v0) (by simp))
  have e1 := he 1 v1 (hv (1, v1) (by simp))
  refine ⟨f, ?_⟩
  simp only [tabF, Nat.reduceAdd, e0, e1] at ht
  obtain ⟨t, ds⟩ := a
  simp only at ht
  subst ht
  rfl

theorem slotsSrL {a : Act} {ds : List Deferred} {v0 v1 v54 v55 v56 : Value} (h : Slots 66 [(0, v0), (1, v1), (54, v54), (55, v55), (56, v56)] ds a) : ∃ f : Nat → Value, a = { tmps := List.toArray (v0 :: v1 :: f 2 :: f 3 :: f 4 :: f 5 :: f 6 :: f 7 :: f 8 :: f 9 :: f 10 :: f 11 :: f 12 :: f 13 :: f 14 :: f 15 :: f 16 :: f 17 :: f 18 :: f 19 :: f 20 :: f 21 :: f 22 :: f 23 :: f 24 :: f 25 :: f 26 :: f 27 :: f 28 :: f 29 :: f 30 :: f 31 :: f 32 :: f 33 :: f 34 :: f 35 :: f 36 :: f 37 :: f 38 :: f 39 :: f 40 :: f 41 :: f 42 :: f 43 :: f 44 :: f 45 :: f 46 :: f 47 :: f 48 :: f 49 :: f 50 :: f 51 :: f 52 :: f 53 :: v54 :: v55 :: v56 :: f 57 :: f 58 :: f 59 :: f 60 :: f 61 :: f 62 :: f 63 :: f 64 :: f 65 :: []), defers := ds } := by
  obtain ⟨rfl, hn, hv⟩ := h
  obtain ⟨f, hf⟩ : ∃ f : Nat → Value, f = fun i => a.tmps.getD i undef := ⟨_, rfl⟩
  have ht := tabF_of a.tmps f (fun i hi => by simp [hf, hi])
  have he : ∀ i v, a.tmps[i]? = some v → f i = v := fun i v h => by simp [hf, h]
  clear hf
  rw [hn] at ht
  have e0 := he 0 v0 (hv (0, v0) (by simp))
  have e1 := he 1 v1 (hv (1, v1) (by simp))
  have e54 := he 54 v54 (hv (54, v54) (by simp))
  have e55 := he 55 v55 (hv (55, v55) (by simp))
  have e56 := he 56 v56 (hv (56, v56) (by simp))
  refine ⟨f, ?_⟩
  simp only [tabF, Nat.reduceAdd, e0, e1, e54, e55, e56] at ht
  obtain ⟨t, ds⟩ := a
  simp only at ht
  subst ht
  rfl

def auth (f : Fa) : Int := if f.dis = true then 0 else if f.su = true then 4 else if 2 ≤ f.role then f.role else 0
def srcSuper : Src := ⟨0, 3, 0, emp, 0, emp, 0, emp, emp⟩
def srcRole (f : Fa) : Src := ⟨1, 3, f.role, f.rt, 0, emp, 0, emp, emp⟩
def superSrcs (f : Fa) : List Src := if f.su = true then [srcSuper] else []
def roleSrcs (f : Fa) : List Src := if 3 ≤ f.role then [srcRole f] else []
def kbsSrcs (deps : List Wi) (kbs : List Kb) : List Src := kbs.flatMap (kbSrcs deps)
def srcs (f : Fa) : List Src := if f.known = true ∧ auth f ≠ 0 then superSrcs f ++ (roleSrcs f ++ kbsSrcs f.deps f.kbs) else []

set_option maxHeartbeats 400000 in
/-- 'r.Active()' -/
theorem active_in (x : Int) (w : World) : CallsIn Fence.wide 0 Try.prog 10 #[.int .i8 x] w fun e w' => e = .returned (.bool (decide (2 ≤ x))) ∧ w' = w := by
  refine callsIn_of_wp Try.func10 rfl trivial ?_ rfl
  simp only [Try.ntmps10, List.size_toArray, List.length_cons, List.length_nil, Nat.reduceAdd, Nat.reduceSub, Array.replicate_succ, Array.replicate_zero, List.push_toArray, List.append_toArray, List.nil_append, List.cons_append]
  gi_wp2
  go_ret
  exact ⟨rfl, rfl⟩

set_option maxHeartbeats 400000 in
/-- 's.authority()' -/
theorem authority_in (f : Fa) (w : World) : CallsIn Fence.wide 0 Try.prog 37 #[.agg #[.bool f.su, .bool f.dis, .int .i8 f.role, .string f.rt]] w fun e w' => e = .returned (.int .i8 (auth f)) ∧ w' = w.alloc (.cells #[.bool f.su, .bool f.dis, .int .i8 f.role, .string f.rt] 26) := by
  refine callsIn_of_wp Try.func37 rfl trivial ?_ rfl
  simp only [Try.ntmps37, List.size_toArray, List.length_cons, List.length_nil, Nat.reduceAdd, Nat.reduceSub, Array.replicate_succ, Array.replicate_zero, List.push_toArray, List.append_toArray, List.nil_append, List.cons_append]
  by_cases hd : f.dis = true
  · simp only [auth, hd, if_true]
    gi_wp2
    go_ret
    exact ⟨rfl, rfl⟩
  · have hd' : f.dis = false := by simpa using hd
    by_cases hs : f.su = true
    · have ha : auth f = 4 := by simp [auth, hd', hs]
      rw [ha, hd', hs]
      gi_wp2
      go_ret
      exact ⟨rfl, rfl⟩
    · have hs' : f.su = false := by simpa using hs
      by_cases hr : 2 ≤ f.role
      · have ha : auth f = f.role := by simp [auth, hd', hs', hr]
        have hdc : decide (2 ≤ f.role) = true := by simpa using hr
        rw [ha, hd', hs']
        clear hd hs hd' hs' ha
        gi_wp2_with (gi_at_call 10; refine (active_in _ _).mono ?_; rintro e w' ⟨rfl, rfl⟩)
        go_ret
        exact ⟨rfl, rfl⟩
      · have ha : auth f = 0 := by simp [auth, hd', hs', hr]
        have hdc : decide (2 ≤ f.role) = false := by simpa using hr
        rw [ha, hd', hs']
        clear hd hs hd' hs' ha
        gi_wp2_with (gi_at_call 10; refine (active_in _ _).mono ?_; rintro e w' ⟨rfl, rfl⟩)
        go_ret
        exact ⟨rfl, rfl⟩

def srcA (c : Code) : Code := seqL c
def srcB (c : Code) : Code := seqL (seqR c)
def srcC (c : Code) : Code := seqL (seqR (seqR c))
def srcD (c : Code) : Code := seqR (seqR (seqR c))
theorem code36_parts : Try.f36.body = some (.seq (srcA (Try.f36.body.getD .skip)) (.seq (srcB (Try.f36.body.getD .skip)) (.seq (srcC (Try.f36.body.getD .skip)) (srcD (Try.f36.body.getD .skip))))) := rfl

/-- What the closure reads: its box, and the facts behind it. -/
structure Reads (n bf fb fo : Nat) (f : Fa) (w : World) (G₀ : Nat → Prop) : Prop where
  hn : n ≤ w.heap.size
  hG : ∀ k, G₀ k → n ≤ k
  fa : FaAt n fb fo w f
  box : w.heap[bf]? = some (.cells #[.pointer (some ⟨fb, fo, none⟩)] 61)
  out : ¬ G₀ bf

theorem Reads.now {β : Type} {J : (Nat → Prop) → β → World → Prop} {n bf fb fo : Nat} {f : Fa} {w W : World} {G₀ : Nat → Prop} {L : List (Nat × Option Obj)} {r : β} (h : Reads n bf fb fo f w G₀) (hs : Sp J w G₀ L r W) :
    FaAt n fb fo W f ∧ W.cell? ⟨bf, 0, none⟩ = some (.pointer (some ⟨fb, fo, none⟩)) :=
  ⟨h.fa.below (hs.fr.below h.hG h.hn), cell_at ((hs.fr.block bf (Array.getElem?_eq_some_iff.1 h.box).1 h.out).trans h.box)⟩

def slots2 (y : Value) (bf : Nat) : List (Nat × Value) := [(0, y), (1, .pointer (some ⟨bf, 0, none⟩))]

set_option maxHeartbeats 1000000 in
/-- 'if !f.Known || f.authority() == NoRole { return }' -/
theorem src_partA {J : (Nat → Prop) → List Src → World → Prop} (hJ : Framed J) {y : Value} {n bf fb fo : Nat} {f : Fa} {w W : World} {G₀ : Nat → Prop} (hR : Reads n bf fb fo f w G₀)
    {a : Act} (ha : Slots 66 (slots2 y bf) [] a) (h : Sp J w G₀ [] (srcs f) W) (K : Act → World → Prop) (Q : Exit → Act → World → Prop)
    (hK : ∀ a' W', Slots 66 (slots2 y bf) [] a' → Sp J w G₀ [] (superSrcs f ++ (roleSrcs f ++ kbsSrcs f.deps f.kbs)) W' → K a' W')
    (hQ : ∀ a' W', Slots 66 [] [] a' → Sp J w G₀ [] [] W' → Q .ret a' W') :
    (srcA (Try.f36.body.getD .skip)).wpIn Fence.wide 0 Try.prog (Exit.then K Q) a W := by
  obtain ⟨u, rfl⟩ := slotsSr ha
  obtain ⟨⟨hb, k1, k2, k3, k4, k5, ⟨sv, k6, k7⟩, sv', k8, k9⟩, hbox⟩ := hR.now h
  dsimp only [srcA, seqL, Try.f36, Option.getD]
  clear k6 k7 k8 k9
  by_cases hkn : f.known = true
  · rw [hkn] at k1
    have h' := (h.alloc hJ (.cells #[.bool f.su, .bool f.dis, .int .i8 f.role, .string f.rt] 26)).weaken (L' := []) (fun p hp => by cases hp)
    clear h
    by_cases hau : auth f = 0
    · rw [show srcs f = [] by simp [srcs, hau]] at h'
      gi_wp2_with (gi_at_call 37; refine (authority_in f _).mono ?_; rintro e w' ⟨rfl, rfl⟩)
      exact hQ _ _ ⟨rfl, rfl, by simp⟩ h'
    · rw [show srcs f = superSrcs f ++ (roleSrcs f ++ kbsSrcs f.deps f.kbs) by simp [srcs, hau, hkn]] at h'
      have hau' : (auth f == 0) = false := by simpa using hau
      gi_wp2_with (gi_at_call 37; refine (authority_in f _).mono ?_; rintro e w' ⟨rfl, rfl⟩)
      exact hK _ _ ⟨rfl, rfl, by simp [slots2]⟩ h'
  · have hkn' : f.known = false := by simpa using hkn
    rw [hkn'] at k1
    rw [show srcs f = [] by simp [srcs, hkn']] at h
    clear k2 k3 k4 k5
    gi_wp2
    exact hQ _ _ ⟨rfl, rfl, by simp⟩ h

set_option maxHeartbeats 1000000 in
/-- 'if f.Superuser && !yield(..) { return }' -/
theorem src_partB {J Jx : (Nat → Prop) → List Src → World → Prop} {fv : Fn} {caps : Array Value}
    (hc : ∀ G s r W, J G (s :: r) W → YCall Try.prog fv caps #[.agg s.cells] W (YPost J Jx G W r)) {n bf fb fo : Nat} {f : Fa} {w W : World} {G₀ : Nat → Prop} (hR : Reads n bf fb fo f w G₀) {r : List Src}
    {a : Act} (ha : Slots 66 (slots2 (.func fv #[] caps) bf) [] a) (h : Sp J w G₀ [] (superSrcs f ++ r) W) (K : Act → World → Prop) (Q : Exit → Act → World → Prop)
    (hK : ∀ a' W', Slots 66 (slots2 (.func fv #[] caps) bf) [] a' → Sp J w G₀ [] r W' → K a' W')
    (hQ : ∀ a' W' r', Slots 66 [] [] a' → Sp Jx w G₀ [] r' W' → Q .ret a' W') :
    (srcB (Try.f36.body.getD .skip)).wpIn Fence.wide 0 Try.prog (Exit.then K Q) a W := by
  obtain ⟨u, rfl⟩ := slotsSr ha
  obtain ⟨⟨hb, k1, k2, k3, k4, k5, ⟨sv, k6, k7⟩, sv', k8, k9⟩, hbox⟩ := hR.now h
  dsimp only [srcB, seqL, seqR, Try.f36, Option.getD]
  clear k6 k7 k8 k9
  by_cases hsu : f.su = true
  · rw [hsu] at k2
    rw [show superSrcs f ++ r = srcSuper :: r by simp [superSrcs, hsu]] at h
    have hy := Sp.post (fun _ _ => YCall.mono) (fun G => hc G srcSuper r W) h
    clear h hc
    gi_wp2_with (refine wpListIn_ycall (fun _ => trivial) rfl callsIn_any roundIn_any (by first | rfl | simp [go_sem]) _ _ _ rfl _ _ rfl ?_)
    refine hy.mono ?_
    clear hy k1 k2 k3 k4 k5
    rintro e W' ⟨_, ⟨rfl, h⟩ | ⟨rfl, r', h⟩⟩
    · simp only [afterCall]
      gi_wp2
      exact hK _ _ ⟨rfl, rfl, by simp [slots2]⟩ h
    · simp only [afterCall]
      gi_wp2
      exact hQ _ _ r' ⟨rfl, rfl, by simp⟩ h
  · have hsu' : f.su = false := by simpa using hsu
    rw [hsu'] at k2
    rw [show superSrcs f ++ r = r by simp [superSrcs, hsu']] at h
    clear hc
    gi_wp2
    exact hK _ _ ⟨rfl, rfl, by simp [slots2]⟩ h

set_option maxHeartbeats 2000000 in
/-- 'if f.Role >= Admin && !yield(..) { return }': its order is open. -/
theorem src_partC {J Jx : (Nat → Prop) → List Src → World → Prop} (hJ : Framed J) {l : Nat}
    (hc : ∀ G s r W, J G (s :: r) W → YCall Try.prog (.yield l) #[] #[.agg s.cells] W (YPost J Jx G W r)) {n bf fb fo : Nat} {f : Fa} {w W : World} {G₀ : Nat → Prop} (hR : Reads n bf fb fo f w G₀) {r : List Src}
    {a : Act} (ha : Slots 66 (slots2 (.func (.yield l) #[] #[]) bf) [] a) (h : Sp J w G₀ [] (roleSrcs f ++ r) W) (K : Act → World → Prop) (fnc : Func) (R : Ending → World → Prop)
    (hK : ∀ a' W', Slots 66 (slots2 (.func (.yield l) #[] #[]) bf) [] a' → Sp J w G₀ [] r W' → K a' W')
    (hQ : ∀ a' W' r', Slots 66 [] [] a' → Sp Jx w G₀ [] r' W' → bodyPost Try.prog fnc R .ret a' W') :
    (srcC (Try.f36.body.getD .skip)).wpIn Fence.wide 0 Try.prog (Exit.then K (bodyPost Try.prog fnc R)) a W := by
  obtain ⟨u, rfl⟩ := slotsSr ha
  obtain ⟨⟨hb, k1, k2, k3, k4, k5, ⟨sv, k6, k7⟩, sv', k8, k9⟩, hbox⟩ := hR.now h
  dsimp only [srcC, seqL, seqR, Try.f36, Option.getD]
  clear k6 k7 k8 k9 k1 k2 k3
  have h' := h.drew hJ
  have h0 := h
  clear h
  by_cases hro : 3 ≤ f.role
  · clear h0
    rw [show roleSrcs f ++ r = srcRole f :: r by simp [roleSrcs, hro]] at h'
    have hd : decide (3 ≤ f.role) = true := by simpa using hro
    have hy0 := Sp.post (fun _ _ => YCall.mono) (fun G => hc G (srcRole f) r W.drew) h'
    have hy : YieldAt Fence.wide 0 Try.prog l #[.agg (srcRole f).cells] W.drew fun e W' => ∃ b : Bool, e = .returned (.bool b) ∧ (b = true → Sp J w G₀ [] r W') ∧ (b = false → ∃ r', Sp Jx w G₀ [] r' W') := by
      rcases hy0 with ⟨_, e, _⟩ | ⟨l', e, hy⟩
      · cases e
      · cases e
        refine hy.mono ?_
        rintro e W' ⟨_, ⟨rfl, h⟩ | ⟨rfl, h⟩⟩
        · exact ⟨true, rfl, fun _ => h, fun e => (by cases e)⟩
        · exact ⟨false, rfl, fun e => (by cases e), fun _ => h⟩
    obtain ⟨fn, tmps, assign, body, hyr, hRr⟩ := hy
    simp only [Src.cells, srcRole] at hyr
    clear h' hc hy0
    gi_wp2
    gi_region_with (refine hRr.mono ?_; rintro e W' ⟨b, rfl, hb1, hb2⟩)
    all_goals (clear hyr hRr k4 k5 hbox hd)
    all_goals (cases b)
    all_goals gi_wp2
    all_goals first | exact hK _ _ ⟨rfl, rfl, by simp [slots2]⟩ (hb1 (by simp)) | (obtain ⟨r', hx⟩ := hb2 (by simp); exact hQ _ _ r' ⟨rfl, rfl, by simp⟩ hx)
  · clear h'
    rw [show roleSrcs f ++ r = r by simp [roleSrcs, hro]] at h0
    have hd : decide (3 ≤ f.role) = false := by simpa using hro
    clear hc
    gi_wp2
    gi_quiet ((fail))
    gi_wp2
    exact hK _ _ ⟨rfl, rfl, by simp [slots2]⟩ (h0.still hJ rfl rfl rfl rfl)

theorem kbsSrcs_drop (deps : List Wi) (kbs : List Kb) (k : Nat) (h : k < kbs.length) : kbsSrcs deps (kbs.drop k) = kbSrcs deps kbs[k] ++ kbsSrcs deps (kbs.drop (k + 1)) := by
  rw [List.drop_eq_getElem_cons h]
  rfl

def slots5 (y : Value) (bf : Nat) (sv : Value) (len k : Nat) : List (Nat × Value) := [(0, y), (1, .pointer (some ⟨bf, 0, none⟩)), (54, sv), (55, .int .i64 len), (56, .int .i64 k)]

set_option maxHeartbeats 2000000 in
/-- 'for _, kb := range f.KBs { if !f.kbSources(kb, yield) { return } }' -/
theorem src_partD {J Jx : (Nat → Prop) → List Src → World → Prop} (hJ : Framed J) (hJx : Framed Jx) {fv : Fn} {caps : Array Value}
    (hc : ∀ G s r W, J G (s :: r) W → YCall Try.prog fv caps #[.agg s.cells] W (YPost J Jx G W r)) {n bf fb fo : Nat} {f : Fa} {w W : World} {G₀ : Nat → Prop} (hR : Reads n bf fb fo f w G₀)
    {a : Act} (ha : Slots 66 (slots2 (.func fv #[] caps) bf) [] a) (h : Sp J w G₀ [] (kbsSrcs f.deps f.kbs) W) (Q : Exit → Act → World → Prop)
    (hQ1 : ∀ a' W', Slots 66 [] [] a' → Sp J w G₀ [] [] W' → Q .normal a' W')
    (hQ2 : ∀ a' W' r', Slots 66 [] [] a' → Sp Jx w G₀ [] r' W' → Q .ret a' W') :
    (srcD (Try.f36.body.getD .skip)).wpIn Fence.wide 0 Try.prog Q a W := by
  obtain ⟨u, rfl⟩ := slotsSr ha
  obtain ⟨⟨hb, k1, k2, k3, k4, k5, ⟨sv, k6, k7⟩, sv', k8, k9⟩, hbox⟩ := hR.now h
  obtain ⟨ka, kcap, rfl, hkle, hkcap, k9⟩ := k9
  clear k9
  have hlen : f.kbs.length ≤ 140737488351232 := by omega
  dsimp only [srcD, seqR, Try.f36, Option.getD]
  clear k1 k2 k3 k4 k5 k6 k7
  gi_wp2
  clear ha hbox
  have hrowK : ∀ r W', Sp J w G₀ [] r W' → RowIs n 6 64 (KbAt n) W' (.slice ka f.kbs.length kcap) f.kbs := fun r W' hs => by
    obtain ⟨⟨_, _, _, _, _, _, _, sv', k8', k9'⟩, _⟩ := hR.now hs
    have e1 := (hR.fa.below (h.fr.below hR.hG hR.hn))
    have hw : w.cell? ⟨fb, fo + 6, none⟩ = some (.slice ka f.kbs.length kcap) := by rw [← (h.fr.below hR.hG hR.hn).cell (p := ⟨fb, fo + 6, none⟩) hb]; exact k8
    have hw' : W'.cell? ⟨fb, fo + 6, none⟩ = some (.slice ka f.kbs.length kcap) := ((hs.fr.below hR.hG hR.hn).cell (p := ⟨fb, fo + 6, none⟩) hb).trans hw
    rw [hw'] at k8'
    cases k8'
    exact k9'
  clear k8
  refine wpIn_loop (fun a W => ∃ k : Nat, k ≤ f.kbs.length ∧ Slots 66 (slots5 (.func fv #[] caps) bf (.slice ka f.kbs.length kcap) f.kbs.length k) [] a ∧ Sp J w G₀ [] (kbsSrcs f.deps (f.kbs.drop k)) W)
    (fun a _ => f.kbs.length - (intOf (a.tmps.getD 56 undef)).toNat) ⟨0, Nat.zero_le _, ⟨rfl, rfl, by simp [slots5]⟩, h⟩ ?_
  clear h W u
  rintro a W ⟨k, hk, ha, h⟩
  obtain ⟨u, rfl⟩ := slotsSrL ha
  clear ha
  by_cases hlt : k < f.kbs.length
  · obtain ⟨⟨_, _, _, _, _, _, ⟨sv, k6, k7⟩, _⟩, hbox⟩ := hR.now h
    obtain ⟨a', cap', e, _, _, hel⟩ := hrowK _ _ h
    obtain ⟨b, off, e', hbn, q0, q1, q2, q3, q4, gv, q5, q6⟩ := hel k hlt
    cases e
    subst e'
    clear hel
    rw [kbsSrcs_drop f.deps f.kbs k hlt] at h
    generalize hkb : f.kbs[k] = kb at q0 q1 q2 q3 q4 q6 h
    clear hkb
    have hnW := Nat.le_trans hR.hn h.fr.size
    have h' := (h.alloc hJ (kbObj kb gv)).weaken (L' := []) (fun p hp => by cases hp)
    have hbel : Below n W (W.alloc (kbObj kb gv)) := (Below.refl n W).alloc hnW _
    have hcall : CallsIn Fence.wide 0 Try.prog 31 #[.pointer (some ⟨fb, fo, none⟩), .agg #[.bool kb.creator, .int .i8 kb.vis, .int .i8 kb.lvl, .string kb.dep, .int .i8 kb.pg, gv], .func fv #[] caps] (W.alloc (kbObj kb gv)) _ :=
      Sp.postG (C := CallsIn Fence.wide 0 Try.prog 31 #[.pointer (some ⟨fb, fo, none⟩), .agg #[.bool kb.creator, .int .i8 kb.vis, .int .i8 kb.lvl, .string kb.dep, .int .i8 kb.pg, gv], .func fv #[] caps] (W.alloc (kbObj kb gv)))
        (fun _ _ => CallsIn.mono) (fun G hj hg => kbSources_in hJ hJx hc (Nat.le_trans hnW hbel.size) (fun k hk => (hg k hk).elim (hR.hG k) (fun hh => Nat.le_trans hR.hn hh)) hb ((hbel.cell (p := ⟨fb, fo + 5, none⟩) hb).trans k6) (k7.turned fun _ _ _ hb' => WiAt.below hbel hb') (q6.turned fun _ _ _ hb' => GrAt.below hbel hb') hj) h'
    obtain ⟨ga, gcap, rfl, _⟩ := q6
    have hbf : (W.alloc (kbObj kb (.slice ga kb.grants.length gcap))).cell? ⟨bf, 0, none⟩ = some (.pointer (some ⟨fb, fo, none⟩)) := (hR.now h').2
    simp only [kbObj] at hcall hbf
    clear h h' hc k6 k7 hbel hbox hrowK
    gi_wp2_with fail
    refine hcall.mono ?_
    clear hcall hbf q0 q1 q2 q3 q4 q5
    rintro e W' ⟨_, ⟨rfl, hs⟩ | ⟨rfl, r', hs⟩⟩
    · gi_wp2
      exact ⟨⟨k + 1, by omega, ⟨rfl, rfl, by simp [slots5]⟩, hs⟩, by simp [intOf]; omega⟩
    · gi_wp2
      exact hQ2 _ _ r' ⟨rfl, rfl, by simp⟩ hs
  · rw [List.drop_of_length_le (by omega)] at h
    clear hc hrowK
    gi_wp2
    exact hQ1 _ _ ⟨rfl, rfl, by simp⟩ h

/-- **THE ITERATOR 'f.sources()', CALLED AT A LOOP's yield.** -/
theorem sources1_in {J Jx : (Nat → Prop) → List Src → World → Prop} (hJ : Framed J) (hJx : Framed Jx) {l : Nat}
    (hc : ∀ G s r W, J G (s :: r) W → YCall Try.prog (.yield l) #[] #[.agg s.cells] W (YPost J Jx G W r)) {n bf fb fo : Nat} {f : Fa} {W : World} {G : Nat → Prop} (hR : Reads n bf fb fo f W G) (h : J G (srcs f) W) :
    CallsIn Fence.wide 0 Try.prog 36 (#[.func (.yield l) #[] #[]] ++ #[.pointer (some ⟨bf, 0, none⟩)]) W fun e W' => (∃ v, e = .returned v) ∧ (Sp J W G [] [] W' ∨ ∃ r', Sp Jx W G [] r' W') := by
  refine callsIn_of_wp Try.func36 code36_parts trivial ?_ rfl
  have hend : ∀ a' W', Slots 66 [] [] a' → Sp J W G [] [] W' → a'.defers = [] ∧ ∃ v, (results Try.f36 a'.tmps).run Try.prog W' = .ok v W' ∧ ((∃ v', Ending.returned v = .returned v') ∧ (Sp J W G [] [] W' ∨ ∃ r', Sp Jx W G [] r' W')) :=
    fun a' W' ha' hs => ⟨ha'.1, _, results_none rfl _ _ _, ⟨_, rfl⟩, .inl hs⟩
  have hstop : ∀ a' W' r', Slots 66 [] [] a' → Sp Jx W G [] r' W' → a'.defers = [] ∧ ∃ v, (results Try.f36 a'.tmps).run Try.prog W' = .ok v W' ∧ ((∃ v', Ending.returned v = .returned v') ∧ (Sp J W G [] [] W' ∨ ∃ r', Sp Jx W G [] r' W')) :=
    fun a' W' r' ha' hs => ⟨ha'.1, _, results_none rfl _ _ _, ⟨_, rfl⟩, .inr ⟨r', hs⟩⟩
  refine wpIn_seq (src_partA hJ hR (y := .func (.yield l) #[] #[]) ⟨rfl, by simp [Try.ntmps36], by simp [slots2]⟩ (Sp.start h) _ _ ?_ hend)
  intro a1 W1 ha1 h1
  refine wpIn_seq (src_partB hc hR ha1 h1 _ _ ?_ hstop)
  intro a2 W2 ha2 h2
  refine wpIn_seq (src_partC hJ hc hR ha2 h2 _ _ _ ?_ hstop)
  intro a3 W3 ha3 h3
  exact src_partD hJ hJx hc hR ha3 h3 _ hend hstop

end Go.Proofs.Qxb6613755a
