/-
  The plain laws on levels: no Go in sight. What Decide answers ('level') is what the model answers ('model'); it splits at any cut.
-/
import Derived.Test.Qxb6613755aDecide
namespace Go.Proofs.Qxb6613755a

def withinB (ds : List Wi) (d : ByteArray) : Bool := ds.any fun w => w.dep.toList == d.toList
theorem withinB_drop (ds : List Wi) (d : ByteArray) (k : Nat) (h : k < ds.length) : withinB (ds.drop k) d = ((ds[k].dep.toList == d.toList) || withinB (ds.drop (k + 1)) d) := by
  unfold withinB
  rw [List.drop_eq_getElem_cons h, List.any_cons]

def grFold (ds : List Wi) (gs : List Gr) (b : Int) : Int := gs.foldl (fun m g => if withinB ds g.dep = true then max m g.lvl else m) b
def headKb (ds : List Wi) (kb : Kb) (b : Int) : Int :=
  max (if kb.vis = 2 then max (if kb.creator = true then max b 3 else b) kb.lvl else if kb.vis = 1 then (if withinB ds kb.dep = true then max (if kb.creator = true then max b 3 else b) kb.lvl else (if kb.creator = true then max b 3 else b)) else (if kb.creator = true then max b 3 else b)) kb.pg
def stepKb (ds : List Wi) (b : Int) (kb : Kb) : Int := grFold ds kb.grants (headKb ds kb b)
def modelKbs (ds : List Wi) (ks : List Kb) (b : Int) : Int := ks.foldl (stepKb ds) b
def model (f : Fa) : Int :=
  if f.known = false ∨ f.dis = true then 0 else if f.su = false ∧ f.role < 2 then 0 else modelKbs f.deps f.kbs (if f.su = true ∨ 3 ≤ f.role then 3 else 0)

theorem modelKbs_drop (ds : List Wi) (ks : List Kb) (k : Nat) (h : k < ks.length) (b : Int) : modelKbs ds (ks.drop k) b = modelKbs ds (ks.drop (k + 1)) (grFold ds ks[k].grants (headKb ds ks[k] b)) := by
  unfold modelKbs
  rw [List.drop_eq_getElem_cons h, List.foldl_cons]
  rfl
theorem grFold_drop (ds : List Wi) (gs : List Gr) (k : Nat) (h : k < gs.length) (b : Int) : grFold ds (gs.drop k) b = grFold ds (gs.drop (k + 1)) (if withinB ds gs[k].dep = true then max b gs[k].lvl else b) := by
  unfold grFold
  rw [List.drop_eq_getElem_cons h, List.foldl_cons]

theorem model_zero (f : Fa) (h : f.known = false ∨ f.dis = true ∨ (f.su = false ∧ f.role < 2)) : model f = 0 := by
  unfold model
  rcases h with h | h | h
  · simp [h]
  · simp [h]
  · simp [h.1, h.2]
theorem model_start (f : Fa) (h1 : f.known = true) (h2 : f.dis = false) (h3 : ¬ (f.su = false ∧ f.role < 2)) : model f = modelKbs f.deps f.kbs (if f.su = true ∨ 3 ≤ f.role then 3 else 0) := by
  unfold model
  rw [if_neg (by simp [h1, h2]), if_neg h3]

theorem maxFrom_append (v : Int) (l k : List Src) : maxFrom v (l ++ k) = maxFrom (maxFrom v l) k := by simp [maxFrom]
theorem maxFrom_nil (v : Int) : maxFrom v [] = v := rfl
theorem maxFrom_cons (v : Int) (s : Src) (l : List Src) : maxFrom v (s :: l) = maxFrom (max v s.lvl) l := rfl
theorem maxFrom_ge (v : Int) (l : List Src) : v ≤ maxFrom v l := by
  induction l generalizing v with
  | nil => exact Int.le_refl _
  | cons s l ih => rw [maxFrom_cons]; have := ih (max v s.lvl); omega

/-- What lies at or below the greatest level. -/
theorem le_maxFrom (x v : Int) (l : List Src) : x ≤ maxFrom v l ↔ x ≤ v ∨ ∃ s ∈ l, x ≤ s.lvl := by
  induction l generalizing v with
  | nil => simp [maxFrom_nil]
  | cons s l ih =>
    rw [maxFrom_cons, ih]
    constructor
    · rintro (h | ⟨t, ht, h⟩)
      · by_cases hv : x ≤ v
        · exact .inl hv
        · exact .inr ⟨s, by simp, by omega⟩
      · exact .inr ⟨t, by simp [ht], h⟩
    · rintro (h | ⟨t, ht, h⟩)
      · exact .inl (by omega)
      · rcases List.mem_cons.1 ht with rfl | ht
        · exact .inl (by omega)
        · exact .inr ⟨t, ht, h⟩
theorem eq_of_le (a b : Int) (h : ∀ x, x ≤ a ↔ x ≤ b) : a = b := by
  have h1 := (h a).1 (Int.le_refl _)
  have h2 := (h b).2 (Int.le_refl _)
  omega

theorem viasOf_nil_iff (ds : List Wi) (d : ByteArray) : viasOf ds d = [] ↔ withinB ds d = false := by
  simp [viasOf, withinB, List.filter_eq_nil_iff]

theorem maxFrom_same (v x : Int) (l : List ByteArray) (c : ByteArray → Src) (hc : ∀ b, (c b).lvl = x) : maxFrom v (l.map c) = if l = [] then v else max v x := by
  induction l generalizing v with
  | nil => rfl
  | cons b l ih =>
    rw [List.map_cons, maxFrom_cons, ih, hc]
    by_cases h : l = []
    · simp [h]
    · simp [h]
theorem maxFrom_vias (v x : Int) (ds : List Wi) (d : ByteArray) (c : ByteArray → Src) (hc : ∀ b, (c b).lvl = x) : maxFrom v ((viasOf ds d).map c) = if withinB ds d = true then max v x else v := by
  rw [maxFrom_same v x _ c hc]
  by_cases h : viasOf ds d = []
  · rw [if_pos h, if_neg (by rw [(viasOf_nil_iff ds d).1 h]; simp)]
  · rw [if_neg h, if_pos (by cases hw : withinB ds d; exact absurd ((viasOf_nil_iff ds d).2 hw) h; rfl)]

theorem maxFrom_grants (v : Int) (ds : List Wi) (gs : List Gr) : maxFrom v (grantSrcs ds gs) = grFold ds gs v := by
  induction gs generalizing v with
  | nil => rfl
  | cons g gs ih =>
    have e : grantSrcs ds (g :: gs) = (viasOf ds g.dep).map (srcGrant g) ++ grantSrcs ds gs := by simp [grantSrcs]
    rw [e, maxFrom_append, ih, maxFrom_vias v g.lvl ds g.dep (srcGrant g) (fun _ => rfl)]
    rfl
theorem maxFrom_kb (v : Int) (ds : List Wi) (kb : Kb) (hv : 0 ≤ v) : maxFrom v (kbSrcs ds kb) = stepKb ds v kb := by
  unfold kbSrcs stepKb
  rw [maxFrom_append, maxFrom_append, maxFrom_append, maxFrom_grants]
  congr 1
  have e1 : maxFrom v (creatorSrcs kb) = if kb.creator = true then max v 3 else v := by
    unfold creatorSrcs
    split <;> rfl
  have e2 : ∀ v, maxFrom v (genSrcs ds kb) = if kb.vis = 2 then max v kb.lvl else if kb.vis = 1 then (if withinB ds kb.dep = true then max v kb.lvl else v) else v := by
    intro v
    unfold genSrcs
    split
    · rfl
    · split
      · exact maxFrom_vias v kb.lvl ds kb.dep _ (fun _ => rfl)
      · rfl
  have e3 : ∀ v, 0 ≤ v → maxFrom v (personSrcs kb) = max v kb.pg := by
    intro v hv
    unfold personSrcs
    split
    · rfl
    · rw [maxFrom_nil]; omega
  have h1 : 0 ≤ maxFrom (maxFrom v (creatorSrcs kb)) (genSrcs ds kb) := Int.le_trans hv (Int.le_trans (maxFrom_ge _ _) (maxFrom_ge _ _))
  rw [e3 _ h1, e2, e1]
  rfl
theorem maxFrom_kbs (v : Int) (ds : List Wi) (ks : List Kb) (hv : 0 ≤ v) : maxFrom v (kbsSrcs ds ks) = modelKbs ds ks v := by
  induction ks generalizing v with
  | nil => rfl
  | cons kb ks ih =>
    have e : kbsSrcs ds (kb :: ks) = kbSrcs ds kb ++ kbsSrcs ds ks := by simp [kbsSrcs]
    rw [e, maxFrom_append, ih _ (Int.le_trans hv (maxFrom_ge _ _)), maxFrom_kb v ds kb hv]
    rfl

theorem auth_ne (f : Fa) : auth f ≠ 0 ↔ f.dis = false ∧ ¬ (f.su = false ∧ f.role < 2) := by
  unfold auth
  cases hd : f.dis <;> cases hs : f.su <;> simp <;> omega

/-- What Decide answers is the model's answer. -/
theorem level_model (f : Fa) : level f = model f := by
  unfold level srcs
  by_cases hk : f.known = true ∧ auth f ≠ 0
  · rw [if_pos hk, maxFrom_append, maxFrom_append]
    obtain ⟨h1, h2⟩ := (auth_ne f).1 hk.2
    rw [model_start f hk.1 h1 h2]
    have e : maxFrom (maxFrom 0 (superSrcs f)) (roleSrcs f) = if f.su = true ∨ 3 ≤ f.role then 3 else 0 := by
      unfold superSrcs roleSrcs
      by_cases hs : f.su = true <;> by_cases hr : 3 ≤ f.role <;> simp [hs, hr, maxFrom, srcSuper, srcRole, show max (0 : Int) 3 = 3 by omega]
    rw [e]
    refine maxFrom_kbs _ _ _ ?_
    split <;> omega
  · rw [if_neg hk, maxFrom_nil]
    refine (model_zero f ?_).symm
    cases hk1 : f.known
    · exact .inl rfl
    · have h3 : ¬ (f.dis = false ∧ ¬ (f.su = false ∧ f.role < 2)) := fun h => hk ⟨hk1, (auth_ne f).2 h⟩
      cases hd : f.dis
      · exact .inr (.inr (Classical.byContradiction fun h => h3 ⟨hd, h⟩))
      · exact .inr (.inl rfl)

theorem srcs_split (f : Fa) (k : Nat) (s : Src) : s ∈ srcs f ↔ s ∈ srcs { f with kbs := f.kbs.take k } ∨ s ∈ srcs { f with kbs := f.kbs.drop k } := by
  have e1 : auth { f with kbs := f.kbs.take k } = auth f := rfl
  have e2 : auth { f with kbs := f.kbs.drop k } = auth f := rfl
  unfold srcs
  rw [e1, e2]
  simp only
  split
  · have e : kbsSrcs f.deps f.kbs = kbsSrcs f.deps (f.kbs.take k) ++ kbsSrcs f.deps (f.kbs.drop k) := by
      unfold kbsSrcs
      rw [← List.flatMap_append, List.take_append_drop]
    simp only [List.mem_append, e, superSrcs, roleSrcs]
    constructor
    · rintro (h | h | h | h)
      · exact .inl (.inl h)
      · exact .inl (.inr (.inl h))
      · exact .inl (.inr (.inr h))
      · exact .inr (.inr (.inr h))
    · rintro ((h | h | h) | (h | h | h))
      · exact .inl h
      · exact .inr (.inl h)
      · exact .inr (.inr (.inl h))
      · exact .inl h
      · exact .inr (.inl h)
      · exact .inr (.inr (.inr h))
  · simp
theorem level_split (f : Fa) (k : Nat) : level f = max (level { f with kbs := f.kbs.take k }) (level { f with kbs := f.kbs.drop k }) := by
  refine eq_of_le _ _ fun x => ?_
  have h1 := le_maxFrom x 0 (srcs f)
  have h2 := le_maxFrom x 0 (srcs { f with kbs := f.kbs.take k })
  have h3 := le_maxFrom x 0 (srcs { f with kbs := f.kbs.drop k })
  have hm : x ≤ max (level { f with kbs := f.kbs.take k }) (level { f with kbs := f.kbs.drop k }) ↔ x ≤ level { f with kbs := f.kbs.take k } ∨ x ≤ level { f with kbs := f.kbs.drop k } := by omega
  rw [hm]
  unfold level
  rw [h1, h2, h3]
  constructor
  · rintro (h | ⟨s, hs, h⟩)
    · exact .inl (.inl h)
    · rcases (srcs_split f k s).1 hs with hs | hs
      · exact .inl (.inr ⟨s, hs, h⟩)
      · exact .inr (.inr ⟨s, hs, h⟩)
  · rintro ((h | ⟨s, hs, h⟩) | (h | ⟨s, hs, h⟩))
    · exact .inl h
    · exact .inr ⟨s, (srcs_split f k s).2 (.inl hs), h⟩
    · exact .inl h
    · exact .inr ⟨s, (srcs_split f k s).2 (.inr hs), h⟩
end Go.Proofs.Qxb6613755a
