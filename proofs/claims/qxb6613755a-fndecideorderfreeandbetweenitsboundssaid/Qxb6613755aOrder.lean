/-
  The plain laws of statement 5: the level does not change when all is listed in reverse, and lies between its bounds. No Go in sight.
-/
import Derived.Test.Qxb6613755aLevel
import Derived.Test.Qxb6613755aRevKb
namespace Go.Proofs.Qxb6613755a

def revFa (f : Fa) : Fa := { f with deps := f.deps.reverse, kbs := revKbs f.kbs }

theorem mem_vias_rev (ds : List Wi) (d v : ByteArray) : v ∈ viasOf ds.reverse d ↔ v ∈ viasOf ds d := by simp [viasOf]
theorem mem_map_vias (ds : List Wi) (d : ByteArray) (c : ByteArray → Src) (s : Src) : s ∈ (viasOf ds.reverse d).map c ↔ s ∈ (viasOf ds d).map c := by
  simp only [List.mem_map, mem_vias_rev]
theorem mem_gen_rev (ds : List Wi) (kb : Kb) (s : Src) : s ∈ genSrcs ds.reverse (revKb kb) ↔ s ∈ genSrcs ds kb := by
  have e1 : genSrcs ds.reverse (revKb kb) = if kb.vis = 2 then [srcGen kb emp emp] else if kb.vis = 1 then (viasOf ds.reverse kb.dep).map (srcGen kb kb.dep) else [] := rfl
  rw [e1]
  unfold genSrcs
  split
  · exact Iff.rfl
  · split
    · exact mem_map_vias ds _ _ s
    · exact Iff.rfl
theorem mem_grants_rev (ds : List Wi) (gs : List Gr) (s : Src) : s ∈ grantSrcs ds.reverse gs.reverse ↔ s ∈ grantSrcs ds gs := by
  unfold grantSrcs
  simp only [List.mem_flatMap, List.mem_reverse, mem_map_vias]
theorem mem_kb_rev (ds : List Wi) (kb : Kb) (s : Src) : s ∈ kbSrcs ds.reverse (revKb kb) ↔ s ∈ kbSrcs ds kb := by
  unfold kbSrcs
  have e1 : creatorSrcs (revKb kb) = creatorSrcs kb := rfl
  have e2 : personSrcs (revKb kb) = personSrcs kb := rfl
  have e3 : (revKb kb).grants = kb.grants.reverse := rfl
  rw [e1, e2, e3]
  simp only [List.mem_append, mem_gen_rev, mem_grants_rev]
theorem mem_kbs_rev (ds : List Wi) (ks : List Kb) (s : Src) : s ∈ kbsSrcs ds.reverse (revKbs ks) ↔ s ∈ kbsSrcs ds ks := by
  unfold kbsSrcs revKbs
  simp only [List.mem_flatMap, List.mem_reverse, List.mem_map]
  constructor
  · rintro ⟨kb', ⟨kb, hkb, rfl⟩, hs⟩
    exact ⟨kb, hkb, (mem_kb_rev ds kb s).1 hs⟩
  · rintro ⟨kb, hkb, hs⟩
    exact ⟨revKb kb, ⟨kb, hkb, rfl⟩, (mem_kb_rev ds kb s).2 hs⟩
theorem mem_srcs_rev (f : Fa) (s : Src) : s ∈ srcs (revFa f) ↔ s ∈ srcs f := by
  have e1 : srcs (revFa f) = if f.known = true ∧ auth f ≠ 0 then superSrcs f ++ (roleSrcs f ++ kbsSrcs f.deps.reverse (revKbs f.kbs)) else [] := rfl
  rw [e1]
  unfold srcs
  split
  · simp only [List.mem_append, mem_kbs_rev]
  · exact Iff.rfl
theorem level_rev (f : Fa) : level (revFa f) = level f := by
  refine eq_of_le _ _ fun x => ?_
  unfold level
  rw [le_maxFrom, le_maxFrom]
  simp only [mem_srcs_rev]

/-- The standing alone. -/
def base (f : Fa) : Int := if f.su = true ∨ 3 ≤ f.role then 3 else 0
theorem base_nonneg (f : Fa) : 0 ≤ base f := by unfold base; split <;> omega
def Live (f : Fa) : Prop := f.known = true ∧ f.dis = false ∧ ¬ (f.su = false ∧ f.role < 2)
theorem level_live (f : Fa) (h : Live f) : level f = maxFrom (base f) (kbsSrcs f.deps f.kbs) := by
  rw [level_model, model_start f h.1 h.2.1 h.2.2]
  exact (maxFrom_kbs _ _ _ (base_nonneg f)).symm
theorem level_dead (f : Fa) (h : f.known = false ∨ f.dis = true ∨ (f.su = false ∧ f.role < 2)) : level f = 0 := by rw [level_model, model_zero f h]
theorem level_base (f : Fa) (h : Live f) : base f ≤ level f := by rw [level_live f h]; exact maxFrom_ge _ _
theorem level_src (f : Fa) (h : Live f) (k : Nat) (hk : k < f.kbs.length) (s : Src) (hs : s ∈ kbSrcs f.deps f.kbs[k]) : s.lvl ≤ level f := by
  rw [level_live f h, le_maxFrom]
  exact .inr ⟨s, List.mem_flatMap.2 ⟨f.kbs[k], List.getElem_mem hk, hs⟩, Int.le_refl _⟩
theorem level_kb (f : Fa) (h : Live f) (k : Nat) (hk : k < f.kbs.length) : (f.kbs[k].creator = true → 3 ≤ level f) ∧ (f.kbs[k].vis = 2 → f.kbs[k].lvl ≤ level f) ∧ f.kbs[k].pg ≤ level f := by
  refine ⟨fun hc => ?_, fun hv => ?_, ?_⟩
  · exact level_src f h k hk srcCreator (by unfold kbSrcs creatorSrcs; rw [if_pos hc]; simp)
  · exact level_src f h k hk (srcGen f.kbs[k] emp emp) (by unfold kbSrcs genSrcs; rw [if_pos hv]; simp)
  · by_cases hp : 0 < f.kbs[k].pg
    · exact level_src f h k hk (srcPerson f.kbs[k]) (by unfold kbSrcs personSrcs; rw [if_pos hp]; simp)
    · have := level_base f h
      have := base_nonneg f
      omega
theorem kbSrcs_bound (ds : List Wi) (kb : Kb) (x : Int) (h1 : kb.creator = true → 3 ≤ x) (h2 : kb.lvl ≤ x) (h3 : kb.pg ≤ x) (h4 : ∀ j (h : j < kb.grants.length), kb.grants[j].lvl ≤ x) : ∀ s ∈ kbSrcs ds kb, s.lvl ≤ x := by
  intro s hs
  unfold kbSrcs at hs
  simp only [List.mem_append] at hs
  rcases hs with hs | hs | hs | hs
  · unfold creatorSrcs at hs
    split at hs
    · rename_i hc
      rw [List.mem_singleton] at hs
      subst hs
      exact h1 hc
    · cases hs
  · unfold genSrcs at hs
    split at hs
    · rw [List.mem_singleton] at hs
      subst hs
      exact h2
    · split at hs
      · obtain ⟨v, _, rfl⟩ := List.mem_map.1 hs
        exact h2
      · cases hs
  · unfold personSrcs at hs
    split at hs
    · rw [List.mem_singleton] at hs
      subst hs
      exact h3
    · cases hs
  · unfold grantSrcs at hs
    obtain ⟨g, hg, hs⟩ := List.mem_flatMap.1 hs
    obtain ⟨v, _, rfl⟩ := List.mem_map.1 hs
    obtain ⟨j, hj, rfl⟩ := List.mem_iff_getElem.1 hg
    exact h4 j hj
/-- One more knowledge base is within the upper bound. -/
theorem hi_step (ds : List Wi) (ks : List Kb) (k : Nat) (hk : k < ks.length) (got hi hi' : Int) (h : got ≤ maxFrom hi (kbsSrcs ds (ks.drop k))) (h0 : hi ≤ hi') (h1 : ks[k].creator = true → 3 ≤ hi') (h2 : ks[k].lvl ≤ hi') (h3 : ks[k].pg ≤ hi') (h4 : ∀ j (h : j < ks[k].grants.length), ks[k].grants[j].lvl ≤ hi') :
    got ≤ maxFrom hi' (kbsSrcs ds (ks.drop (k + 1))) := by
  rw [List.drop_eq_getElem_cons hk] at h
  have e : kbsSrcs ds (ks[k] :: ks.drop (k + 1)) = kbSrcs ds ks[k] ++ kbsSrcs ds (ks.drop (k + 1)) := by unfold kbsSrcs; rw [List.flatMap_cons]
  rw [e, le_maxFrom] at h
  rw [le_maxFrom]
  rcases h with h | ⟨s, hs, h⟩
  · exact .inl (by omega)
  · rcases List.mem_append.1 hs with hs | hs
    · have := kbSrcs_bound ds ks[k] hi' h1 h2 h3 h4 s hs
      exact .inl (by omega)
    · exact .inr ⟨s, hs, h⟩
end Go.Proofs.Qxb6613755a
