/-
  Functions 35, 24, 25: 'zzCountIn', 'zzCountSources', 'zzSame'.
-/
import Derived.Test.Qxb6613755aCollect
namespace Go.Proofs.Qxb6613755a
open Go.RowKit Go.Shelf
set_option linter.unusedVariables false
set_option linter.unusedSimpArgs false

theorem viasOf_le (ds : List Wi) (d : ByteArray) : (viasOf ds d).length ≤ ds.length := by
  unfold viasOf
  rw [List.length_map]
  exact List.length_filter_le _ _

set_option maxRecDepth 100000 in
set_option maxHeartbeats 2000000 in
theorem countIn_c (dv : Value) (d : ByteArray) (n : Nat) (ds : List Wi) (w : World) (hd : RowIs n 2 0 WiAt w dv ds) (hl : ds.length ≤ 4096) :
    Calls Try.prog 35 #[dv, .string d] w fun e w' => e = .returned (.int .i64 ((viasOf ds d).length : Nat)) ∧ w' = w := by
  obtain ⟨da, dc, rfl, _, _, hel⟩ := hd
  have HD := hidB hel
  clear hel
  go_enter Try.func35, Try.ntmps35
  go_wp2
  go_loop [5, 6] (fun c i => ∃ (k cc : Nat), k ≤ ds.length ∧ i = .int .i64 (k : Int) ∧ c = .int .i64 (cc : Int) ∧ cc + (viasOf (ds.drop k) d).length = (viasOf ds d).length) (fun _ i => ds.length - (intOf i).toNat)
  case atStart => exact ⟨0, 0, Nat.zero_le _, rfl, rfl, by simp⟩
  case round =>
    obtain ⟨k, cc, hk, rfl, rfl, hc⟩ := hrel
    have hcl := viasOf_le ds d
    have hcb : cc ≤ 4096 := by omega
    by_cases hlt : k < ds.length
    · obtain ⟨b, off, rfl, hb, c0, c1⟩ := HD.out k hlt
      clear HD
      rw [viasOf_drop ds d k hlt] at hc
      by_cases he : (ds[k].dep.toList == d.toList) = true
      · rw [if_pos he, List.length_cons] at hc
        have HC := hidB hc
        clear hc
        generalize ds[k] = x at c0 c1 he
        go_wp2
        go_round
        case rel => exact ⟨k + 1, cc + 1, by omega, by go_num, by go_num, by have := HC.out; omega⟩
        case measure => simp [intOf]; omega
      · rw [if_neg he] at hc
        have HC := hidB hc
        clear hc
        generalize ds[k] = x at c0 c1 he
        go_wp2
        go_round
        case rel => exact ⟨k + 1, cc, by omega, by go_num, by go_num, by have := HC.out; omega⟩
        case measure => simp [intOf]; omega
    · have e : ds.drop k = [] := List.drop_eq_nil_of_le (by omega)
      rw [e] at hc
      have hc' : cc = (viasOf ds d).length := by simpa [viasOf] using hc
      clear HD hc
      go_wp2
      go_ret
      exact ⟨rfl, rfl⟩

theorem grantSrcs_len (ds : List Wi) (gs : List Gr) (k : Nat) (h : k < gs.length) : (grantSrcs ds (gs.drop k)).length = (viasOf ds gs[k].dep).length + (grantSrcs ds (gs.drop (k + 1))).length := by
  rw [List.drop_eq_getElem_cons h]
  simp only [grantSrcs, List.flatMap_cons, List.length_append, List.length_map]
theorem grantSrcs_le (ds : List Wi) (gs : List Gr) (hl : ds.length ≤ 4096) : (grantSrcs ds gs).length ≤ gs.length * 4096 := by
  induction gs with
  | nil => simp [grantSrcs]
  | cons g gs ih =>
    have e : (grantSrcs ds (g :: gs)).length = (viasOf ds g.dep).length + (grantSrcs ds gs).length := by simp [grantSrcs]
    have := viasOf_le ds g.dep
    simp only [List.length_cons] at *
    omega
/-- What the kinds ahead of the grants count up to. -/
def headSrcs (ds : List Wi) (kb : Kb) : List Src := creatorSrcs kb ++ (genSrcs ds kb ++ personSrcs kb)
theorem kbSrcs_length (ds : List Wi) (kb : Kb) : (kbSrcs ds kb).length = (headSrcs ds kb).length + (grantSrcs ds kb.grants).length := by simp [kbSrcs, headSrcs]; omega
theorem headSrcs_le (ds : List Wi) (kb : Kb) (hl : ds.length ≤ 4096) : (headSrcs ds kb).length ≤ 4099 := by
  have h1 : (creatorSrcs kb).length ≤ 1 := by unfold creatorSrcs; split <;> simp
  have h2 : (genSrcs ds kb).length ≤ 4097 := by
    unfold genSrcs
    split
    · simp
    · split
      · have := viasOf_le ds kb.dep
        rw [List.length_map]; omega
      · simp
  have h3 : (personSrcs kb).length ≤ 1 := by unfold personSrcs; split <;> simp
  simp only [headSrcs, List.length_append]
  omega
theorem kbSrcs_le (ds : List Wi) (kb : Kb) (hl : ds.length ≤ 4096) (hg : kb.grants.length ≤ 4096) : (kbSrcs ds kb).length ≤ 33554432 := by
  have h1 := headSrcs_le ds kb hl
  have h2 := grantSrcs_le ds kb.grants hl
  rw [kbSrcs_length]
  omega

set_option maxRecDepth 100000 in
set_option maxHeartbeats 4000000 in
theorem countSources_c (kb : Kb) (dv gv : Value) (ds : List Wi) (w : World) (hd : RowIs w.heap.size 2 0 WiAt w dv ds) (hl : ds.length ≤ 4096) (hg : RowIs w.heap.size 2 0 GrAt w gv kb.grants) (hgl : kb.grants.length ≤ 4096) :
    Calls Try.prog 24 #[dv, .agg #[.bool kb.creator, .int .i8 kb.vis, .int .i8 kb.lvl, .string kb.dep, .int .i8 kb.pg, gv]] w fun e w' => e = .returned (.int .i64 ((kbSrcs ds kb).length : Nat)) ∧ w' = w.alloc (zkObj kb gv) := by
  have hB : Below w.heap.size w (w.alloc (zkObj kb gv)) := (Below.refl _ w).alloc (Nat.le_refl _) _
  have hcall := fun d => countIn_c dv d w.heap.size ds (w.alloc (zkObj kb gv)) (hd.turned fun _ _ _ hb' => WiAt.below hB hb') hl
  replace hg := hg.turned (W' := w.alloc (zkObj kb gv)) fun _ _ _ hb' => GrAt.below hB hb'
  have hT := headSrcs_le ds kb hl
  have hG := grantSrcs_le ds kb.grants hl
  obtain ⟨T0, hT0⟩ : ∃ T0, T0 = (headSrcs ds kb).length := ⟨_, rfl⟩
  have hke := kbSrcs_length ds kb
  have hv1 : ∀ d, (viasOf ds d).length ≤ 4096 := fun d => Nat.le_trans (viasOf_le ds d) hl
  rw [← hT0] at hke hT
  obtain ⟨KL, hKL⟩ : ∃ KL, KL = (kbSrcs ds kb).length := ⟨_, rfl⟩
  rw [← hKL] at hke ⊢
  clear hB hKL
  obtain ⟨da, dc, rfl, _⟩ := hd
  obtain ⟨ga, gc, rfl, _, _, hel⟩ := hg
  obtain ⟨cr, vis, lvl, dep, pg, gs⟩ := kb
  simp only at hG hgl hke hel hcall hT0 ⊢
  have HC := hidB hcall
  have HG := hidB hel
  have HK := hidB hke
  have HV := hidB hv1
  have HT := hidB hT0
  clear hcall hel hke hv1 hT0
  simp only [zkObj] at HC HG ⊢
  go_enter Try.func24, Try.ntmps24
  have hvd := HV.out dep
  cases cr <;> by_cases h2 : vis = 2 <;> by_cases h1 : vis = 1 <;> by_cases hp : 0 < pg
  all_goals first | (exfalso; omega) | skip
  all_goals (try subst h2)
  all_goals (try subst h1)
  all_goals go_wp2_with (go_at_call 35; refine (HC.out dep).mono ?_; rintro e w' ⟨rfl, rfl⟩)
  all_goals
    go_loop [5, 6] (fun c i => ∃ (k cc : Nat), k ≤ gs.length ∧ i = .int .i64 (k : Int) ∧ c = .int .i64 (cc : Int) ∧ cc + (grantSrcs ds (gs.drop k)).length = KL) (fun _ i => gs.length - (intOf i).toNat)
    case atStart =>
      refine ⟨0, T0, Nat.zero_le _, rfl, ?_, HK.out.symm⟩
      have e := HT.out
      simp only [headSrcs, creatorSrcs, genSrcs, personSrcs] at e
      first | rw [if_pos (by omega : 0 < pg)] at e | rw [if_neg (by omega : ¬ 0 < pg)] at e
      simp [*] at e
      subst e
      go_num
    case round =>
      obtain ⟨k, cc, hk, rfl, rfl, hc⟩ := hrel
      have hcb : cc ≤ 33554432 := by have := HK.out; omega
      by_cases hlt : k < gs.length
      · obtain ⟨b, off, rfl, hb, c0, c1⟩ := HG.out k hlt
        rw [grantSrcs_len ds gs k hlt] at hc
        have hcall := HC.out gs[k].dep
        have hvk := HV.out gs[k].dep
        clear HG HC
        have HC := hidB hcall
        have HE := hidB hc
        clear hc hcall
        generalize gs[k] = x at c0 c1 HC HE hvk
        go_wp2_with (go_at_call 35; refine HC.out.mono ?_; rintro e w' ⟨rfl, rfl⟩)
        go_round
        case rel => exact ⟨k + 1, cc + (viasOf ds x.dep).length, by omega, by go_num, by go_num, by have := HE.out; omega⟩
        case measure => simp [intOf]; omega
      · have e : gs.drop k = [] := List.drop_eq_nil_of_le (by omega)
        rw [e] at hc
        have hc' : cc = KL := by simpa [grantSrcs] using hc
        clear HG HC hc
        go_wp2
        go_ret
        exact ⟨rfl, rfl⟩
end Go.Proofs.Qxb6613755a
