/-
  Functions 28 and 15: 'zzWithin', 'zzDecideModel'.
-/
import Derived.Test.Qxb6613755aActive
import Derived.Test.Qxb6613755aLevel
import Derived.Test.Qxb6613755aMade
namespace Go.Proofs.Qxb6613755a
open Go.RowKit Go.Shelf
set_option linter.unusedVariables false
set_option linter.unusedSimpArgs false

set_option maxRecDepth 100000 in
set_option maxHeartbeats 2000000 in
theorem within_c (dv : Value) (d : ByteArray) (n : Nat) (ds : List Wi) (w : World) (hd : RowIs n 2 0 WiAt w dv ds) (hl : ds.length ≤ 4096) :
    Calls Try.prog 28 #[dv, .string d] w fun e w' => e = .returned (.bool (withinB ds d)) ∧ w' = w := by
  obtain ⟨da, dc, rfl, _, _, hel⟩ := hd
  have HD := hidB hel
  clear hel
  obtain ⟨T, hT⟩ : ∃ T, T = withinB ds d := ⟨_, rfl⟩
  have h0 : withinB (ds.drop 0) d = T := by simp [hT]
  rw [← hT]
  clear hT
  go_enter Try.func28, Try.ntmps28
  go_wp2
  go_loop [5] (fun i => ∃ (k : Nat), k ≤ ds.length ∧ i = .int .i64 (k : Int) ∧ withinB (ds.drop k) d = T) (fun i => ds.length - (intOf i).toNat)
  case atStart => exact ⟨0, Nat.zero_le _, rfl, h0⟩
  case round =>
    obtain ⟨k, hk, rfl, hc⟩ := hrel
    clear h0
    by_cases hlt : k < ds.length
    · obtain ⟨b, off, rfl, hb, c0, c1⟩ := HD.out k hlt
      clear HD
      rw [withinB_drop ds d k hlt] at hc
      by_cases he : (ds[k].dep.toList == d.toList) = true
      · rw [he, Bool.true_or] at hc
        subst hc
        generalize ds[k] = x at c0 c1 he
        go_wp2
        go_ret
        exact ⟨rfl, rfl⟩
      · have he' : (ds[k].dep.toList == d.toList) = false := by simpa using he
        rw [he', Bool.false_or] at hc
        have HC := hidB hc
        clear hc he
        generalize ds[k] = x at c0 c1 he'
        go_wp2
        go_round
        case rel => exact ⟨k + 1, by omega, by go_num, HC.out⟩
        case measure => simp [intOf]; omega
    · have e : ds.drop k = [] := List.drop_eq_nil_of_le (by omega)
      rw [e] at hc
      have hc' : false = T := by simpa [withinB] using hc
      clear HD hc
      subst hc'
      go_wp2
      go_ret
      exact ⟨rfl, rfl⟩

theorem slotsM {a : Act} {ds : List Deferred} {v4 v5 v13 : Value} (h : Slots 95 [(4, v4), (5, v5), (13, v13)] ds a) : ∃ f : Nat → Value, a = { tmps := List.toArray (f 0 :: f 1 :: f 2 :: f 3 :: v4 :: v5 :: f 6 :: f 7 :: f 8 :: f 9 :: f 10 :: f 11 :: f 12 :: v13 :: f 14 :: f 15 :: f 16 :: f 17 :: f 18 :: f 19 :: f 20 :: f 21 :: f 22 :: f 23 :: f 24 :: f 25 :: f 26 :: f 27 :: f 28 :: f 29 :: f 30 :: f 31 :: f 32 :: f 33 :: f 34 :: f 35 :: f 36 :: f 37 :: f 38 :: f 39 :: f 40 :: f 41 :: f 42 :: f 43 :: f 44 :: f 45 :: f 46 :: f 47 :: f 48 :: f 49 :: f 50 :: f 51 :: f 52 :: f 53 :: f 54 :: f 55 :: f 56 :: f 57 :: f 58 :: f 59 :: f 60 :: f 61 :: f 62 :: f 63 :: f 64 :: f 65 :: f 66 :: f 67 :: f 68 :: f 69 :: f 70 :: f 71 :: f 72 :: f 73 :: f 74 :: f 75 :: f 76 :: f 77 :: f 78 :: f 79 :: f 80 :: f 81 :: f 82 :: f 83 :: f 84 :: f 85 :: f 86 :: f 87 :: f 88 :: f 89 :: f 90 :: f 91 :: f 92 :: f 93 :: f 94 :: []), defers := ds } := by
  obtain ⟨rfl, hn, hv⟩ := h
  obtain ⟨f, hf⟩ : ∃ f : Nat → Value, f = fun i => a.tmps.getD i undef := ⟨_, rfl⟩
  have ht := tabF_of a.tmps f (fun i hi => by simp [hf, hi])
  have he : ∀ i v, a.tmps[i]? = some v → f i = v := fun i v h => by simp [hf, h]
  clear hf
  rw [hn] at ht
  have e4 := he 4 v4 (hv (4, v4) (by simp))
  have e5 := he 5 v5 (hv (5, v5) (by simp))
  have e13 := he 13 v13 (hv (13, v13) (by simp))
  refine ⟨f, ?_⟩
  simp only [tabF, Nat.reduceAdd, e4, e5, e13] at ht
  obtain ⟨t, ds⟩ := a
  simp only at ht
  subst ht
  rfl

theorem code15_parts : Try.f15.body = some (.seq (seqL (Try.f15.body.getD .skip)) (.seq (seqL (seqR (Try.f15.body.getD .skip))) (.seq (seqL (seqR (seqR (Try.f15.body.getD .skip)))) (.seq (seqL (seqR (seqR (seqR (Try.f15.body.getD .skip))))) (.seq (seqL (seqR (seqR (seqR (seqR (Try.f15.body.getD .skip)))))) (seqR (seqR (seqR (seqR (seqR (Try.f15.body.getD .skip))))))))))) := rfl

theorem post15 {M : Int} {w W : World} {a' : Act} (ha' : Slots 95 [(12, .int .i8 M)] [] a') (hb : Below w.heap.size w W) : bodyPost Try.prog Try.f15 (fun e w' => e = .returned (.int .i8 M) ∧ Below w.heap.size w w') .ret a' W := by
  refine ⟨ha'.1, _, results_tmp rfl _ _ _, ?_, hb⟩
  have := ha'.2.2 (12, .int .i8 M) (by simp)
  simp only at this
  rw [Array.getD_eq_getD_getElem?, this]
  rfl

set_option maxRecDepth 100000 in
set_option maxHeartbeats 4000000 in
theorem model_c (f : Fa) (dv kv : Value) (w : World) (hd : RowIs w.heap.size 2 0 WiAt w dv f.deps) (hk : RowIs w.heap.size 6 0 (ZkAt w.heap.size) w kv f.kbs) (hs : Small f.deps f.kbs) :
    Calls Try.prog 15 #[.bool f.known, .bool f.su, .bool f.dis, .int .i8 f.role, dv, kv] w fun e w' => e = .returned (.int .i8 (model f)) ∧ Below w.heap.size w w' := by
  obtain ⟨hs1, hs2, hs3⟩ := hs
  obtain ⟨known, su, dis, role, rt, deps, kbs⟩ := f
  simp only at hd hk hs1 hs2 hs3 ⊢
  have hcall : ∀ W d, Below w.heap.size w W → Calls Try.prog 28 #[dv, .string d] W fun e w' => e = .returned (.bool (withinB deps d)) ∧ w' = W :=
    fun W d hb => within_c dv d w.heap.size deps W (hd.turned fun _ _ _ hb' => WiAt.below hb hb') hs1
  obtain ⟨da, dc, rfl, _⟩ := hd
  obtain ⟨ka, kc, rfl, _, _, hel⟩ := hk
  have HC := hidB hcall
  have HK := hidB hel
  have HS := hidB hs3
  clear hcall hel hs3
  have hz : known = false ∨ dis = true ∨ (su = false ∧ role < 2) → model ⟨known, su, dis, role, rt, deps, kbs⟩ = 0 := model_zero ⟨known, su, dis, role, rt, deps, kbs⟩
  have hnz : known = true → dis = false → ¬ (su = false ∧ role < 2) → modelKbs deps (kbs.drop 0) (if su = true ∨ 3 ≤ role then 3 else 0) = model ⟨known, su, dis, role, rt, deps, kbs⟩ := fun h1 h2 h3 => (model_start ⟨known, su, dis, role, rt, deps, kbs⟩ h1 h2 h3).symm
  generalize model ⟨known, su, dis, role, rt, deps, kbs⟩ = M at hz hnz ⊢
  have HM := hidB hnz
  have HZ := hidB hz
  clear hnz hz
  refine calls_of_wp Try.func15 code15_parts ?_
  have hR0 : ∀ (rest : Code), (∀ a' b0, modelKbs deps (kbs.drop 0) b0 = M → Slots 95 [(4, .slice da deps.length dc), (5, .slice ka kbs.length kc), (13, .int .i8 b0)] [] a' → rest.wp Try.prog (bodyPost Try.prog Try.f15 fun e w' => e = .returned (.int .i8 M) ∧ Below w.heap.size w w') a' w) →
      (Code.seq (seqL (Try.f15.body.getD .skip)) (.seq (seqL (seqR (Try.f15.body.getD .skip))) (.seq (seqL (seqR (seqR (Try.f15.body.getD .skip)))) (.seq (seqL (seqR (seqR (seqR (Try.f15.body.getD .skip))))) (.seq (seqL (seqR (seqR (seqR (seqR (Try.f15.body.getD .skip)))))) rest))))).wp Try.prog (bodyPost Try.prog Try.f15 fun e w' => e = .returned (.int .i8 M) ∧ Below w.heap.size w w')
        { tmps := #[.bool known, .bool su, .bool dis, .int .i8 role, .slice da deps.length dc, .slice ka kbs.length kc] ++ Array.replicate (Try.f15.ntmps - 6) undef, defers := [] } w := by
    intro rest hK
    have HR := hidB hK
    clear hK HC HK HS
    simp only [Try.ntmps15, List.size_toArray, List.length_cons, List.length_nil, Nat.reduceAdd, Nat.reduceSub, Array.replicate_succ, Array.replicate_zero, List.push_toArray, List.append_toArray, List.nil_append, List.cons_append]
    have hQ0 : M = 0 → ∀ a', Slots 95 [(12, .int .i8 0)] [] a' → bodyPost Try.prog Try.f15 (fun e w' => e = .returned (.int .i8 M) ∧ Below w.heap.size w w') .ret a' w := by
      rintro rfl a' ha'
      exact post15 ha' (Below.refl _ _)
    have HQ := hidB hQ0
    clear hQ0
    revert HR HQ
    generalize bodyPost Try.prog Try.f15 (fun e w' => e = .returned (.int .i8 M) ∧ Below w.heap.size w w') = QQ
    intro HR HQ
    dsimp only [seqL, seqR, Try.f15, Option.getD]
    cases known
    · have hM := HZ.out (.inl rfl)
      have HQ2 := hidB (HQ.out hM)
      clear HQ HM HZ HR hM
      go_wp2
      exact HQ2.out _ ⟨rfl, rfl, by simp⟩
    cases dis
    rotate_left
    · have hM := HZ.out (.inr (.inl rfl))
      have HQ2 := hidB (HQ.out hM)
      clear HQ HM HZ HR hM
      go_wp2
      exact HQ2.out _ ⟨rfl, rfl, by simp⟩
    by_cases hr : su = false ∧ role < 2
    · have hM := HZ.out (.inr (.inr hr))
      have HQ2 := hidB (HQ.out hM)
      clear HQ HM HZ HR hM
      obtain ⟨rfl, hr2⟩ := hr
      go_wp2
      exact HQ2.out _ ⟨rfl, rfl, by simp⟩
    have h0 := HM.out rfl rfl hr
    clear HM HZ HQ
    have hcases : (su = true ∧ modelKbs deps (kbs.drop 0) 3 = M) ∨ (su = false ∧ 3 ≤ role ∧ modelKbs deps (kbs.drop 0) 3 = M) ∨ (su = false ∧ 2 ≤ role ∧ role < 3 ∧ modelKbs deps (kbs.drop 0) 0 = M) := by
      cases su
      · simp only [true_and, Int.not_lt] at hr
        by_cases h3 : 3 ≤ role
        · rw [if_pos (.inr h3)] at h0
          exact .inr (.inl ⟨rfl, h3, h0⟩)
        · rw [if_neg (by rintro (h | h); cases h; omega)] at h0
          exact .inr (.inr ⟨rfl, by omega, by omega, h0⟩)
      · rw [if_pos (.inl rfl)] at h0
        exact .inl ⟨rfl, h0⟩
    clear hr h0
    rcases hcases with ⟨rfl, h0⟩ | ⟨rfl, h3, h0⟩ | ⟨rfl, h2, h3, h0⟩
    all_goals have H0 := hidB h0
    all_goals clear h0
    all_goals go_wp2
    all_goals exact HR.out _ _ H0.out ⟨rfl, rfl, by simp⟩
  refine hR0 _ ?_
  clear hR0 HM HZ
  intro a1 b0 h0 ha1
  have H0 := hidB h0
  clear h0
  obtain ⟨us, rfl⟩ := slotsM ha1
  clear ha1
  have hres : ∀ a' W, Slots 95 [(12, .int .i8 M)] [] a' → Below w.heap.size w W → bodyPost Try.prog Try.f15 (fun e w' => e = .returned (.int .i8 M) ∧ Below w.heap.size w w') .ret a' W :=
    fun a' W ha' hb => post15 ha' hb
  have HF := hidB hres
  clear hres
  revert HF
  generalize bodyPost Try.prog Try.f15 (fun e w' => e = .returned (.int .i8 M) ∧ Below w.heap.size w w') = QQ
  intro HF
  dsimp only [seqR, Try.f15, Option.getD]
  go_wp2
  go_loopw [13, 14, 15, 16] (fun b i _ _ wr => ∃ (k : Nat) (bb : Int), k ≤ kbs.length ∧ i = .int .i64 (k : Int) ∧ b = .int .i8 bb ∧ Below w.heap.size w wr ∧ modelKbs deps (kbs.drop k) bb = M) (fun _ i _ _ _ => kbs.length - (intOf i).toNat)
  case atStart => exact ⟨0, _, Nat.zero_le _, rfl, rfl, Below.refl _ _, H0.out⟩
  case round =>
    obtain ⟨k, bb, hk, rfl, rfl, hbel, hc⟩ := hrel
    clear H0
    have hsz := hbel.size
    by_cases hlt : k < kbs.length
    · obtain ⟨b, off, rfl, hb, hz⟩ := HK.out k hlt
      replace hz := hz.below hbel hb
      have hgl := HS.out k hlt
      rw [modelKbs_drop deps kbs k hlt] at hc
      clear HK HS
      generalize kbs[k] = x at hz hgl hc
      obtain ⟨cr, vis, lvl, dep, pg, gs⟩ := x
      obtain ⟨z0, z1, z2, z3, z4, gv, z5, hg⟩ := hz
      simp only at z0 z1 z2 z3 z4 z5 hg hgl hc
      obtain ⟨ga, gc, rfl, _, _, hgel⟩ := hg
      have hb1 : Below w.heap.size wr (wr.alloc (.cells #[.bool cr, .int .i8 vis, .int .i8 lvl, .string dep, .int .i8 pg, .slice ga gs.length gc] 53)) := (Below.refl _ wr).alloc hsz _
      have HB := hidB (hbel.trans hb1)
      have hcall := fun d => HC.out _ d (hbel.trans hb1)
      have hgel' : ∀ j (h : j < gs.length), ∃ b off, ga = some ⟨b, off, none⟩ ∧ GrAt b (off + j * 2) (wr.alloc (.cells #[.bool cr, .int .i8 vis, .int .i8 lvl, .string dep, .int .i8 pg, .slice ga gs.length gc] 53)) gs[j] := fun j h => by
        obtain ⟨b, off, e, hb, hx⟩ := hgel j h
        exact ⟨b, off, e, GrAt.below hb1 hb hx⟩
      have HCC := hidB hcall
      have HG := hidB hgel'
      obtain ⟨G, hG⟩ : ∃ G, G = grFold deps gs (headKb deps ⟨cr, vis, lvl, dep, pg, gs⟩ bb) := ⟨_, rfl⟩
      rw [← hG] at hc
      have HE := hidB hc
      have HGG := hidB hG
      clear hgel hgel' hcall hb1 hbel hc hG HC hb
      have hcase : (vis = 2 ∧ vis ≠ 1) ∨ (vis = 1 ∧ withinB deps dep = true) ∨ (vis = 1 ∧ withinB deps dep = false) ∨ (vis ≠ 2 ∧ vis ≠ 1) := by
        by_cases h2 : vis = 2
        · exact .inl ⟨h2, by omega⟩
        · by_cases h1 : vis = 1
          · cases hw : withinB deps dep
            · exact .inr (.inr (.inl ⟨h1, rfl⟩))
            · exact .inr (.inl ⟨h1, rfl⟩)
          · exact .inr (.inr (.inr ⟨h2, h1⟩))
      have hin : ∀ bh : Int, bh = headKb deps ⟨cr, vis, lvl, dep, pg, gs⟩ bb → grFold deps (gs.drop 0) bh = G := fun bh e => by rw [e, List.drop_zero]; exact HGG.out.symm
      unfold headKb at hin
      simp only at hin
      have HN := hidB hin
      clear hin HGG
      rcases hcase with ⟨rfl, h1⟩ | ⟨rfl, hw⟩ | ⟨rfl, hw⟩ | ⟨h2, h1⟩ <;> cases cr
      all_goals go_wp2_with (first | (go_at_call 8; refine (maxL_c _ _ _).mono ?_; rintro e w' ⟨rfl, rfl⟩) | (go_at_call 28; refine (HCC.out _).mono ?_; rintro e w' ⟨rfl, rfl⟩))
      all_goals
        go_loop [13, 16] (fun b j => ∃ (m : Nat) (b2 : Int), m ≤ gs.length ∧ j = .int .i64 (m : Int) ∧ b = .int .i8 b2 ∧ grFold deps (gs.drop m) b2 = G) (fun _ j => gs.length - (intOf j).toNat)
        case atStart => exact ⟨0, _, Nat.zero_le _, rfl, rfl, HN.out _ (by simp [*])⟩
        case round =>
          obtain ⟨m, b2, hm, rfl, rfl, hc2⟩ := hrel
          clear HN
          by_cases hlt2 : m < gs.length
          · obtain ⟨b', off', rfl, y0, y1⟩ := HG.out m hlt2
            rw [grFold_drop deps gs m hlt2] at hc2
            clear HG
            generalize gs[m] = y at y0 y1 hc2
            cases hw2 : withinB deps y.dep
            · rw [hw2, if_neg (by simp)] at hc2
              have HE2 := hidB hc2
              clear hc2
              go_wp2_with (first | (go_at_call 8; refine (maxL_c _ _ _).mono ?_; rintro e w' ⟨rfl, rfl⟩) | (go_at_call 28; refine (HCC.out _).mono ?_; rintro e w' ⟨rfl, rfl⟩))
              go_round
              case rel => exact ⟨m + 1, _, by omega, by go_num, rfl, HE2.out⟩
              case measure => simp [intOf]; omega
            · rw [hw2, if_pos rfl] at hc2
              have HE2 := hidB hc2
              clear hc2
              go_wp2_with (first | (go_at_call 8; refine (maxL_c _ _ _).mono ?_; rintro e w' ⟨rfl, rfl⟩) | (go_at_call 28; refine (HCC.out _).mono ?_; rintro e w' ⟨rfl, rfl⟩))
              go_round
              case rel => exact ⟨m + 1, _, by omega, by go_num, rfl, HE2.out⟩
              case measure => simp [intOf]; omega
          · have e : gs.drop m = [] := List.drop_eq_nil_of_le (by omega)
            rw [e] at hc2
            have hc3 : b2 = G := hc2
            clear HG HCC hc2
            subst hc3
            go_wp2
            go_roundw
            case rel => exact ⟨k + 1, _, by omega, by go_num, rfl, HB.out, HE.out⟩
            case measure => simp [intOf]; omega
    · have e : kbs.drop k = [] := List.drop_eq_nil_of_le (by omega)
      rw [e] at hc
      have hc3 : bb = M := hc
      have HB := hidB hbel
      clear HK HC HS hbel hc
      subst hc3
      go_wp2
      exact HF.out _ _ ⟨rfl, rfl, by simp⟩ HB.out
end Go.Proofs.Qxb6613755a
