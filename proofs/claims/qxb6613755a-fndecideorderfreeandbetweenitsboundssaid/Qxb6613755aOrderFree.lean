/-
  Function 6, 'FnDecideOrderFreeAndBetweenItsBounds': it answers true.
-/
import Derived.Test.Qxb6613755aFree
namespace Go.Proofs.Qxb6613755a
open Go.RowKit Go.Shelf
set_option linter.unusedVariables false
set_option linter.unusedSimpArgs false

theorem slotsM6 {a : Act} {ds : List Deferred} {v0 v1 v2 v3 v6 v17 : Value} (h : Slots 140 [(0, v0), (1, v1), (2, v2), (3, v3), (6, v6), (17, v17)] ds a) : ∃ f : Nat → Value, a = { tmps := List.toArray (v0 :: v1 :: v2 :: v3 :: f 4 :: f 5 :: v6 :: f 7 :: f 8 :: f 9 :: f 10 :: f 11 :: f 12 :: f 13 :: f 14 :: f 15 :: f 16 :: v17 :: f 18 :: f 19 :: f 20 :: f 21 :: f 22 :: f 23 :: f 24 :: f 25 :: f 26 :: f 27 :: f 28 :: f 29 :: f 30 :: f 31 :: f 32 :: f 33 :: f 34 :: f 35 :: f 36 :: f 37 :: f 38 :: f 39 :: f 40 :: f 41 :: f 42 :: f 43 :: f 44 :: f 45 :: f 46 :: f 47 :: f 48 :: f 49 :: f 50 :: f 51 :: f 52 :: f 53 :: f 54 :: f 55 :: f 56 :: f 57 :: f 58 :: f 59 :: f 60 :: f 61 :: f 62 :: f 63 :: f 64 :: f 65 :: f 66 :: f 67 :: f 68 :: f 69 :: f 70 :: f 71 :: f 72 :: f 73 :: f 74 :: f 75 :: f 76 :: f 77 :: f 78 :: f 79 :: f 80 :: f 81 :: f 82 :: f 83 :: f 84 :: f 85 :: f 86 :: f 87 :: f 88 :: f 89 :: f 90 :: f 91 :: f 92 :: f 93 :: f 94 :: f 95 :: f 96 :: f 97 :: f 98 :: f 99 :: f 100 :: f 101 :: f 102 :: f 103 :: f 104 :: f 105 :: f 106 :: f 107 :: f 108 :: f 109 :: f 110 :: f 111 :: f 112 :: f 113 :: f 114 :: f 115 :: f 116 :: f 117 :: f 118 :: f 119 :: f 120 :: f 121 :: f 122 :: f 123 :: f 124 :: f 125 :: f 126 :: f 127 :: f 128 :: f 129 :: f 130 :: f 131 :: f 132 :: f 133 :: f 134 :: f 135 :: f 136 :: f 137 :: f 138 :: f 139 :: []), defers := ds } := by
  obtain ⟨rfl, hn, hv⟩ := h
  obtain ⟨f, hf⟩ : ∃ f : Nat → Value, f = fun i => a.tmps.getD i undef := ⟨_, rfl⟩
  have ht := tabF_of a.tmps f (fun i hi => by simp [hf, hi])
  have he : ∀ i v, a.tmps[i]? = some v → f i = v := fun i v h => by simp [hf, h]
  clear hf
  rw [hn] at ht
  have e0 := he 0 v0 (hv (0, v0) (by simp))
  have e1 := he 1 v1 (hv (1, v1) (by simp))
  have e2 := he 2 v2 (hv (2, v2) (by simp))
  have e3 := he 3 v3 (hv (3, v3) (by simp))
  have e6 := he 6 v6 (hv (6, v6) (by simp))
  have e17 := he 17 v17 (hv (17, v17) (by simp))
  refine ⟨f, ?_⟩
  simp only [tabF, Nat.reduceAdd, e0, e1, e2, e3, e6, e17] at ht
  obtain ⟨t, ds⟩ := a
  simp only at ht
  subst ht
  rfl

set_option maxRecDepth 100000 in
set_option maxHeartbeats 4000000 in
theorem freeMid (f : Fa) (kv : Value) (w W : World) (a1 : Act) (QQ : Exit → Act → World → Prop)
    (hQ : ∀ a' W', Slots 140 [(14, .bool true)] [] a' → Below w.heap.size w W' → QQ .ret a' W')
    (hk : RowIs w.heap.size 6 0 (ZkAt w.heap.size) w kv f.kbs) (hs : Small f.deps f.kbs) (hb : Below w.heap.size w W)
    (ha1 : Slots 140 [(0, .bool f.known), (1, .bool f.su), (2, .bool f.dis), (3, .int .i8 f.role), (6, kv), (17, .int .i8 (level f))] [] a1) :
    (Code.seq (seqL (seqR (seqR (seqR (seqR (seqR (seqR (seqR (Try.f6.body.getD .skip))))))))) (Code.seq (seqL (seqR (seqR (seqR (seqR (seqR (seqR (seqR (seqR (Try.f6.body.getD .skip)))))))))) (Code.seq (seqL (seqR (seqR (seqR (seqR (seqR (seqR (seqR (seqR (seqR (Try.f6.body.getD .skip))))))))))) (Code.seq (seqL (seqR (seqR (seqR (seqR (seqR (seqR (seqR (seqR (seqR (seqR (Try.f6.body.getD .skip)))))))))))) (Code.seq (seqL (seqR (seqR (seqR (seqR (seqR (seqR (seqR (seqR (seqR (seqR (seqR (Try.f6.body.getD .skip))))))))))))) (f6Tail (Try.f6.body.getD .skip))))))).wp Try.prog QQ a1 W := by
  have hrest : ∀ a' b0, Live f → b0 = base f → Slots 140 [(6, kv), (17, .int .i8 (level f)), (19, .int .i8 b0), (20, .int .i8 b0)] [] a' → (f6Tail (Try.f6.body.getD .skip)).wp Try.prog QQ a' W := fun a' b0 hl e ha' => by
    subst e
    exact freeTail f kv w W _ _ a' QQ hQ hk hs hb hl (level_base f hl) (by rw [List.drop_zero, ← level_live f hl]; exact Int.le_refl _) ha'
  have hdead := level_dead f
  have hq := fun a' h => hQ a' W h hb
  obtain ⟨ka, kc, rfl, _⟩ := hk
  have HR := hidB hrest
  have HQ := hidB hq
  have HD := hidB hdead
  clear hrest hQ hq hdead hs hb
  generalize (f6Tail (Try.f6.body.getD .skip)) = rest at HR ⊢
  unfold Live base at HR
  generalize level f = got at ha1 HR HD
  obtain ⟨known, su, dis, role, rt, deps, kbs⟩ := f
  simp only at ha1 HR HD
  obtain ⟨us, rfl⟩ := slotsM6 ha1
  clear ha1
  dsimp only [seqL, seqR, Try.f6, Option.getD]
  cases known
  · have hg := HD.out (.inl rfl)
    subst hg
    clear HD HR
    go_wp2
    exact HQ.out _ ⟨rfl, rfl, by simp⟩
  cases dis
  rotate_left
  · have hg := HD.out (.inr (.inl rfl))
    subst hg
    clear HD HR
    go_wp2
    exact HQ.out _ ⟨rfl, rfl, by simp⟩
  cases su
  · by_cases hr2 : role < 2
    · have hg := HD.out (.inr (.inr ⟨rfl, hr2⟩))
      subst hg
      clear HD HR
      have hd2 : decide (2 ≤ role) = false := by simp; omega
      go_wp2
      exact HQ.out _ ⟨rfl, rfl, by simp⟩
    · clear HD HQ
      have hd2 : decide (2 ≤ role) = true := by simp; omega
      by_cases hr3 : 3 ≤ role
      · have hh := fun a' h => HR.out a' 3 ⟨rfl, rfl, fun h => hr2 h.2⟩ (by simp [hr3]) h
        have HH := hidB hh
        clear hh HR
        go_wp2
        exact HH.out _ ⟨rfl, rfl, by simp⟩
      · have hh := fun a' h => HR.out a' 0 ⟨rfl, rfl, fun h => hr2 h.2⟩ (by simp; omega) h
        have HH := hidB hh
        clear hh HR
        go_wp2
        exact HH.out _ ⟨rfl, rfl, by simp⟩
  · clear HD HQ
    have hh := fun a' h => HR.out a' 3 ⟨rfl, rfl, fun h => by cases h.1⟩ (by simp) h
    have HH := hidB hh
    clear hh HR
    go_wp2
    exact HH.out _ ⟨rfl, rfl, by simp⟩

theorem code6_parts : Try.f6.body = some (Code.seq (seqL (Try.f6.body.getD .skip)) (Code.seq (seqL (seqR (Try.f6.body.getD .skip))) (Code.seq (seqL (seqR (seqR (Try.f6.body.getD .skip)))) (Code.seq (seqL (seqR (seqR (seqR (Try.f6.body.getD .skip))))) (Code.seq (seqL (seqR (seqR (seqR (seqR (Try.f6.body.getD .skip)))))) (Code.seq (seqL (seqR (seqR (seqR (seqR (seqR (Try.f6.body.getD .skip))))))) (Code.seq (seqL (seqR (seqR (seqR (seqR (seqR (seqR (Try.f6.body.getD .skip)))))))) (Code.seq (seqL (seqR (seqR (seqR (seqR (seqR (seqR (seqR (Try.f6.body.getD .skip))))))))) (Code.seq (seqL (seqR (seqR (seqR (seqR (seqR (seqR (seqR (seqR (Try.f6.body.getD .skip)))))))))) (Code.seq (seqL (seqR (seqR (seqR (seqR (seqR (seqR (seqR (seqR (seqR (Try.f6.body.getD .skip))))))))))) (Code.seq (seqL (seqR (seqR (seqR (seqR (seqR (seqR (seqR (seqR (seqR (seqR (Try.f6.body.getD .skip)))))))))))) (Code.seq (seqL (seqR (seqR (seqR (seqR (seqR (seqR (seqR (seqR (seqR (seqR (seqR (Try.f6.body.getD .skip))))))))))))) (f6Tail (Try.f6.body.getD .skip)))))))))))))) := rfl

theorem Small.rev {ds : List Wi} {ks : List Kb} (h : Small ds ks) : Small ds.reverse (revKbs ks) := by
  obtain ⟨h1, h2, h3⟩ := h
  refine ⟨by simpa using h1, by rw [revKbs_length]; exact h2, fun j hj => ?_⟩
  rw [revKbs_get ks j (ks.length - 1 - j) hj (by rw [revKbs_length] at hj; omega) (by rw [revKbs_length] at hj; omega)]
  simp only [revKb, List.length_reverse]
  exact h3 _ _

theorem post6 {w W : World} {a' : Act} (ha' : Slots 140 [(14, .bool true)] [] a') (hb : Below w.heap.size w W) : bodyPost Try.prog Try.f6 (fun e w' => e = .returned (.bool true) ∧ Below w.heap.size w w') .ret a' W := by
  refine ⟨ha'.1, _, results_tmp rfl _ _ _, ?_, hb⟩
  have := ha'.2.2 (14, .bool true) (by simp)
  simp only at this
  rw [Array.getD_eq_getD_getElem?, this]
  rfl

set_option maxRecDepth 100000 in
set_option maxHeartbeats 4000000 in
theorem walkFree (f : Fa) (dv kv : Value) (w : World) (h4 : f.rt.size ≤ maxLen) (hi : InpD f dv kv w) :
    Calls Try.prog 6 #[.bool f.known, .bool f.su, .bool f.dis, .int .i8 f.role, .string f.rt, dv, kv] w fun e w' => e = .returned (.bool true) ∧ Below w.heap.size w w' := by
  refine calls_of_wp Try.func6 code6_parts ?_
  have hc16 := bytes16 f.known f.su f.dis f.role f.rt dv kv w.heap.size f.deps f.kbs w h4 hi.1 hi.2
  have hc13 := tooBig_c f.rt dv kv f.deps f.kbs w h4 hi.1 hi.2
  have hmid := fun W a1 hs hb ha1 => freeMid f kv w W a1 (bodyPost Try.prog Try.f6 fun e w' => e = .returned (.bool true) ∧ Below w.heap.size w w') (fun a' W' h hb => post6 h hb) hi.2 hs hb ha1
  have hret := fun a' W' h hb => post6 (w := w) (W := W') (a' := a') h hb
  have HI := hidB hi
  obtain ⟨⟨da, dc, rfl, _⟩, ⟨ka, kc, rfl, hkc, _⟩⟩ := hi
  have H16 := hidB hc16
  have H13 := hidB hc13
  have HM := hidB hmid
  have HQ := hidB hret
  clear hc16 hc13 hmid hret
  revert HM HQ
  generalize (bodyPost Try.prog Try.f6 fun e w' => e = .returned (.bool true) ∧ Below w.heap.size w w') = QQ
  generalize (Code.seq (seqL (seqR (seqR (seqR (seqR (seqR (seqR (seqR (Try.f6.body.getD .skip))))))))) (Code.seq (seqL (seqR (seqR (seqR (seqR (seqR (seqR (seqR (seqR (Try.f6.body.getD .skip)))))))))) (Code.seq (seqL (seqR (seqR (seqR (seqR (seqR (seqR (seqR (seqR (seqR (Try.f6.body.getD .skip))))))))))) (Code.seq (seqL (seqR (seqR (seqR (seqR (seqR (seqR (seqR (seqR (seqR (seqR (Try.f6.body.getD .skip)))))))))))) (Code.seq (seqL (seqR (seqR (seqR (seqR (seqR (seqR (seqR (seqR (seqR (seqR (seqR (Try.f6.body.getD .skip))))))))))))) (f6Tail (Try.f6.body.getD .skip))))))) = rest
  intro HM HQ
  simp only [Try.ntmps6, List.size_toArray, List.length_cons, List.length_nil, Nat.reduceAdd, Nat.reduceSub, Array.replicate_succ, Array.replicate_zero, List.push_toArray, List.append_toArray, List.nil_append, List.cons_append]
  dsimp only [seqL, seqR, Try.f6, Option.getD]
  go_wp2_with (go_at_call 16; refine H16.out.mono ?_; rintro e w1 ⟨⟨b1, rfl⟩, hw⟩; have hw' := hw.symm; clear hw; subst hw')
  · exact HQ.out _ _ ⟨rfl, rfl, by simp⟩ (Below.refl _ _)
  refine H13.out.mono ?_
  rintro e w2 ⟨⟨b2, rfl, hbig⟩, hb⟩
  have HW2 := hidB hb
  have HBG := hidB hbig
  clear hb hbig H16 H13
  go_wp2_with (fail)
  · exact HQ.out _ _ ⟨rfl, rfl, by simp⟩ HW2.out
  have hsm := HBG.out (by assumption)
  have HS := hidB hsm
  have hc14 : ∀ W, Below w.heap.size w W → Calls Try.prog 14 #[.bool f.known, .bool f.su, .bool f.dis, .int .i8 f.role, .string f.rt, .slice da f.deps.length dc, .slice ka f.kbs.length kc] W fun e w' => FaRes f e w' ∧ Below W.heap.size W w' :=
    fun W hb => facts_c f _ _ W (HI.out.mono hb).1 (HI.out.mono hb).2 HS.out
  refine (hc14 w2 HW2.out).mono ?_
  rintro e w3 ⟨⟨dv1, kv1, rfl, hd1, hk1'⟩, hb⟩
  have hW3 := below_twice HW2.out hb
  have hl1 := FaLies.laid hd1 hk1'
  have hal : Below w3.heap.size w3 (w3.alloc (faObj f dv1 kv1)) := (Below.refl _ w3).alloc (Nat.le_refl _) _
  have HW3 := hidB (below_twice hW3 hal)
  have HL1 := hidB hl1
  obtain ⟨da1, dc1, rfl, _⟩ := hd1
  obtain ⟨ka1, kc1, rfl, _⟩ := hk1'
  clear hb hW3 hl1 hal hc14 hsm HBG HW2
  unfold faObj at HW3 HL1
  go_wp2_with (fail)
  obtain ⟨W4, hW4⟩ : ∃ W4, W4 = w3.alloc (.cells #[.bool f.known, .bool f.su, .bool f.dis, .int .i8 f.role, .string f.rt, .slice da1 f.deps.length dc1, .slice ka1 f.kbs.length kc1] 36) := ⟨_, rfl⟩
  rw [← hW4] at HW3 HL1 ⊢
  clear hW4
  refine (revDeps_c _ f.deps W4 (HI.out.mono HW3.out).1 HS.out.1).mono ?_
  rintro e w5 ⟨⟨dvr, rfl, hdr, hfd⟩, hb⟩
  have hW5 := below_twice HW3.out hb
  have hL5 := HL1.out.mono hb
  have HW5 := hidB hW5
  have HL5 := hidB hL5
  have HDR := hidB hdr
  obtain ⟨dar, dcr, rfl, _⟩ := hdr
  clear hb hfd hW5 hL5 HW3 HL1
  go_wp2_with (fail)
  refine (revKbs_c _ f.kbs w5 (HI.out.mono HW5.out).2 HS.out.2.1 HS.out.2.2).mono ?_
  rintro e w6 ⟨⟨kvr, rfl, hkr, hfk⟩, hb⟩
  have hW6 := below_twice HW5.out hb
  have hL6 := HL5.out.mono hb
  have hD6 := HDR.out.mono' hb.size (fun _ _ _ hb' => WiAt.below hb hb')
  have hc14 := facts_c (revFa f) _ _ w6 hD6 hkr HS.out.rev
  have HC := hidB hc14
  have HW6 := hidB hW6
  have HL6 := hidB hL6
  obtain ⟨kar, kcr, rfl, _⟩ := hkr
  clear hb hfk hW6 hL6 hD6 HDR HW5 HL5 hc14
  simp only [revFa] at HC
  rw [revKbs_length, List.length_reverse] at HC
  try rw [revKbs_length]
  try rw [List.length_reverse]
  go_wp2_with (fail)
  refine HC.out.mono ?_
  clear HC
  rintro e w7 ⟨⟨dv2, kv2, rfl, hd2, hk2⟩, hb⟩
  have hW7 := below_twice HW6.out hb
  have hl2 := FaLies.laid hd2 hk2
  have hal : Below w7.heap.size w7 (w7.alloc (faObj (revFa f) dv2 kv2)) := (Below.refl _ w7).alloc (Nat.le_refl _) _
  have HW8 := hidB (below_twice hW7 hal)
  have HL8 := hidB (HL6.out.mono (below_twice hb hal))
  have HR8 := hidB hl2
  have hx := (HL6.out.mono hb).1
  unfold faObj at hx
  obtain ⟨x0, x1, x2, x3, x4, x5, x6⟩ := seven_cells hx
  have hsz7 : w3.heap.size < w7.heap.size := (Array.getElem?_eq_some_iff.1 hx).1
  obtain ⟨da2, dc2, rfl, _⟩ := hd2
  obtain ⟨ka2, kc2, rfl, _⟩ := hk2
  clear hb hW7 hl2 hal HW6 HL6 hx
  simp only [faObj, revFa, revKbs_length, List.length_reverse] at HW8 HL8 HR8
  try simp only [revFa, revKbs_length, List.length_reverse]
  go_wp2_with (fail)
  obtain ⟨W8, hW8⟩ : ∃ W8, W8 = w7.alloc (.cells #[.bool f.known, .bool f.su, .bool f.dis, .int .i8 f.role, .string f.rt, .slice da2 f.deps.length dc2, .slice ka2 f.kbs.length kc2] 36) := ⟨_, rfl⟩
  rw [← hW8] at HW8 HL8 HR8 ⊢
  clear hW8 x0 x1 x2 x3 x4 x5 x6
  refine (HL8.out.decide).mono ?_
  rintro e w9 ⟨rfl, hb⟩
  have hR9 := HR8.out.mono hb
  have HW9 := hidB (below_twice HW8.out hb)
  have hdec : Calls Try.prog 9 #[.agg #[.bool f.known, .bool f.su, .bool f.dis, .int .i8 f.role, .string f.rt, .slice da2 f.deps.length dc2, .slice ka2 f.kbs.length kc2]] w9 fun e w' => e = .returned (.int .i8 (level f)) ∧ Below w9.heap.size w9 w' := by
    have := hR9.decide
    rw [show level { known := f.known, su := f.su, dis := f.dis, role := f.role, rt := f.rt, deps := f.deps.reverse, kbs := revKbs f.kbs } = level f from level_rev f] at this
    exact this
  have hx := hR9.1
  unfold faObj at hx
  obtain ⟨x0, x1, x2, x3, x4, x5, x6⟩ := seven_cells hx
  have HDC := hidB hdec
  clear hb hR9 hdec hx HW8 HL8 HR8
  go_wp2_with (fail)
  refine HDC.out.mono ?_
  rintro e w10 ⟨rfl, hb⟩
  have HW10 := hidB (below_twice HW9.out hb)
  clear hb HDC HW9 x0 x1 x2 x3 x4 x5 x6
  go_wp2_with (fail)
  exact HM.out w10 _ HS.out HW10.out ⟨rfl, rfl, by simp⟩
end Go.Proofs.Qxb6613755a
