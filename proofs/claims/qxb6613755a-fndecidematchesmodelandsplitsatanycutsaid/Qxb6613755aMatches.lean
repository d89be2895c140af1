/-
  Function 5, 'FnDecideMatchesModelAndSplitsAtAnyCut': it answers true.
-/
import Derived.Test.Qxb6613755aModel
import Derived.Test.Qxb6613755aLaid
namespace Go.Proofs.Qxb6613755a
open Go.RowKit Go.Shelf
set_option linter.unusedVariables false
set_option linter.unusedSimpArgs false

set_option maxRecDepth 100000 in
set_option maxHeartbeats 4000000 in
theorem walkMatches (f : Fa) (dv kv : Value) (k : Int) (w : World) (h4 : f.rt.size ≤ maxLen) (hi : InpD f dv kv w) :
    Calls Try.prog 5 #[.bool f.known, .bool f.su, .bool f.dis, .int .i8 f.role, .string f.rt, dv, kv, .int .i64 k] w fun e w' => e = .returned (.bool true) ∧ Below w.heap.size w w' := by
  have hc12 := bytes12 f.known f.su f.dis f.role f.rt dv kv k w.heap.size f.deps f.kbs w h4 hi.1 hi.2
  have hc13 := tooBig_c f.rt dv kv f.deps f.kbs w h4 hi.1 hi.2
  have HI := hidB hi
  obtain ⟨⟨da, dc, rfl, _⟩, ⟨ka, kc, rfl, hkc, _⟩⟩ := hi
  have H12 := hidB hc12
  have H13 := hidB hc13
  clear hc12 hc13
  go_enter Try.func5, Try.ntmps5
  go_wp2_with (go_at_call 12; refine H12.out.mono ?_; rintro e w1 ⟨⟨b1, rfl⟩, hw⟩; have hw' := hw.symm; clear hw; subst hw')
  · go_ret
    exact ⟨rfl, Below.refl _ _⟩
  refine H13.out.mono ?_
  rintro e w2 ⟨⟨b2, rfl, hbig⟩, hb⟩
  have HW2 := hidB hb
  have HBG := hidB hbig
  clear hb hbig H12 H13
  by_cases hk0 : k < 0
  · go_wp2_with (fail)
    all_goals go_ret
    all_goals exact ⟨rfl, HW2.out⟩
  by_cases hk1 : (f.kbs.length : Int) < k
  · go_wp2_with (fail)
    all_goals go_ret
    all_goals exact ⟨rfl, HW2.out⟩
  obtain ⟨m, rfl⟩ : ∃ m : Nat, k = (m : Int) := ⟨k.toNat, by omega⟩
  have hm : m ≤ f.kbs.length := by omega
  clear hk0
  go_wp2_with (fail)
  · go_ret
    exact ⟨rfl, HW2.out⟩
  have hsm := HBG.out (by assumption)
  have HS := hidB hsm
  have hc14 : ∀ W, Below w.heap.size w W → Calls Try.prog 14 #[.bool f.known, .bool f.su, .bool f.dis, .int .i8 f.role, .string f.rt, .slice da f.deps.length dc, .slice ka f.kbs.length kc] W fun e w' => FaRes f e w' ∧ Below W.heap.size W w' :=
    fun W hb => facts_c f _ _ W (HI.out.mono hb).1 (HI.out.mono hb).2 HS.out
  refine (hc14 w2 HW2.out).mono ?_
  rintro e w3 ⟨⟨dv1, kv1, rfl, hd1, hk1'⟩, hb⟩
  have hW3 := below_twice HW2.out hb
  have hl1 := FaLies.laid hd1 hk1'
  have hal : Below w3.heap.size w3 (w3.alloc (faObj f dv1 kv1)) := (Below.refl _ w3).alloc (Nat.le_refl _) _
  have HW3 := hidB (below_twice hW3 hal)
  have HL1 := hidB hl1
  obtain ⟨da1, dc1, rfl, _⟩ := hd1
  obtain ⟨ka1, kc1, rfl, _⟩ := hk1'
  clear hb hW3 hl1 hal hc14 hsm HBG HW2
  unfold faObj at HW3 HL1
  go_wp2_with (fail)
  obtain ⟨W4, hW4⟩ : ∃ W4, W4 = w3.alloc (.cells #[.bool f.known, .bool f.su, .bool f.dis, .int .i8 f.role, .string f.rt, .slice da1 f.deps.length dc1, .slice ka1 f.kbs.length kc1] 36) := ⟨_, rfl⟩
  rw [← hW4] at HW3 HL1 ⊢
  clear hW4
  have hc14a : Calls Try.prog 14 #[.bool f.known, .bool f.su, .bool f.dis, .int .i8 f.role, .string f.rt, .slice da f.deps.length dc, .slice ka m kc] W4 fun e w' => FaRes { f with kbs := f.kbs.take m } e w' ∧ Below W4.heap.size W4 w' :=
    facts_c { f with kbs := f.kbs.take m } _ _ W4 (HI.out.mono HW3.out).1 ((HI.out.mono HW3.out).2.firstN m hm) (HS.out.firstN m)
  refine hc14a.mono ?_
  rintro e w5 ⟨⟨dv2, kv2, rfl, hd2, hk2⟩, hb⟩
  have hW5 := below_twice HW3.out hb
  have hl2 := FaLies.laid hd2 hk2
  have hal : Below w5.heap.size w5 (w5.alloc (faObj { f with kbs := f.kbs.take m } dv2 kv2)) := (Below.refl _ w5).alloc (Nat.le_refl _) _
  have HW5 := hidB (below_twice hW5 hal)
  have HL1' := hidB (HL1.out.mono (below_twice hb hal))
  have HL2 := hidB hl2
  obtain ⟨da2, dc2, rfl, _⟩ := hd2
  obtain ⟨ka2, kc2, rfl, _⟩ := hk2
  clear hb hW5 hl2 hal HW3 HL1 hc14a
  have hlm : (List.take m f.kbs).length = m := by simp; omega
  simp only [faObj, hlm] at HW5 HL1' HL2
  obtain ⟨W6, hW6⟩ : ∃ W6, W6 = w5.alloc (.cells #[.bool f.known, .bool f.su, .bool f.dis, .int .i8 f.role, .string f.rt, .slice da2 f.deps.length dc2, .slice ka2 m kc2] 36) := ⟨_, rfl⟩
  rw [← hW6] at HW5 HL1' HL2
  have hrow := (HI.out.mono HW5.out).2
  have hrowA := hrow.fromN m (kc - m) (ka.map fun x => x.add (m * 6)) hm (by omega) (by
    rintro _ b off rfl
    have : (⟨b, off, none⟩ : Addr).add (m * 6) = ⟨b, off + m * 6, none⟩ := by unfold Addr.add; split <;> simp_all
    simp [this])
  have hrowB : kc = m → RowIs W6.heap.size 6 0 (ZkAt W6.heap.size) W6 (.slice ka (f.kbs.length - m) 0) (f.kbs.drop m) := fun e => hrow.fromN m 0 ka hm (by omega) (by intro h; omega)
  have h14b : ∀ v, RowIs W6.heap.size 6 0 (ZkAt W6.heap.size) W6 v (f.kbs.drop m) → Calls Try.prog 14 #[.bool f.known, .bool f.su, .bool f.dis, .int .i8 f.role, .string f.rt, .slice da f.deps.length dc, v] W6 fun e w' => FaRes { f with kbs := f.kbs.drop m } e w' ∧ Below W6.heap.size W6 w' :=
    fun v hv => facts_c { f with kbs := f.kbs.drop m } _ v W6 (HI.out.mono HW5.out).1 hv (HS.out.fromN m)
  have HRA := hidB hrowA
  have HRB := hidB hrowB
  have H14 := hidB h14b
  have hmod : ∀ W, Below w.heap.size w W → Calls Try.prog 15 #[.bool f.known, .bool f.su, .bool f.dis, .int .i8 f.role, .slice da f.deps.length dc, .slice ka f.kbs.length kc] W fun e w' => e = .returned (.int .i8 (max (level { f with kbs := f.kbs.take m }) (level { f with kbs := f.kbs.drop m }))) ∧ Below W.heap.size W w' := fun W hb => by
    rw [← level_split f m, level_model f]
    exact model_c f _ _ W (HI.out.mono hb).1 (HI.out.mono hb).2 HS.out
  have hdec : ∀ W, FaLies f (.slice da1 f.deps.length dc1) (.slice ka1 f.kbs.length kc1) w3.heap.size W → Calls Try.prog 9 #[.agg #[.bool f.known, .bool f.su, .bool f.dis, .int .i8 f.role, .string f.rt, .slice da1 f.deps.length dc1, .slice ka1 f.kbs.length kc1]] W fun e w' => e = .returned (.int .i8 (max (level { f with kbs := f.kbs.take m }) (level { f with kbs := f.kbs.drop m }))) ∧ Below W.heap.size W w' := fun W h => by
    rw [← level_split f m]
    exact h.decide
  have HM := hidB hmod
  have HDC := hidB hdec
  clear hrow hrowA hrowB h14b hmod hdec HI HS
  have hsz5 : w3.heap.size < w5.heap.size + 1 ∧ w5.heap.size + 1 ≤ W6.heap.size := by
    constructor
    · have := (Array.getElem?_eq_some_iff.1 HL1'.out.1).1
      rw [hW6] at this; simp at this; omega
    · rw [hW6]; simp
  subst hW6
  obtain ⟨hq1, hq2⟩ := hsz5
  clear hlm hq1 hq2
  by_cases hkm : kc = m
  all_goals first | have HCL := hidB (H14.out _ (HRB.out hkm)) | have HCL := hidB (H14.out _ HRA.out)
  all_goals clear H14 HRA HRB
  all_goals first | rw [hkm] at HM | (have hkm' : ¬ kc - m = 0 := by omega)
  all_goals go_wp2_with (fail)
  all_goals
    refine HCL.out.mono ?_
    clear HCL
    rintro e w7 ⟨⟨dv3, kv3, rfl, hd3, hk3⟩, hb⟩
    have hW7 := below_twice HW5.out hb
    have hl3 := FaLies.laid hd3 hk3
    have hal : Below w7.heap.size w7 (w7.alloc (faObj { f with kbs := f.kbs.drop m } dv3 kv3)) := (Below.refl _ w7).alloc (Nat.le_refl _) _
    have HW7 := hidB (below_twice hW7 hal)
    have HL1 := hidB (HL1'.out.mono (below_twice hb hal))
    have HL2' := hidB (HL2.out.mono (below_twice hb hal))
    have HL3 := hidB hl3
    have hx := (HL1'.out.mono hb).1
    unfold faObj at hx
    obtain ⟨x0, x1, x2, x3, x4, x5, x6⟩ := seven_cells hx
    have hsz7 : w3.heap.size < w7.heap.size := (Array.getElem?_eq_some_iff.1 hx).1
    obtain ⟨da3, dc3, rfl, _⟩ := hd3
    obtain ⟨ka3, kc3, rfl, _⟩ := hk3
    clear hb hW7 hl3 hal HW5 HL1' HL2 hx
    have hld : (List.drop m f.kbs).length = f.kbs.length - m := by simp
    simp only [faObj, hld] at HW7 HL1 HL2' HL3
    clear hld
    go_wp2_with (fail)
    obtain ⟨W8, hW8⟩ : ∃ W8, W8 = w7.alloc (.cells #[.bool f.known, .bool f.su, .bool f.dis, .int .i8 f.role, .string f.rt, .slice da3 f.deps.length dc3, .slice ka3 (f.kbs.length - m) kc3] 36) := ⟨_, rfl⟩
    rw [← hW8] at HW7 HL1 HL2' HL3 ⊢
    clear hW8 x0 x1 x2 x3 x4 x5 x6
    refine (HDC.out W8 HL1.out).mono ?_
    rintro e w9 ⟨rfl, hb⟩
    have HW9 := hidB (below_twice HW7.out hb)
    have HL2b := hidB (HL2'.out.mono hb)
    have HL3b := hidB (HL3.out.mono hb)
    clear hb HW7 HL1 HL2' HL3 HDC
    go_wp2_with (fail)
    refine (HM.out w9 HW9.out).mono ?_
    rintro e w10 ⟨rfl, hb⟩
    have HW10 := hidB (below_twice HW9.out hb)
    have HL2c := hidB (HL2b.out.mono hb)
    have HL3c := hidB (HL3b.out.mono hb)
    clear hb HW9 HL2b HL3b HM
    go_wp2_with (fail)
    have hl2 := HL2c.out.1
    have hl3 := HL3c.out.1
    simp only [faObj] at hl2 hl3
    obtain ⟨a0, a1, a2, a3, a4, a5, a6⟩ := seven_cells hl2
    obtain ⟨c0, c1, c2, c3, c4, c5, c6⟩ := seven_cells hl3
    have hlt3 : w7.heap.size < w10.heap.size := (Array.getElem?_eq_some_iff.1 hl3).1
    have hF : Calls Try.prog 9 #[.agg #[.bool f.known, .bool f.su, .bool f.dis, .int .i8 f.role, .string f.rt, .slice da2 f.deps.length dc2, .slice ka2 m kc2]] w10.drew fun e w' => e = .returned (.int .i8 (level { f with kbs := f.kbs.take m })) ∧ Below w10.heap.size w10.drew w' :=
      (HL2c.out.mono ((Below.refl _ w10).drew)).decide
    have hG : ∀ W1, Below w10.heap.size w10.drew W1 → Calls Try.prog 9 #[.agg #[.bool f.known, .bool f.su, .bool f.dis, .int .i8 f.role, .string f.rt, .slice da3 f.deps.length dc3, .slice ka3 (f.kbs.length - m) kc3]] W1 (fun e w' => e = .returned (.int .i8 (level { f with kbs := f.kbs.drop m })) ∧ Below W1.heap.size W1 w') ∧
        W1.heap[w7.heap.size]? = some (.cells #[.bool f.known, .bool f.su, .bool f.dis, .int .i8 f.role, .string f.rt, .slice da3 f.deps.length dc3, .slice ka3 (f.kbs.length - m) kc3] 36) ∧ Below w.heap.size w W1 := fun W1 hb => by
      have hb' : Below w10.heap.size w10 W1 := ((Below.refl _ w10).drew).trans hb
      exact ⟨(HL3c.out.mono hb').decide, (hb'.block _ hlt3).trans hl3, below_twice HW10.out hb'⟩
    have HF := hidB hF
    have HG := hidB hG
    clear hF hG hl2 hl3 HL2c HL3c HW10 hlt3
    generalize level { f with kbs := f.kbs.take m } = la at HF ⊢
    generalize level { f with kbs := f.kbs.drop m } = lb at HG ⊢
    go_region_with (first | (go_at_call 8; refine (maxL_c _ _ _).mono ?_; rintro e w' ⟨rfl, rfl⟩) | (go_at_call 9; refine HF.out.mono ?_; clear HF; rintro e W1 ⟨rfl, hb⟩; obtain ⟨hcall, hx, hbb⟩ := HG.out W1 hb; obtain ⟨c0', c1', c2', c3', c4', c5', c6'⟩ := seven_cells hx; have HCC := hidB hcall; have HBB := hidB hbb; clear hcall HG hx hb hbb) | (go_at_call 9; refine HCC.out.mono ?_; clear HCC; rintro e W2 ⟨rfl, hb2⟩; have HEE := hidB (below_twice HBB.out hb2); clear hb2))
    all_goals go_wp2
    all_goals go_ret
    all_goals exact ⟨rfl, HEE.out⟩
end Go.Proofs.Qxb6613755a
