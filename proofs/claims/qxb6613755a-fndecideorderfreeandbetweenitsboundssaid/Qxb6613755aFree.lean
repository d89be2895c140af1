/-
  Function 6, 'FnDecideOrderFreeAndBetweenItsBounds', its last part: the loops that reckon the bounds.
-/
import Derived.Test.Qxb6613755aOrder
import Derived.Test.Qxb6613755aActive
import Derived.Test.Qxb6613755aLaid
namespace Go.Proofs.Qxb6613755a
open Go.RowKit Go.Shelf
set_option linter.unusedVariables false
set_option linter.unusedSimpArgs false

theorem slotsT {a : Act} {ds : List Deferred} {v6 v17 v19 v20 : Value} (h : Slots 140 [(6, v6), (17, v17), (19, v19), (20, v20)] ds a) : ∃ f : Nat → Value, a = { tmps := List.toArray (f 0 :: f 1 :: f 2 :: f 3 :: f 4 :: f 5 :: v6 :: f 7 :: f 8 :: f 9 :: f 10 :: f 11 :: f 12 :: f 13 :: f 14 :: f 15 :: f 16 :: v17 :: f 18 :: v19 :: v20 :: f 21 :: f 22 :: f 23 :: f 24 :: f 25 :: f 26 :: f 27 :: f 28 :: f 29 :: f 30 :: f 31 :: f 32 :: f 33 :: f 34 :: f 35 :: f 36 :: f 37 :: f 38 :: f 39 :: f 40 :: f 41 :: f 42 :: f 43 :: f 44 :: f 45 :: f 46 :: f 47 :: f 48 :: f 49 :: f 50 :: f 51 :: f 52 :: f 53 :: f 54 :: f 55 :: f 56 :: f 57 :: f 58 :: f 59 :: f 60 :: f 61 :: f 62 :: f 63 :: f 64 :: f 65 :: f 66 :: f 67 :: f 68 :: f 69 :: f 70 :: f 71 :: f 72 :: f 73 :: f 74 :: f 75 :: f 76 :: f 77 :: f 78 :: f 79 :: f 80 :: f 81 :: f 82 :: f 83 :: f 84 :: f 85 :: f 86 :: f 87 :: f 88 :: f 89 :: f 90 :: f 91 :: f 92 :: f 93 :: f 94 :: f 95 :: f 96 :: f 97 :: f 98 :: f 99 :: f 100 :: f 101 :: f 102 :: f 103 :: f 104 :: f 105 :: f 106 :: f 107 :: f 108 :: f 109 :: f 110 :: f 111 :: f 112 :: f 113 :: f 114 :: f 115 :: f 116 :: f 117 :: f 118 :: f 119 :: f 120 :: f 121 :: f 122 :: f 123 :: f 124 :: f 125 :: f 126 :: f 127 :: f 128 :: f 129 :: f 130 :: f 131 :: f 132 :: f 133 :: f 134 :: f 135 :: f 136 :: f 137 :: f 138 :: f 139 :: []), defers := ds } := by
  obtain ⟨rfl, hn, hv⟩ := h
  obtain ⟨f, hf⟩ : ∃ f : Nat → Value, f = fun i => a.tmps.getD i undef := ⟨_, rfl⟩
  have ht := tabF_of a.tmps f (fun i hi => by simp [hf, hi])
  have he : ∀ i v, a.tmps[i]? = some v → f i = v := fun i v h => by simp [hf, h]
  clear hf
  rw [hn] at ht
  have e6 := he 6 v6 (hv (6, v6) (by simp))
  have e17 := he 17 v17 (hv (17, v17) (by simp))
  have e19 := he 19 v19 (hv (19, v19) (by simp))
  have e20 := he 20 v20 (hv (20, v20) (by simp))
  refine ⟨f, ?_⟩
  simp only [tabF, Nat.reduceAdd, e6, e17, e19, e20] at ht
  obtain ⟨t, ds⟩ := a
  simp only at ht
  subst ht
  rfl

def f6Tail (c : Code) : Code := (seqR (seqR (seqR (seqR (seqR (seqR (seqR (seqR (seqR (seqR (seqR (seqR c))))))))))))

set_option maxRecDepth 100000 in
set_option maxHeartbeats 4000000 in
theorem freeTail (f : Fa) (kv : Value) (w W : World) (lo0 hi0 : Int) (a1 : Act) (QQ : Exit → Act → World → Prop)
    (hQ : ∀ a' W', Slots 140 [(14, .bool true)] [] a' → Below w.heap.size w W' → QQ .ret a' W')
    (hk : RowIs w.heap.size 6 0 (ZkAt w.heap.size) w kv f.kbs) (hs : Small f.deps f.kbs) (hb : Below w.heap.size w W) (hlive : Live f)
    (hlo : lo0 ≤ level f) (hhi : level f ≤ maxFrom hi0 (kbsSrcs f.deps (f.kbs.drop 0)))
    (ha1 : Slots 140 [(6, kv), (17, .int .i8 (level f)), (19, .int .i8 lo0), (20, .int .i8 hi0)] [] a1) :
    (f6Tail (Try.f6.body.getD .skip)).wp Try.prog QQ a1 W := by
  obtain ⟨hs1, hs2, hs3⟩ := hs
  have hlk := fun k hk => level_kb f hlive k hk
  have hst := fun k hk hi hi' => hi_step f.deps f.kbs k hk (level f) hi hi'
  generalize level f = got at hlo hhi ha1 hlk hst
  obtain ⟨ka, kc, rfl, _, _, hel⟩ := hk
  have HK := hidB hel
  have HS := hidB hs3
  have HL := hidB hlk
  have HT := hidB hst
  have HQ := hidB hQ
  have H0 := hidB hhi
  have HB0 := hidB hb
  clear hel hs3 hlk hst hQ hhi hb hlive
  obtain ⟨us, rfl⟩ := slotsT ha1
  clear ha1
  dsimp only [f6Tail, seqR, Try.f6, Option.getD]
  go_wp2
  go_loopw [19, 20, 21, 22, 23] (fun l h i _ _ wr => ∃ (k : Nat) (lo hi : Int), k ≤ f.kbs.length ∧ i = .int .i64 (k : Int) ∧ l = .int .i8 lo ∧ h = .int .i8 hi ∧ lo ≤ got ∧ got ≤ maxFrom hi (kbsSrcs f.deps (f.kbs.drop k)) ∧ Below w.heap.size w wr) (fun _ _ i _ _ _ => f.kbs.length - (intOf i).toNat)
  case atStart => exact ⟨0, _, _, Nat.zero_le _, rfl, rfl, rfl, hlo, H0.out, HB0.out⟩
  case round =>
    obtain ⟨k, lo, hi, hk, rfl, rfl, rfl, hlo', hhi', hbel⟩ := hrel
    clear H0 HB0 hlo
    have hsz := hbel.size
    by_cases hlt : k < f.kbs.length
    · obtain ⟨b, off, rfl, hb, hz⟩ := HK.out k hlt
      replace hz := hz.below hbel hb
      have hgl := HS.out k hlt
      have hl := HL.out k hlt
      have ht := fun hi' => HT.out k hlt hi hi' hhi'
      clear HK HS HL HT hhi'
      generalize f.kbs[k] = x at hz hgl hl ht
      obtain ⟨cr, vis, lvl, dep, pg, gs⟩ := x
      obtain ⟨z0, z1, z2, z3, z4, gv, z5, hg⟩ := hz
      simp only at z0 z1 z2 z3 z4 z5 hg hgl hl ht
      obtain ⟨l1, l2, l3⟩ := hl
      obtain ⟨ga, gc, rfl, _, _, hgel⟩ := hg
      have hb1 : Below w.heap.size wr (wr.alloc (.cells #[.bool cr, .int .i8 vis, .int .i8 lvl, .string dep, .int .i8 pg, .slice ga gs.length gc] 53)) := (Below.refl _ wr).alloc hsz _
      have HB := hidB (hbel.trans hb1)
      have hgel' : ∀ j (h : j < gs.length), ∃ b off, ga = some ⟨b, off, none⟩ ∧ GrAt b (off + j * 2) (wr.alloc (.cells #[.bool cr, .int .i8 vis, .int .i8 lvl, .string dep, .int .i8 pg, .slice ga gs.length gc] 53)) gs[j] := fun j h => by
        obtain ⟨b, off, e, hb, hx⟩ := hgel j h
        exact ⟨b, off, e, GrAt.below hb1 hb hx⟩
      have HG := hidB hgel'
      have HT := hidB ht
      have HL1 := hidB l1
      have HL2 := hidB l2
      clear hgel hgel' hb1 hbel hb ht l1 l2
      have hcase : (vis = 2) ∨ (vis ≠ 2) := by omega
      obtain ⟨crb, hcrb⟩ : ∃ crb : Prop, crb = (cr = true) := ⟨_, rfl⟩
      have HCR := hidB hcrb
      clear hcrb
      rcases hcase with rfl | h2 <;> cases cr
      all_goals try have q1 := HL1.out rfl
      all_goals try have q2 := HL2.out rfl
      all_goals clear HL1 HL2
      all_goals go_wp2_with (go_at_call 8; refine (maxL_c _ _ _).mono ?_; rintro e w' ⟨rfl, rfl⟩)
      all_goals
        go_loop [20, 23] (fun h j => ∃ (m : Nat) (b2 : Int), m ≤ gs.length ∧ j = .int .i64 (m : Int) ∧ h = .int .i8 b2 ∧ hi ≤ b2 ∧ lvl ≤ b2 ∧ pg ≤ b2 ∧ (crb → 3 ≤ b2) ∧ ∀ i (h : i < gs.length), i < m → gs[i].lvl ≤ b2) (fun _ j => gs.length - (intOf j).toNat)
        case atStart => exact ⟨0, _, Nat.zero_le _, rfl, rfl, by omega, by omega, by omega, by first | (intro h; rw [HCR.out] at h; cases h; done) | (intro _; omega), fun i _ h => by omega⟩
        case round =>
          obtain ⟨m, b2, hm, rfl, rfl, r1, r2, r3, r4, r5⟩ := hrel
          have HR4 := hidB r4
          have HR5 := hidB r5
          clear r4 r5
          by_cases hlt2 : m < gs.length
          · obtain ⟨b', off', rfl, y0, y1⟩ := HG.out m hlt2
            have hstep : ∀ i (h : i < gs.length), i < m + 1 → gs[i].lvl ≤ max b2 gs[m].lvl := fun i h hi => by
              by_cases e : i = m
              · subst e; omega
              · have := HR5.out i h (by omega); omega
            have HST := hidB hstep
            clear HG HR5 hstep
            generalize gs[m] = y at y0 y1 HST
            go_wp2_with (go_at_call 8; refine (maxL_c _ _ _).mono ?_; rintro e w' ⟨rfl, rfl⟩)
            go_round
            case rel => exact ⟨m + 1, _, by omega, by go_num, rfl, by omega, by omega, by omega, fun h => by have := HR4.out h; omega, HST.out⟩
            case measure => simp [intOf]; omega
          · have hfin := HT.out b2 r1 (fun h => HR4.out (by rw [HCR.out]; exact h)) r2 r3 (fun j hj => HR5.out j hj (by omega))
            have HFN := hidB hfin
            clear HG HR4 HR5 HT hfin
            go_wp2
            go_roundw
            case rel => exact ⟨k + 1, _, _, by omega, by go_num, rfl, rfl, by omega, HFN.out, HB.out⟩
            case measure => simp [intOf]; omega
    · have e : f.kbs.drop k = [] := List.drop_eq_nil_of_le (by omega)
      rw [e] at hhi'
      have hc3 : got ≤ hi := hhi'
      have HB := hidB hbel
      clear HK HS HL HT hbel hhi'
      go_wp2
      exact HQ.out _ _ ⟨rfl, rfl, by simp⟩ HB.out
end Go.Proofs.Qxb6613755a
