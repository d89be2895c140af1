/-
  Function 7, 'FnKbSourcesStopsExactlyWhenAsked': it answers true.
-/
import Derived.Test.Qxb6613755aCount
import Derived.Test.Qxb6613755aSame
import Derived.Test.Qxb6613755aFacts
namespace Go.Proofs.Qxb6613755a
open Go.RowKit Go.Shelf
set_option linter.unusedVariables false
set_option linter.unusedSimpArgs false

/-- The arguments lie in memory. -/
def Inp (f : Fa) (dv kv : Value) (w : World) : Prop := RowIs w.heap.size 2 0 WiAt w dv f.deps ∧ RowIs w.heap.size 6 0 (ZkAt w.heap.size) w kv f.kbs
def InG (kb : Kb) (gv : Value) (w : World) : Prop := RowIs w.heap.size 2 0 GrAt w gv kb.grants
theorem Inp.mono {f : Fa} {dv kv : Value} {w w' : World} (h : Inp f dv kv w) (hb : Below w.heap.size w w') : Inp f dv kv w' :=
  ⟨h.1.mono' hb.size fun _ _ _ hb' => WiAt.below hb hb', h.2.mono' hb.size fun _ _ _ hb' h => ZkAt.mono hb.size hb hb' h⟩
theorem InG.mono {kb : Kb} {gv : Value} {w w' : World} (h : InG kb gv w) (hb : Below w.heap.size w w') : InG kb gv w' := RowIs.mono' hb.size (fun _ _ _ hb' => GrAt.below hb hb') h

theorem below_two {w w1 w2 : World} (h : Below w.heap.size w w1) (k : Below w1.heap.size w1 w2) : Below w.heap.size w w2 := h.trans (k.mono h.size)

theorem RowIs.take {α : Type} {n sz : Nat} {At : Nat → Nat → World → α → Prop} {W : World} {a : Option Addr} {l cap : Nat} {xs : List α} (h : RowIs n sz 0 At W (.slice a l cap) xs) (m : Nat) (hm : m ≤ xs.length) : RowIs n sz 0 At W (.slice a m cap) (xs.take m) := by
  obtain ⟨a', cap', e, h2, h3, h4⟩ := h
  cases e
  have hl : (xs.take m).length = m := by simp; omega
  refine ⟨_, _, by rw [hl], by omega, by omega, fun j hj => ?_⟩
  obtain ⟨b, off, e, hb, hx⟩ := h4 j (by omega)
  exact ⟨b, off, e, hb, by rw [List.getElem_take]; exact hx⟩

set_option maxRecDepth 100000 in
set_option maxHeartbeats 4000000 in
theorem walkStops (f : Fa) (kb : Kb) (dv kv gv : Value) (nn : Int) (w : World) (h4 : f.rt.size ≤ maxLen) (hi : Inp f dv kv w) (hg : InG kb gv w) :
    Calls Try.prog 7 #[.bool f.known, .bool f.su, .bool f.dis, .int .i8 f.role, .string f.rt, dv, kv, .agg #[.bool kb.creator, .int .i8 kb.vis, .int .i8 kb.lvl, .string kb.dep, .int .i8 kb.pg, gv], .int .i64 nn] w fun e w' => e = .returned (.bool true) ∧ Below w.heap.size w w' := by
  have hB : Below w.heap.size w (w.alloc (zkObj kb gv)) := (Below.refl _ w).alloc (Nat.le_refl _) _
  have hc19 : Calls Try.prog 19 #[.bool f.known, .bool f.su, .bool f.dis, .int .i8 f.role, .string f.rt, dv, kv, .agg #[.bool kb.creator, .int .i8 kb.vis, .int .i8 kb.lvl, .string kb.dep, .int .i8 kb.pg, gv], .int .i64 nn] (w.alloc (zkObj kb gv)) fun e w' => IsBool e ∧ Below (w.alloc (zkObj kb gv)).heap.size (w.alloc (zkObj kb gv)) w' :=
    bytes19 _ _ _ _ _ _ _ kb gv _ (w.alloc (zkObj kb gv)).heap.size _ _ _ h4 (hi.mono hB).1 (hi.mono hB).2 (Nat.le_refl _) (hg.mono hB)
  have hc20 : ∀ w1, Below w.heap.size w w1 → Calls Try.prog 20 #[.string f.rt, dv, kv, .agg #[.bool kb.creator, .int .i8 kb.vis, .int .i8 kb.lvl, .string kb.dep, .int .i8 kb.pg, gv]] w1 fun e w' => BigRes (Small f.deps f.kbs ∧ kb.grants.length ≤ 4096) e ∧ Below w1.heap.size w1 w' :=
    fun w1 hb => tooBigKb_c _ _ _ kb gv _ _ w1 h4 (hi.mono hb).1 (hi.mono hb).2 (hg.mono hb)
  have hc14 : ∀ w1, Below w.heap.size w w1 → Small f.deps f.kbs → Calls Try.prog 14 #[.bool f.known, .bool f.su, .bool f.dis, .int .i8 f.role, .string f.rt, dv, kv] w1 fun e w' => FaRes f e w' ∧ Below w1.heap.size w1 w' :=
    fun w1 hb hs => facts_c f dv kv w1 (hi.mono hb).1 (hi.mono hb).2 hs
  have hbox : ∀ w1, Below (w.alloc (zkObj kb gv)).heap.size (w.alloc (zkObj kb gv)) w1 → w1.heap[w.heap.size]? = some (zkObj kb gv) := fun w1 hb => (hb.block _ (by simp)).trans (World.alloc_heap_new _ _)
  have hB1 : ∀ w1, Below (w.alloc (zkObj kb gv)).heap.size (w.alloc (zkObj kb gv)) w1 → Below w.heap.size w w1 := fun w1 hb => below_two hB hb
  have HI := hidB hi
  have HG := hidB hg
  obtain ⟨⟨da, dc, rfl, _⟩, ⟨ka, kc, rfl, _⟩⟩ := hi
  obtain ⟨ga, gc, rfl, _⟩ := hg
  have H19 := hidB hc19
  have H20 := hidB hc20
  have H14 := hidB hc14
  have HX := hidB hbox
  have HB1 := hidB hB1
  clear hc19 hc20 hc14 hbox hB hB1
  unfold zkObj at H19 HX HB1
  go_enter Try.func7, Try.ntmps7
  go_wp2_with (go_at_call 19; refine H19.out.mono ?_; rintro e w1 ⟨⟨b1, rfl⟩, hb⟩; have hx := HX.out w1 hb; have hsz1 : w.heap.size < w1.heap.size := (Array.getElem?_eq_some_iff.1 hx).1; have HW1 := hidB (HB1.out w1 hb); have HV1 := hidB hb; obtain ⟨x0, x1, x2, x3, x4, x5⟩ := six_cells hx; clear hb hx H19)
  · go_ret
    exact ⟨rfl, HW1.out⟩
  · refine (H20.out w1 HW1.out).mono ?_
    rintro e w2 ⟨⟨b2, rfl, hbig⟩, hb⟩
    have HV2 := hidB (below_two HV1.out hb)
    have HW2 := hidB (HB1.out w2 HV2.out)
    have hsz2 : w.heap.size < w2.heap.size := Nat.lt_of_lt_of_le hsz1 hb.size
    have HBG := hidB hbig
    clear hb hbig HV1 HW1 H20 x0 x1 x2 x3 x4 x5 hsz1
    go_wp2_with (fail)
    · go_ret
      exact ⟨rfl, HW2.out⟩
    · obtain ⟨hsm, hgl⟩ := HBG.out (by assumption)
      have HS := hidB hsm
      refine (H14.out w2 HW2.out hsm).mono ?_
      rintro e w3 ⟨⟨dv', kv', rfl, hd', hk'⟩, hb⟩
      have HV3 := hidB (below_two HV2.out hb)
      have HW3 := hidB (HB1.out w3 HV3.out)
      have hsz3 : w.heap.size < w3.heap.size := Nat.lt_of_lt_of_le hsz2 hb.size
      have hx := HX.out w3 HV3.out
      have HD' := hidB hd'
      obtain ⟨da', dc', rfl, _⟩ := hd'
      obtain ⟨ka', kc', rfl, _⟩ := hk'
      obtain ⟨x0, x1, x2, x3, x4, x5⟩ := six_cells hx
      clear hb hx HV2 HW2 H14 hsm hsz2 HBG
      obtain ⟨L, hL⟩ : ∃ L, L = kbSrcs f.deps kb := ⟨_, rfl⟩
      have hLl : L.length ≤ 33554432 := hL ▸ kbSrcs_le f.deps kb HS.out.1 hgl
      have h21 : ∀ (W : World) (fb : Nat) (sv gv : Value), fb < W.heap.size → W.cell? ⟨fb, 0 + 5, none⟩ = some sv → RowIs W.heap.size 2 32 WiAt W sv f.deps → RowIs W.heap.size 2 24 GrAt W gv kb.grants →
          Calls Try.prog 21 #[.pointer (some ⟨fb, 0, none⟩), .agg #[.bool kb.creator, .int .i8 kb.vis, .int .i8 kb.lvl, .string kb.dep, .int .i8 kb.pg, gv]] W fun e w' => ColRes L true e w' ∧ Below W.heap.size W w' :=
        fun W fb sv gv h1 h2 h3 h4 => hL ▸ all_c kb f.deps fb 0 sv gv W (hL ▸ hLl) h1 h2 h3 h4
      have h23 : ∀ (W : World) (fb : Nat) (sv gv : Value), fb < W.heap.size → W.cell? ⟨fb, 0 + 5, none⟩ = some sv → RowIs W.heap.size 2 32 WiAt W sv f.deps → RowIs W.heap.size 2 24 GrAt W gv kb.grants →
          Calls Try.prog 23 #[.pointer (some ⟨fb, 0, none⟩), .agg #[.bool kb.creator, .int .i8 kb.vis, .int .i8 kb.lvl, .string kb.dep, .int .i8 kb.pg, gv], .int .i64 nn] W fun e w' => ColRes (L.take (max nn 1).toNat) (decide ((L.length : Int) < max nn 1)) e w' ∧ Below W.heap.size W w' :=
        fun W fb sv gv h1 h2 h3 h4 => hL ▸ first_c kb f.deps fb 0 sv gv nn W (hL ▸ hLl) h1 h2 h3 h4
      have h24 : ∀ W, Below w.heap.size w W → Calls Try.prog 24 #[.slice da f.deps.length dc, .agg #[.bool kb.creator, .int .i8 kb.vis, .int .i8 kb.lvl, .string kb.dep, .int .i8 kb.pg, .slice ga kb.grants.length gc]] W fun e w' => e = .returned (.int .i64 (L.length : Nat)) ∧ w' = W.alloc (zkObj kb (.slice ga kb.grants.length gc)) :=
        fun W hb => hL ▸ countSources_c kb _ _ f.deps W (HI.out.mono hb).1 HS.out.1 (HG.out.mono hb) hgl
      have h22 : ∀ W, Below w.heap.size w W → Calls Try.prog 22 #[.agg #[.bool kb.creator, .int .i8 kb.vis, .int .i8 kb.lvl, .string kb.dep, .int .i8 kb.pg, .slice ga kb.grants.length gc]] W fun e w' => KbRes W.heap.size kb e w' ∧ Below W.heap.size W w' :=
        fun W hb => kb_c kb _ W (HG.out.mono hb) hgl
      have H21 := hidB h21
      have H22 := hidB h22
      have H23 := hidB h23
      have H24 := hidB h24
      clear h21 h22 h23 h24 hL HI HG HS
      go_wp2_with (fail)
      obtain ⟨W4, hW4⟩ : ∃ W4, W4 = w3.alloc (.cells #[.bool f.known, .bool f.su, .bool f.dis, .int .i8 f.role, .string f.rt, .slice da' f.deps.length dc', .slice ka' f.kbs.length kc'] 36) := ⟨_, rfl⟩
      rw [← hW4]
      have hB4 : Below w3.heap.size w3 W4 := hW4 ▸ (Below.refl _ w3).alloc (Nat.le_refl _) _
      have hfa : W4.heap[w3.heap.size]? = some (.cells #[.bool f.known, .bool f.su, .bool f.dis, .int .i8 f.role, .string f.rt, .slice da' f.deps.length dc', .slice ka' f.kbs.length kc'] 36) := hW4 ▸ World.alloc_heap_new _ _
      have hsz4 : w3.heap.size < W4.heap.size := by rw [hW4]; simp
      have HV4 := hidB (below_two HV3.out hB4)
      have HW4 := hidB (HB1.out W4 HV4.out)
      have HD4 := hidB (HD'.out.mono' hB4.size (fun _ _ _ hb' => WiAt.below hB4 hb'))
      have HFA := hidB hfa
      clear hfa hB4 HV3 HW3 HD' x0 x1 x2 x3 x4 x5 hW4
      refine (H22.out W4 HW4.out).mono ?_
      rintro e w5 ⟨⟨gv1, rfl, hg1, _⟩, hb⟩
      have HV5 := hidB (below_two HV4.out hb)
      have HW5 := hidB (HB1.out w5 HV5.out)
      have HB5 := hidB hb
      have HG1 := hidB hg1
      obtain ⟨ga1, gc1, rfl, _⟩ := hg1
      clear hb
      go_wp2_with (fail)
      refine (H21.out w5 w3.heap.size _ _ (Nat.lt_of_lt_of_le hsz4 HB5.out.size) (cell_at ((HB5.out.block _ hsz4).trans HFA.out)) (HD4.out.mono' HB5.out.size (fun _ _ _ hb' => WiAt.below HB5.out hb')) HG1.out).mono ?_
      rintro e w6 ⟨⟨fv, rfl, hr6⟩, hb⟩
      have HV6 := hidB (below_two HV5.out hb)
      have HW6 := hidB (HB1.out w6 HV6.out)
      have HB6 := hidB (below_two HB5.out hb)
      have HR6 := hidB hr6
      obtain ⟨fa, fc, rfl, hfc, hff⟩ := hr6
      clear hff
      have hx := HX.out w6 HV6.out
      obtain ⟨x0, x1, x2, x3, x4, x5⟩ := six_cells hx
      clear hb hx H21 HG1 HV5 HW5 HB5 HV4 HW4
      go_wp2_with (fail)
      refine (H22.out w6 HW6.out).mono ?_
      rintro e w7 ⟨⟨gv2, rfl, hg2, _⟩, hb⟩
      have HV7 := hidB (below_two HV6.out hb)
      have HW7 := hidB (HB1.out w7 HV7.out)
      have HB7 := hidB (below_two HB6.out hb)
      have HR7 := hidB (HR6.out.mono' hb.size (fun _ _ _ hb' => SrcAt.below hb hb'))
      have HG2 := hidB hg2
      obtain ⟨ga2, gc2, rfl, _⟩ := hg2
      clear hb H22 HV6 HW6 HB6 HR6 x0 x1 x2 x3 x4 x5
      go_wp2_with (fail)
      refine (H23.out w7 w3.heap.size _ _ (Nat.lt_of_lt_of_le hsz4 HB7.out.size) (cell_at ((HB7.out.block _ hsz4).trans HFA.out)) (HD4.out.mono' HB7.out.size (fun _ _ _ hb' => WiAt.below HB7.out hb')) HG2.out).mono ?_
      rintro e w8 ⟨⟨pv, rfl, hr8⟩, hb⟩
      have HV8 := hidB (below_two HV7.out hb)
      have HW8 := hidB (HB1.out w8 HV8.out)
      have hR8 := HR7.out.mono' hb.size (fun _ _ _ hb' => SrcAt.below hb hb')
      have hx := HX.out w8 HV8.out
      obtain ⟨x0, x1, x2, x3, x4, x5⟩ := six_cells hx
      have hsz8 : w.heap.size < w8.heap.size := (Array.getElem?_eq_some_iff.1 hx).1
      clear hb hx H23 HV7 HW7 HB7 HR7 HG2 HFA HD4 HB1 HX
      go_wp2_with (fail)
      refine (H24.out w8 HW8.out).mono ?_
      rintro e w9 ⟨rfl, hw9⟩
      have hb : Below w8.heap.size w8 w9 := hw9 ▸ (Below.refl _ w8).alloc (Nat.le_refl _) _
      have HW9 := hidB (below_two HW8.out hb)
      have hR9 := hR8.mono' hb.size (fun _ _ _ hb' => SrcAt.below hb hb')
      obtain ⟨LP, hLP⟩ : ∃ LP, LP = L.take (max nn 1).toNat := ⟨_, rfl⟩
      rw [← hLP] at hr8
      have hP9 := hr8.mono' hb.size (fun _ _ _ hb' => SrcAt.below hb hb')
      obtain ⟨pa, pc, rfl, hpp⟩ := hr8
      clear hpp
      have hle : LP.length ≤ L.length := by rw [hLP]; simp; omega
      have hF9 := hR9.take LP.length hle
      have ht : L.take LP.length = LP := by rw [hLP, List.length_take]; simp
      rw [ht] at hF9
      have h25 := same_c _ _ _ LP w9 hP9 hF9 (Nat.le_refl _) (Nat.le_trans hle hLl)
      have H25 := hidB h25
      have hT : (LP.length : Int) = min (max nn 1) (L.length : Int) := by rw [hLP, List.length_take]; omega
      clear h25 hP9 hF9 hR9 hR8 hb hw9 ht hLP HW8 H24 x0 x1 x2 x3 x4 x5 hsz8 hsz4 hsz3
      generalize LP.length = PL at hT hle H25 ⊢
      generalize L.length = LL at hT hle hfc hLl ⊢
      by_cases hst : max nn 1 ≤ (LL : Int)
      · have hok : decide ((LL : Int) < max nn 1) = false := by simp; omega
        rw [hok]
        by_cases hn1 : nn < 1
        · have hPL : PL = 1 := by omega
          subst hPL
          go_wp2_with (fail)
          refine H25.out.mono ?_
          rintro e w10 ⟨rfl, hb⟩
          have HB := hidB (below_two HW9.out hb)
          clear hb H25
          go_wp2
          go_ret
          exact ⟨rfl, HB.out⟩
        · obtain rfl : nn = (PL : Int) := by omega
          have q1 : (PL : Int) ≤ LL := by omega
          have q2 : 1 ≤ (PL : Int) := by omega
          clear hT hst hok hn1 hle
          go_wp2_with (fail)
          refine H25.out.mono ?_
          rintro e w10 ⟨rfl, hb⟩
          have HB := hidB (below_two HW9.out hb)
          clear hb H25
          go_wp2
          go_ret
          exact ⟨rfl, HB.out⟩
      · have hok : decide ((LL : Int) < max nn 1) = true := by simp; omega
        rw [hok]
        have hPL : PL = LL := by omega
        subst hPL
        have q1 : (PL : Int) < 1 ∨ (PL : Int) < nn := by omega
        clear hT hok hle hst
        by_cases hn1 : nn < 1
        · have hPL0 : PL = 0 := by omega
          subst hPL0
          clear q1
          go_wp2_with (fail)
          refine H25.out.mono ?_
          rintro e w10 ⟨rfl, hb⟩
          have HB := hidB (below_two HW9.out hb)
          clear hb H25
          go_wp2
          go_ret
          exact ⟨rfl, HB.out⟩
        · replace q1 : (PL : Int) < nn := by omega
          go_wp2_with (fail)
          refine H25.out.mono ?_
          rintro e w10 ⟨rfl, hb⟩
          have HB := hidB (below_two HW9.out hb)
          clear hb H25
          go_wp2
          go_ret
          exact ⟨rfl, HB.out⟩
end Go.Proofs.Qxb6613755a
