/-
  Functions 8 and 6: 'lifetime' and 'ZZlifetime' at the text of n.
-/
import Derived.Test.Qxb6605652aFmtParseNeg
namespace Go.Proofs.Qxb6605652aFmt
open Go.RowKit
set_option linter.unusedVariables false
set_option linter.unusedSimpArgs false

theorem parse_c (bm : Nat) (n : Int) (w : World) (s : ByteArray) (h0 : -9223372036854775808 ≤ n) (h1 : n ≤ 9223372036854775807) (hs : DurText n s) (hU : ∀ W', Below w.heap.size w W' → Units bm W') :
    Calls Tryf.prog 10 #[.string s] w fun e w' => e = .returned (.tuple #[.int .i64 n, .nilIface]) ∧ Below w.heap.size w w' := by
  obtain ⟨A, B, hA, hA0, hB, hB0, hd, hn, hz⟩ := hs
  have hg : ∀ x ∈ [(⟨A, [115], 1000000000⟩ : Item), ⟨B, [110, 115], 1⟩], x.Good := by
    intro x hx
    rcases List.mem_cons.1 hx with rfl | hx
    · exact ⟨hA, hA0, Or.inl ⟨rfl, rfl⟩⟩
    · rcases List.mem_cons.1 hx with rfl | hx
      · exact ⟨hB, hB0, Or.inr ⟨rfl, rfl⟩⟩
      · cases hx
  have hf : flat [(⟨A, [115], 1000000000⟩ : Item), ⟨B, [110, 115], 1⟩] = A ++ ([115] ++ (B ++ [110, 115])) := by simp [flat]
  have ht : total [(⟨A, [115], 1000000000⟩ : Item), ⟨B, [110, 115], 1⟩] = n.natAbs := by rw [← hn]; simp [total]
  rw [← hf] at hd
  by_cases hneg : n < 0
  · rw [if_pos hneg] at hd
    have e : n = -(n.natAbs : Int) := by omega
    have := parse_neg bm n.natAbs w s _ hg hd hz ht (by omega) (by simp) hU
    rw [← e] at this
    exact this
  · rw [if_neg hneg] at hd
    have e : n = (n.natAbs : Int) := by omega
    have := parse_pos bm n.natAbs w s _ hg hd hz ht (by omega) (by simp) hU
    rw [← e] at this
    exact this

set_option maxRecDepth 100000 in
set_option maxHeartbeats 4000000 in
theorem get_c (w : World) (p : Nat) (v name : ByteArray) (hc : w.cell? ⟨p, 0, none⟩ = some (.string v)) :
    Calls Tryf.prog 9 #[.string name, .pointer (some ⟨p, 0, none⟩)] w fun e w' => e = .returned (.string v) ∧ w' = w := by
  go_enter Tryf.func9, Tryf.ntmps9
  go_wp2
  go_ret
  exact ⟨rfl, rfl⟩

theorem tape_alloc {F : Stop.Interp} {B : Nat} {w w1 : World} (h : F.answers w.tape) (hb : Below B w w1) (o : Obj) : F.answers (w1.alloc o).tape := by
  show F.answers w1.tape
  rw [hb.tape]; exact h

set_option maxRecDepth 100000 in
set_option maxHeartbeats 4000000 in
theorem life_c (F : Stop.Interp) (bm : Nat) (n : Int) (v name fb : ByteArray) (w : World) (p : Nat) (hF : F.answers w.tape) (hp : p < w.heap.size) (hc : w.cell? ⟨p, 0, none⟩ = some (.string v)) (h0 : -9223372036854775808 ≤ n) (h1 : n ≤ 9223372036854775807)
    (t : ByteArray) (ht : (v.toList.isEmpty = false ∧ t = v) ∨ (v.toList.isEmpty = true ∧ t = fb)) (hs : DurText n t) (hU : ∀ W', Below w.heap.size w W' → Units bm W') :
    Calls Tryf.prog 8 #[.func (.func 9) #[] #[.pointer (some ⟨p, 0, none⟩)], .string name, .string fb] w fun e w' => ((1000000000 ≤ n ∧ e = .returned (.tuple #[.int .i64 n, .nilIface])) ∨ (n < 1000000000 ∧ ∃ a, e = .returned (.tuple #[.int .i64 0, .iface 51 (.pointer (some a))]))) ∧ Below w.heap.size w w' := by
  have hparse := parse_c bm n w t h0 h1 hs hU
  have hget := fun W h => get_c W p v name h
  have HP := hidL hparse
  have HG := hidL hget
  have HF := hidL hF
  clear hparse hget hs hU hF
  go_enter Tryf.func8, Tryf.ntmps8
  go_wp2_with (fail)
  refine (HG.out _ hc).mono ?_
  rintro e w1 ⟨rfl, hw⟩
  have hw' := hw.symm
  clear hw
  subst hw'
  rcases ht with ⟨hv, rfl⟩ | ⟨hv, rfl⟩
  · go_wp2_with (fail)
    refine HP.out.mono ?_
    rintro e w1 ⟨rfl, hb1⟩
    have HB := hidL hb1
    clear hb1 HP
    by_cases hn : n < 1000000000
    · go_wp2_with (fail)
      refine (HG.out _ ((HB.out.cell (p := ⟨p, 0, none⟩) hp).trans hc)).mono ?_
      rintro e w2 ⟨rfl, hw⟩
      have hw' := hw.symm
      clear hw
      subst hw'
      clear HG hc
      go_wp2_with (fail)
      refine (errorf_c F _ _ _ w1.heap.size _ (tape_alloc HF.out HB.out _) (World.cell?_alloc_mark _ _ _ _ _) (World.cell?_alloc_mark _ _ _ _ _) (World.cell?_alloc_mark _ _ _ _ _)).mono ?_
      rintro e w2 ⟨⟨a, rfl⟩, hb2⟩
      have HB2 := hidL hb2
      clear hb2
      go_wp2_with (fail)
      go_ret2
      exact ⟨Or.inr ⟨hn, _, rfl⟩, (HB.out.alloc HB.out.size _).trans (HB2.out.mono (Nat.le_trans HB.out.size (Below.refl _ w1 |>.alloc (Nat.le_refl _) _).size))⟩
    · go_wp2_with (fail)
      go_ret2
      exact ⟨Or.inl ⟨by omega, rfl⟩, HB.out⟩
  · go_wp2_with (fail)
    refine HP.out.mono ?_
    rintro e w1 ⟨rfl, hb1⟩
    have HB := hidL hb1
    clear hb1 HP
    by_cases hn : n < 1000000000
    · go_wp2_with (fail)
      refine (HG.out _ ((HB.out.cell (p := ⟨p, 0, none⟩) hp).trans hc)).mono ?_
      rintro e w2 ⟨rfl, hw⟩
      have hw' := hw.symm
      clear hw
      subst hw'
      clear HG hc
      go_wp2_with (fail)
      refine (errorf_c F _ _ _ w1.heap.size _ (tape_alloc HF.out HB.out _) (World.cell?_alloc_mark _ _ _ _ _) (World.cell?_alloc_mark _ _ _ _ _) (World.cell?_alloc_mark _ _ _ _ _)).mono ?_
      rintro e w2 ⟨⟨a, rfl⟩, hb2⟩
      have HB2 := hidL hb2
      clear hb2
      go_wp2_with (fail)
      go_ret2
      exact ⟨Or.inr ⟨hn, _, rfl⟩, (HB.out.alloc HB.out.size _).trans (HB2.out.mono (Nat.le_trans HB.out.size (Below.refl _ w1 |>.alloc (Nat.le_refl _) _).size))⟩
    · go_wp2_with (fail)
      go_ret2
      exact ⟨Or.inl ⟨by omega, rfl⟩, HB.out⟩
end Go.Proofs.Qxb6605652aFmt
