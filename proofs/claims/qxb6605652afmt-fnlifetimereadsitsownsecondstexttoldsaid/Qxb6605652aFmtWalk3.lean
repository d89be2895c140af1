/-
  Functions 6, 4 and 3: 'ZZlifetime', the size check and the law.
-/
import Derived.Test.Qxb6605652aFmtLife
namespace Go.Proofs.Qxb6605652aFmt
open Go.RowKit
set_option linter.unusedVariables false
set_option linter.unusedSimpArgs false

/-- What 'lifetime' answers at n's text. -/
def LifeOut (n : Int) (e : Ending) : Prop := (1000000000 ≤ n ∧ e = .returned (.tuple #[.int .i64 n, .nilIface])) ∨ (n < 1000000000 ∧ ∃ a, e = .returned (.tuple #[.int .i64 0, .iface 51 (.pointer (some a))]))

set_option maxRecDepth 100000 in
set_option maxHeartbeats 4000000 in
theorem zlife_c (F : Stop.Interp) (bm : Nat) (n : Int) (v name fb : ByteArray) (w : World) (hF : F.answers w.tape) (h0 : -9223372036854775808 ≤ n) (h1 : n ≤ 9223372036854775807)
    (t : ByteArray) (ht : (v.toList.isEmpty = false ∧ t = v) ∨ (v.toList.isEmpty = true ∧ t = fb)) (hs : DurText n t) (hU : ∀ W', Below w.heap.size w W' → Units bm W') :
    Calls Tryf.prog 6 #[.string v, .string name, .string fb] w fun e w' => LifeOut n e ∧ Below w.heap.size w w' := by
  have hal : ∀ o, Below w.heap.size w (w.alloc o) := fun o => (Below.refl _ w).alloc (Nat.le_refl _) o
  have hl := life_c F bm n v name fb (w.alloc (.cells #[.string v] 9)) w.heap.size hF (by show _ < (w.heap.push _).size; simp) (World.cell?_alloc_mark _ _ _ _ _) h0 h1 t ht hs (fun W' h => hU W' ((hal _).trans (h.mono (hal _).size)))
  have HL := hidL hl
  have HA := hidL hal
  clear hl hal ht hs hU hF
  go_enter Tryf.func6, Tryf.ntmps6
  go_wp2_with (fail)
  refine HL.out.mono ?_
  rintro e w1 ⟨h | h, hb⟩
  · obtain ⟨hn, rfl⟩ := h
    have HB := hidL hb
    clear hb HL
    go_wp2_with (fail)
    go_ret2
    exact ⟨Or.inl ⟨hn, rfl⟩, (HA.out _).trans (HB.out.mono (HA.out _).size)⟩
  · obtain ⟨hn, a, rfl⟩ := h
    have HB := hidL hb
    clear hb HL
    go_wp2_with (fail)
    go_ret2
    exact ⟨Or.inr ⟨hn, a, rfl⟩, (HA.out _).trans (HB.out.mono (HA.out _).size)⟩

/-- One bool. -/
def IsB (e : Ending) : Prop := ∃ b, e = .returned (.bool b)

set_option maxRecDepth 100000 in
set_option maxHeartbeats 4000000 in
theorem bytes_c (n : Int) (name fb : ByteArray) (w : World) :
    Calls Tryf.prog 4 #[.int .i64 n, .string name, .string fb] w fun e w' => IsB e ∧ w' = w := by
  by_cases h1 : (1048576 : Int) < (name.size : Int)
  · go_enter Tryf.func4, Tryf.ntmps4
    go_wp2
    go_ret
    exact ⟨⟨_, rfl⟩, rfl⟩
  · have h1' : (name.size : Int) ≤ 1048576 := by omega
    by_cases h2 : (1048576 : Int) < (fb.size : Int)
    · go_enter Tryf.func4, Tryf.ntmps4
      go_wp2
      go_ret
      exact ⟨⟨_, rfl⟩, rfl⟩
    · have h2' : (fb.size : Int) ≤ 1048576 := by omega
      by_cases h3 : (1048576 : Int) < (name.size : Int) + (fb.size : Int)
      · go_enter Tryf.func4, Tryf.ntmps4
        go_wp2
        go_ret
        exact ⟨⟨_, rfl⟩, rfl⟩
      · go_enter Tryf.func4, Tryf.ntmps4
        go_wp2
        go_ret
        exact ⟨⟨_, rfl⟩, rfl⟩

theorem dur_some {n : Int} {s : ByteArray} (h : DurText n s) : s.toList.isEmpty = false := by
  obtain ⟨A, B, _, hA, _, _, hd, _, _⟩ := h
  rw [ByteArray.toList_eq, hd]
  split
  · rfl
  · cases A with
    | nil => exact absurd rfl hA
    | cons a A => rfl

set_option maxRecDepth 100000 in
set_option maxHeartbeats 4000000 in
theorem law_c (F : Stop.Interp) (bm : Nat) (n : Int) (name fb : ByteArray) (w : World) (hF : F.answers w.tape) (h0 : -9223372036854775808 ≤ n) (h1 : n ≤ 9223372036854775807) (hU : ∀ W', Below w.heap.size w W' → Units bm W') :
    Calls Tryf.prog 3 #[.int .i64 n, .string name, .string fb] w fun e w' => e = .returned (.bool true) ∧ Below w.heap.size w w' := by
  have hby := bytes_c n name fb w
  have hdu := dur_c n w h0 h1
  have hzl : ∀ (v nm f2 t : ByteArray) (W : World), Below w.heap.size w W → ((v.toList.isEmpty = false ∧ t = v) ∨ (v.toList.isEmpty = true ∧ t = f2)) → DurText n t → Calls Tryf.prog 6 #[.string v, .string nm, .string f2] W fun e w' => LifeOut n e ∧ Below W.heap.size W w' :=
    fun v nm f2 t W hb ht hs => zlife_c F bm n v nm f2 W (by rw [hb.tape]; exact hF) h0 h1 t ht hs (fun W' h => hU W' (hb.trans (h.mono hb.size)))
  have HY := hidL hby
  have HD := hidL hdu
  have HZ := hidL hzl
  clear hby hdu hzl hF hU
  go_enter Tryf.func3, Tryf.ntmps3
  go_wp2_with (fail)
  refine HY.out.mono ?_
  rintro e w1 ⟨⟨b, rfl⟩, hw⟩
  have hw' := hw.symm
  clear hw
  subst hw'
  cases b with
  | false =>
    go_wp2_with (fail)
    go_ret
    exact ⟨rfl, Below.refl _ _⟩
  | true =>
    by_cases g1 : (1048576 : Int) < (name.size : Int)
    · go_wp2_with (fail)
      go_ret
      exact ⟨rfl, Below.refl _ _⟩
    · by_cases g2 : (1048576 : Int) < (fb.size : Int)
      · go_wp2_with (fail)
        go_ret
        exact ⟨rfl, Below.refl _ _⟩
      · have g1' : (name.size : Int) ≤ 1048576 := by omega
        have g2' : (fb.size : Int) ≤ 1048576 := by omega
        by_cases g3 : (1048576 : Int) < (name.size : Int) + (fb.size : Int)
        · go_wp2_with (fail)
          go_ret
          exact ⟨rfl, Below.refl _ _⟩
        · go_wp2_with (fail)
          refine HD.out.mono ?_
          rintro e w1 ⟨s, rfl, hs, hb1⟩
          have HS := hidL hs
          have HB1 := hidL hb1
          clear hs hb1 HD HY
          go_wp2_with (fail)
          refine (HZ.out s name fb s w1 HB1.out (Or.inl ⟨dur_some HS.out, rfl⟩) HS.out).mono ?_
          rintro e w2 ⟨ho, hb2⟩
          have HB2 := hidL (HB1.out.trans (hb2.mono HB1.out.size))
          clear hb2
          rcases ho with ⟨hn, rfl⟩ | ⟨hn, a, rfl⟩
          · go_wp2_with (fail)
            refine (HZ.out _ name s s w2 HB2.out (Or.inr ⟨str_none rfl, rfl⟩) HS.out).mono ?_
            rintro e w3 ⟨ho, hb3⟩
            have HB3 := hidL (HB2.out.trans (hb3.mono HB2.out.size))
            clear hb3
            rcases ho with ⟨hn3, rfl⟩ | ⟨hn3, a3, rfl⟩
            · have hn4 : ¬ n < 1000000000 := by omega
              go_wp2_with (fail)
              go_ret
              exact ⟨rfl, HB3.out⟩
            · omega
          · go_wp2_with (fail)
            refine (HZ.out _ name s s w2 HB2.out (Or.inr ⟨str_none rfl, rfl⟩) HS.out).mono ?_
            rintro e w3 ⟨ho, hb3⟩
            have HB3 := hidL (HB2.out.trans (hb3.mono HB2.out.size))
            clear hb3
            rcases ho with ⟨hn3, rfl⟩ | ⟨hn3, a3, rfl⟩
            · omega
            · go_wp2_with (fail)
              go_ret
              exact ⟨rfl, HB3.out⟩
end Go.Proofs.Qxb6605652aFmt
