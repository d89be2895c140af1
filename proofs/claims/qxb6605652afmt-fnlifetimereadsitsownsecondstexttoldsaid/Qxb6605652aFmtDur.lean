/-
  Function 5: 'zzDurationTextB1': the text of n nanoseconds: sign, seconds 's', the rest 'ns'.
-/
import Derived.Test.Qxb6605652aFmtUtoa
namespace Go.Proofs.Qxb6605652aFmt
open Go.RowKit
set_option linter.unusedVariables false
set_option linter.unusedSimpArgs false

/-- The text of n. -/
def DurText (n : Int) (s : ByteArray) : Prop := ∃ A B : List UInt8, Digits A ∧ A ≠ [] ∧ Digits B ∧ B ≠ [] ∧ s.data.toList = (if n < 0 then [45] else []) ++ (A ++ ([115] ++ (B ++ [110, 115]))) ∧ numFrom 0 A * 1000000000 + numFrom 0 B = n.natAbs ∧ s.size ≤ 60

theorem utoa_i (z : Int) (w : World) (h0 : 0 ≤ z) (h1 : z ≤ 18446744073709551615) :
    Calls Tryf.prog 7 #[.int .u64 z] w fun e w' => ∃ s, e = .returned (.string s) ∧ Spells z.toNat s ∧ Below w.heap.size w w' := by
  obtain ⟨x, rfl⟩ := Int.eq_ofNat_of_zero_le h0
  refine (utoa_c x w (by omega)).mono ?_
  rintro e w' ⟨⟨s, he, hs⟩, hb⟩
  exact ⟨s, he, hs, hb⟩

theorem dur_mk {n : Int} {z1 z2 : Int} {s1 s2 : ByteArray} (pre : List UInt8) (hp : pre = if n < 0 then [45] else []) (h1 : Spells z1.toNat s1) (h2 : Spells z2.toNat s2) (hz : z1.toNat * 1000000000 + z2.toNat = n.natAbs) :
    DurText n (⟨pre.toArray⟩ ++ s1 ++ ⟨#[115]⟩ ++ s2 ++ ⟨#[110, 115]⟩) := by
  obtain ⟨a1, a2, a3, a4⟩ := h1
  obtain ⟨b1, b2, b3, b4⟩ := h2
  have hd : (⟨pre.toArray⟩ ++ s1 ++ ⟨#[115]⟩ ++ s2 ++ ⟨#[110, 115]⟩ : ByteArray).data.toList = (if n < 0 then [45] else []) ++ (s1.data.toList ++ ([115] ++ (s2.data.toList ++ [110, 115]))) := by
    simp [ByteArray.data_append, hp]
  refine ⟨s1.data.toList, s2.data.toList, a1, a2, b1, b2, hd, by rw [a3, b3]; exact hz, ?_⟩
  rw [str_size hd]
  have e1 : s1.data.toList.length = s1.size := (str_size rfl).symm
  have e2 : s2.data.toList.length = s2.size := (str_size rfl).symm
  have e3 : (if n < 0 then [45] else [] : List UInt8).length ≤ 1 := by split <;> simp
  simp only [List.length_append, e1, e2]
  simp
  omega

set_option maxRecDepth 100000 in
set_option maxHeartbeats 2000000 in
theorem dur_c (n : Int) (w : World) (h0 : -9223372036854775808 ≤ n) (h1 : n ≤ 9223372036854775807) :
    Calls Tryf.prog 5 #[.int .i64 n] w fun e w' => ∃ s, e = .returned (.string s) ∧ DurText n s ∧ Below w.heap.size w w' := by
  by_cases hn : n < 0
  · have hn1 : n + 1 ≤ 0 := by omega
    have hn2 : 0 ≤ -(n + 1) := by omega
    have hn3 : -(n + 1) ≤ 9223372036854775807 := by omega
    go_enter Tryf.func5, Tryf.ntmps5
    go_wp2_with (fail)
    refine (utoa_i _ _ (by omega) (by omega)).mono ?_
    rintro e w1 ⟨s1, rfl, hs1, hb1⟩
    have z1 : s1.size ≤ 20 := hs1.2.2.2
    have S1 := hidL hs1
    have B1 := hidL hb1
    clear hs1 hb1
    go_wp2_with (fail)
    refine (utoa_i _ _ (by omega) (by omega)).mono ?_
    rintro e w2 ⟨s2, rfl, hs2, hb2⟩
    have z2 : s2.size ≤ 20 := hs2.2.2.2
    have S2 := hidL hs2
    have B2 := hidL hb2
    clear hs2 hb2
    go_wp2_with (fail)
    go_ret
    exact ⟨_, rfl, dur_mk [45] (by rw [if_pos hn]) S1.out S2.out (by omega), B1.out.trans (B2.out.mono B1.out.size)⟩
  · go_enter Tryf.func5, Tryf.ntmps5
    have hn0 : 0 ≤ n := by omega
    go_wp2_with (fail)
    refine (utoa_i _ _ (by omega) (by omega)).mono ?_
    rintro e w1 ⟨s1, rfl, hs1, hb1⟩
    have z1 : s1.size ≤ 20 := hs1.2.2.2
    have S1 := hidL hs1
    have B1 := hidL hb1
    clear hs1 hb1
    go_wp2_with (fail)
    refine (utoa_i _ _ (by omega) (by omega)).mono ?_
    rintro e w2 ⟨s2, rfl, hs2, hb2⟩
    have z2 : s2.size ≤ 20 := hs2.2.2.2
    have S2 := hidL hs2
    have B2 := hidL hb2
    clear hs2 hb2
    go_wp2_with (fail)
    go_ret
    exact ⟨_, rfl, dur_mk [] (by rw [if_neg (by omega)]) S1.out S2.out (by omega), B1.out.trans (B2.out.mono B1.out.size)⟩
end Go.Proofs.Qxb6605652aFmt
