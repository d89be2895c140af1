/-
  The read bound: function 3, 'FnReadBoundTakeSplits', walked.
-/
import Derived.Test.Qxb6614117aRows
import Derived.WalkKit
import Derived.Below
namespace Go.Proofs.Qxb6614117a
open Go.RowKit
set_option linter.unusedVariables false
set_option linter.unusedSimpArgs false

set_option maxRecDepth 100000 in
set_option maxHeartbeats 4000000 in
theorem walkSplits (isNil : Bool) (left a b : Int) (w : World) (w1 : (Lit.int .i64 left).wf = true) (w2 : (Lit.int .i64 a).wf = true) (w3 : (Lit.int .i64 b).wf = true) :
    Calls Try.prog 3 #[.bool isNil, .int .i64 left, .int .i64 a, .int .i64 b] w fun e w' => e = .returned (.bool true) ∧ Below w.heap.size w w' := by
  have r1 : -9223372036854775808 ≤ left ∧ left ≤ 9223372036854775807 := by simpa [Lit.wf, IntKind.has, IntKind.min, IntKind.max, IntKind.signed, IntKind.bits] using w1
  have r2 : -9223372036854775808 ≤ a ∧ a ≤ 9223372036854775807 := by simpa [Lit.wf, IntKind.has, IntKind.min, IntKind.max, IntKind.signed, IntKind.bits] using w2
  have r3 : -9223372036854775808 ≤ b ∧ b ≤ 9223372036854775807 := by simpa [Lit.wf, IntKind.has, IntKind.min, IntKind.max, IntKind.signed, IntKind.bits] using w3
  obtain ⟨r11, r12⟩ := r1
  obtain ⟨r21, r22⟩ := r2
  obtain ⟨r31, r32⟩ := r3
  clear w1 w2 w3
  go_enter Try.func3, Try.ntmps3
  by_cases hl : left < 0
  · go_wp2
    go_ret
    exact ⟨rfl, Below.refl _ _⟩
  by_cases ha : a < 0
  · go_wp2
    go_ret
    exact ⟨rfl, Below.refl _ _⟩
  by_cases hb : b < 0
  · go_wp2
    go_ret
    exact ⟨rfl, Below.refl _ _⟩
  by_cases hab : 9223372036854775807 - b < a
  · go_wp2
    go_ret
    exact ⟨rfl, Below.refl _ _⟩
  cases isNil
  rotate_left
  · go_wp2
    go_ret
    exact ⟨rfl, Below.refl _ _⟩
  have HB : ∀ o1 o2 o3 o4, Hid (Below w.heap.size w ((((w.alloc o1).alloc o2).alloc o3).alloc o4)) := fun o1 o2 o3 o4 => ((((Below.refl _ w).alloc (Nat.le_refl _) _).alloc (by simp) _).alloc (by simp; omega) _).alloc (by simp; omega) _
  have HH : Hid (∀ o1 o2 o3 o4, Below w.heap.size w ((((w.alloc o1).alloc o2).alloc o3).alloc o4)) := fun o1 o2 o3 o4 => (HB o1 o2 o3 o4).out
  clear HB
  by_cases h1 : a ≤ left
  · by_cases h2 : b ≤ left - a
    · have e : left - a - b = left - (a + b) := by omega
      go_wp2
      go_ret
      exact ⟨by simp, HH.out _ _ _ _⟩
    · go_wp2
      go_ret
      exact ⟨by simp, HH.out _ _ _ _⟩
  · by_cases h2 : b ≤ left
    · go_wp2
      go_ret
      exact ⟨by simp, HH.out _ _ _ _⟩
    · go_wp2
      go_ret
      exact ⟨by simp, HH.out _ _ _ _⟩
end Go.Proofs.Qxb6614117a
