/-
  Function 4, 'FnActiveAdminsManageByStandingAlone': its walk.
-/
import Derived.Test.Qxb6613755aDecide
namespace Go.Proofs.Qxb6613755a
open Go.RowKit Go.Shelf
set_option linter.unusedVariables false
set_option linter.unusedSimpArgs false

theorem hidE {p : Prop} (h : p) : Hid p := h

theorem decide_c (f : Fa) (dv kv : Value) (w : World) (hd : RowIs w.heap.size 2 32 WiAt w dv f.deps) (hk : RowIs w.heap.size 6 64 (KbAt w.heap.size) w kv f.kbs) :
    Calls Try.prog 9 #[.agg #[.bool f.known, .bool f.su, .bool f.dis, .int .i8 f.role, .string f.rt, dv, kv]] w fun e w' => e = .returned (.int .i8 (level f)) ∧ Below w.heap.size w w' :=
  callsIn_wide.1 (decide_in f dv kv w hd hk)
theorem active_c (x : Int) (w : World) : Calls Try.prog 10 #[.int .i8 x] w fun e w' => e = .returned (.bool (decide (2 ≤ x))) ∧ w' = w := callsIn_wide.1 (active_in x w)

theorem row_nil {α : Type} (n sz bytes : Nat) (At : Nat → Nat → World → α → Prop) (W : World) : RowIs n sz bytes At W (.slice none 0 0) [] := ⟨none, 0, rfl, Nat.le_refl _, by omega, fun j h => by cases h⟩

theorem level_alone (known su dis : Bool) (r : Int) (t : ByteArray) : level ⟨known, su, dis, r, t, [], []⟩ = if known = true ∧ dis = false ∧ (su = true ∨ 3 ≤ r) then 3 else 0 := by
  have hm : max (0 : Int) 3 = 3 := by omega
  unfold level srcs auth superSrcs roleSrcs kbsSrcs
  by_cases h3 : 3 ≤ r
  · have h2 : 2 ≤ r := by omega
    have h0 : r ≠ 0 := by omega
    cases known <;> cases su <;> cases dis <;> simp [maxFrom, h3, h2, h0, srcSuper, srcRole, hm]
  · by_cases h2 : 2 ≤ r
    · cases known <;> cases su <;> cases dis <;> simp [maxFrom, h3, h2, srcSuper, hm]
    · cases known <;> cases su <;> cases dis <;> simp [maxFrom, h3, h2, srcSuper, hm]

set_option maxHeartbeats 400000 in
theorem bytesAdmins_c (a0 a1 a2 : Bool) (a3 : Int) (a4 : ByteArray) (w4 : a4.size ≤ maxLen) (w : World) :
    Calls Try.prog 11 #[.bool a0, .bool a1, .bool a2, .int .i8 a3, .string a4] w fun e w' => e = .returned (.bool (decide (a4.size ≤ 1048576))) ∧ w' = w := by
  unfold maxLen at w4
  by_cases h : a4.size ≤ 1048576
  · have hd : decide (a4.size ≤ 1048576) = true := by simpa using h
    rw [hd]
    go_enter Try.func11, Try.ntmps11
    go_wp2
    go_ret
    exact ⟨rfl, rfl⟩
  · have hd : decide (a4.size ≤ 1048576) = false := by simpa using h
    rw [hd]
    go_enter Try.func11, Try.ntmps11
    go_wp2
    go_ret
    exact ⟨rfl, rfl⟩

set_option maxHeartbeats 1000000 in
theorem walkAdmins_in (a0 : Bool) (a1 : Bool) (a2 : Bool) (a3 : Int) (a4 : ByteArray) (w4 : a4.size ≤ maxLen) (hbig : a4.size ≤ 1048576) (w : World) :
    Calls Try.prog 4 #[.bool a0, .bool a1, .bool a2, .int .i8 a3, .string a4] w fun e w' => e = .returned (.bool true) ∧ Below w.heap.size w w' := by
  have hd : decide (a4.size ≤ 1048576) = true := by simpa using hbig
  have hl := level_alone a0 a1 a2 a3 a4
  have hdec := decide_c ⟨a0, a1, a2, a3, a4, [], []⟩ (.slice none 0 0) (.slice none 0 0) (w.alloc (.cells #[.bool a0, .bool a1, .bool a2, .int .i8 a3, .string a4, .slice none 0 0, .slice none 0 0] 36)) (row_nil _ _ _ _ _) (row_nil _ _ _ _ _)
  have hB0 : ∀ o, Below w.heap.size w (w.alloc o) := fun o => (Below.refl _ w).alloc (Nat.le_refl _) o
  have hsz : ∀ o, (w.alloc o).heap.size = w.heap.size + 1 := fun o => by simp
  by_cases h3 : 3 ≤ a3
  · have h2 : decide (2 ≤ a3) = true := by simp; omega
    have h3d : decide (3 ≤ a3) = true := by simpa using h3
    have h3e : decide (a3 < 3) = false := by simp; omega
    cases a0 <;> cases a1 <;> cases a2 <;> simp [h3] at hl
    all_goals
      rw [hl] at hdec
      have HC := hidE hdec
      clear hdec hl
      go_enter Try.func4, Try.ntmps4
      go_wp2_with (first | (go_at_call 11; refine (bytesAdmins_c _ _ _ _ _ w4 _).mono ?_; rintro e w' ⟨rfl, rfl⟩) | (go_at_call 10; refine (active_c _ _).mono ?_; rintro e w' ⟨rfl, rfl⟩) | (go_at_call 9; refine HC.out.mono ?_; rintro e w2 ⟨rfl, hb⟩))
      go_ret
      exact ⟨rfl, (hB0 _).trans (hb.mono (by simp))⟩
  · have h3d : decide (3 ≤ a3) = false := by simpa using h3
    have h3e : decide (a3 < 3) = true := by simp; omega
    cases a0 <;> cases a1 <;> cases a2 <;> simp [h3] at hl
    all_goals
      rw [hl] at hdec
      have HC := hidE hdec
      clear hdec hl
      go_enter Try.func4, Try.ntmps4
      go_wp2_with (first | (go_at_call 11; refine (bytesAdmins_c _ _ _ _ _ w4 _).mono ?_; rintro e w' ⟨rfl, rfl⟩) | (go_at_call 10; refine (active_c _ _).mono ?_; rintro e w' ⟨rfl, rfl⟩) | (go_at_call 9; refine HC.out.mono ?_; rintro e w2 ⟨rfl, hb⟩))
      go_ret
      exact ⟨rfl, (hB0 _).trans (hb.mono (by simp))⟩

theorem walkAdmins (a0 : Bool) (a1 : Bool) (a2 : Bool) (a3 : Int) (a4 : ByteArray) (w4 : a4.size ≤ maxLen) (w : World) :
    Calls Try.prog 4 #[.bool a0, .bool a1, .bool a2, .int .i8 a3, .string a4] w fun e w' => e = .returned (.bool true) ∧ Below w.heap.size w w' := by
  by_cases hbig : a4.size ≤ 1048576
  · exact walkAdmins_in a0 a1 a2 a3 a4 w4 hbig w
  · have hd : decide (a4.size ≤ 1048576) = false := by simpa using hbig
    go_enter Try.func4, Try.ntmps4
    go_wp2_with (go_at_call 11; refine (bytesAdmins_c _ _ _ _ _ w4 _).mono ?_; rintro e w' ⟨rfl, rfl⟩)
    go_ret
    exact ⟨rfl, Below.refl _ _⟩
end Go.Proofs.Qxb6613755a
