/-
  Function 4, 'FnReadBoundScriptKeepsItsAccount', walked.
-/
import Derived.Test.Qxb6614117aRows
import Derived.WalkKit
import Derived.Below
namespace Go.Proofs.Qxb6614117a
open Go.RowKit
set_option linter.unusedVariables false
set_option linter.unusedSimpArgs false

theorem hidS {p : Prop} (h : p) : Hid p := h
theorem cellS {W : World} {b o : Nat} {cs : Array Value} {t : TypeId} {m : Nat × Nat} (h : W.heap[b]? = some (.cells cs t m)) : W.cell? ⟨b, o, none⟩ = cs[o]? := by simp [World.cell?, h]
theorem openS {W : World} {b o : Nat} {cs : Array Value} {t : TypeId} (h : W.heap[b]? = some (.cells cs t (0, 0))) : W.frozen? ⟨b, o, none⟩ = false := by simp [World.frozen?, h]
theorem setS {W : World} {b o : Nat} {cs : Array Value} {t : TypeId} {m : Nat × Nat} (v : Value) (h : W.heap[b]? = some (.cells cs t m)) : (W.setCell ⟨b, o, none⟩ v).heap[b]? = some (.cells (cs.setIfInBounds o v) t m) := by
  obtain ⟨hlt, hk⟩ := Array.getElem?_eq_some_iff.1 h
  show (W.heap.modify b _)[b]? = _
  rw [Array.getElem?_eq_getElem (by rw [Array.size_modify]; exact hlt), Array.getElem_modify_self, hk]
  rfl

set_option maxRecDepth 100000 in
set_option maxHeartbeats 4000000 in
theorem walkScript (isNil : Bool) (left : Int) (a : Option Addr) (len cap : Nat) (z : Nat → Int) (w : World) (w1 : (Lit.int .i64 left).wf = true)
    (hel : ∀ i, i < len → ∃ x, a = some x ∧ x.block < w.heap.size ∧ w.cell? (x.add i) = some (.int .i64 (z i))) (hz : ∀ i, i < len → z i ≤ 9223372036854775807) (hlen : (len : Int) ≤ 9223372036854775807) :
    Calls Try.prog 4 #[.bool isNil, .int .i64 left, .slice a len cap] w fun e w' => e = .returned (.bool true) ∧ Below w.heap.size w w' := by
  have r1 : -9223372036854775808 ≤ left ∧ left ≤ 9223372036854775807 := by simpa [Lit.wf, IntKind.has, IntKind.min, IntKind.max, IntKind.signed, IntKind.bits] using w1
  obtain ⟨r11, r12⟩ := r1
  have HE := hidS hel
  have HZ := hidS hz
  clear w1 hel hz
  go_enter Try.func4, Try.ntmps4
  by_cases hl1 : (1048576 : Int) < len
  · go_wp2
    go_ret
    exact ⟨rfl, Below.refl _ _⟩
  by_cases hl2 : (65536 : Int) < len
  · go_wp2
    go_ret
    exact ⟨rfl, Below.refl _ _⟩
  by_cases hl : left < 0
  · go_wp2
    go_ret
    exact ⟨rfl, Below.refl _ _⟩
  go_wp2
  go_loop [7] (fun i => ∃ k : Nat, k ≤ len ∧ i = .int .i64 (k : Int) ∧ ∀ j, j < k → 0 ≤ z j) (fun i => len - (intOf i).toNat)
  case atStart => exact ⟨0, Nat.zero_le _, rfl, fun j h => by omega⟩
  case round =>
    obtain ⟨k, hk, rfl, hpos⟩ := hrel
    have HP := hidS hpos
    clear hpos
    by_cases hlt : k < len
    · obtain ⟨x, rfl, hxb, c0⟩ := HE.out k hlt
      clear HE HZ
      by_cases hz0 : z k < 0
      · go_wp2
        go_ret
        exact ⟨rfl, Below.refl _ _⟩
      · go_wp2
        go_round
        case rel => exact ⟨k + 1, by omega, by go_num, fun j hj => by
          by_cases e : j = k
          · subst e; omega
          · exact HP.out j (by omega)⟩
        case measure => simp [intOf]; omega
    · have hkl : len ≤ k := by omega
      clear hlt
      have hpos : ∀ j, j < len → 0 ≤ z j := fun j hj => HP.out j (by omega)
      have HP2 := hidS hpos
      clear hpos HP
      obtain ⟨N, hN⟩ : ∃ N, N = w.heap.size := ⟨_, rfl⟩
      cases isNil
      · go_wp2
        have hB0 : ∀ o1 o2, Below w.heap.size w ((w.alloc o1).alloc o2) := fun o1 o2 => ((Below.refl _ w).alloc (Nat.le_refl _) _).alloc (by simp) _
        have hX0 : ∀ o1 o2, ((w.alloc o1).alloc o2).heap[w.heap.size + 1]? = some o2 := fun o1 o2 => by have := heap_alloc_new (w.alloc o1) o2; simpa using this
        have HB0 := hidS hB0
        have HX0 := hidS hX0
        clear hB0 hX0
        go_loopw [9, 10, 11, 12, 13, 14] (fun rs hd i _ _ _ wr => ∃ (m : Nat) (r h : Int), m ≤ len ∧ i = .int .i64 (m : Int) ∧ rs = .int .i64 r ∧ hd = .int .i64 h ∧ 0 ≤ r ∧ 0 ≤ h ∧ r + h = left ∧ wr.heap[w.heap.size + 1]? = some (.cells #[.int .i64 r, .iface 49 (.pointer (some ⟨w.heap.size, 0, none⟩))] 42) ∧ Below w.heap.size w wr) (fun _ _ i _ _ _ _ => len - (intOf i).toNat)
        case atStart => exact ⟨0, _, _, Nat.zero_le _, rfl, rfl, rfl, by omega, by omega, by omega, HX0.out _ _, HB0.out _ _⟩
        case round =>
          obtain ⟨m, r, h, hm, rfl, rfl, rfl, hr0, hh0, hsum, hx, hbel⟩ := hrel
          clear HB0 HX0
          by_cases hlt : m < len
          · obtain ⟨x, rfl, hxb, c0⟩ := HE.out m hlt
            have hz1 := HZ.out m hlt
            have hz0 := HP2.out m hlt
            replace c0 := (hbel.cell (p := x.add m) (by unfold Addr.add; split <;> exact hxb)).trans c0
            have y0 : wr.cell? ⟨w.heap.size + 1, 0, none⟩ = some (.int .i64 r) := cellS hx
            have y1 : wr.cell? ⟨w.heap.size + 1, 1, none⟩ = some (.iface 49 (.pointer (some ⟨w.heap.size, 0, none⟩))) := cellS hx
            have y2 : wr.frozen? ⟨w.heap.size + 1, 0, none⟩ = false := openS hx
            have hset := setS (o := 0) (.int .i64 (r - z m)) hx
            have hbs := hbel.setCell (p := ⟨w.heap.size + 1, 0, none⟩) (by simp) (.int .i64 (r - z m))
            have HS := hidS hset
            have HBS := hidS hbs
            have HX := hidS hx
            have HB := hidS hbel
            clear HE HZ HP2 hset hbs hx hbel
            generalize z m = n at *
            by_cases hle : n ≤ r
            · have e1 : r - n + (h + n) = left := by omega
              go_wp2
              exact ⟨⟨m + 1, _, _, by omega, by go_num, rfl, rfl, by omega, by omega, by omega, HS.out, HBS.out⟩, by simp [intOf]; omega⟩
            · go_wp2
              exact ⟨⟨m + 1, _, _, by omega, by go_num, rfl, rfl, by omega, by omega, by omega, HX.out, HB.out⟩, by simp [intOf]; omega⟩
          · have HB := hidS hbel
            clear HE HZ HP2 hx hbel
            go_wp2
            go_ret
            exact ⟨rfl, HB.out⟩
      · go_wp2
        go_loop [9, 10, 11, 12, 13, 14] (fun _ _ i _ _ _ => ∃ m : Nat, m ≤ len ∧ i = .int .i64 (m : Int)) (fun _ _ i _ _ _ => len - (intOf i).toNat)
        case atStart => exact ⟨0, Nat.zero_le _, rfl⟩
        case round =>
          obtain ⟨m, hm, rfl⟩ := hrel
          by_cases hlt : m < len
          · obtain ⟨x, rfl, hxb, c0⟩ := HE.out m hlt
            clear HE HZ HP2
            generalize z m = n at *
            go_wp2
            go_round
            case rel => exact ⟨m + 1, by omega, by go_num⟩
            case measure => simp [intOf]; omega
          · clear HE HZ HP2
            go_wp2
            go_ret
            exact ⟨rfl, Below.refl _ _⟩
end Go.Proofs.Qxb6614117a
