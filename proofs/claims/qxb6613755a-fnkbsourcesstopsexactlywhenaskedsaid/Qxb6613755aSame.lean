/-
  Function 25: 'zzSame'.
-/
import Derived.Test.Qxb6613755aCollect
import Derived.Deep.QuietTactic
import Derived.BigQuiet
namespace Go.Proofs.Qxb6613755a
open Go.RowKit Go.Shelf
set_option linter.unusedVariables false
set_option linter.unusedSimpArgs false

set_option maxRecDepth 100000 in
set_option maxHeartbeats 2000000 in
theorem same_c (av bv : Value) (n : Nat) (l : List Src) (w : World) (ha : RowIs n 9 0 SrcAt w av l) (hb : RowIs n 9 0 SrcAt w bv l) (hn : n ≤ w.heap.size) (hl : l.length ≤ 33554432) :
    Calls Try.prog 25 #[av, bv] w fun e w' => e = .returned (.bool true) ∧ Below w.heap.size w w' := by
  obtain ⟨aa, ac, rfl, _, _, hea⟩ := ha
  obtain ⟨ba, bc, rfl, _, _, heb⟩ := hb
  have HA := hidB hea
  have HB := hidB heb
  clear hea heb
  go_enter Try.func25, Try.ntmps25
  go_wp2
  go_loopw [5] (fun i wr => ∃ (k : Nat), k ≤ l.length ∧ i = .int .i64 (k : Int) ∧ Below w.heap.size w wr) (fun i _ => l.length - (intOf i).toNat)
  case atStart => exact ⟨0, Nat.zero_le _, rfl, Below.refl _ _⟩
  case round =>
    obtain ⟨k, hk, rfl, hbel⟩ := hrel
    have HBB := hidB hbel
    by_cases hlt : k < l.length
    · obtain ⟨b, off, rfl, hb, c⟩ := HA.out k hlt
      obtain ⟨b', off', rfl, hb', c'⟩ := HB.out k hlt
      replace c := c.below hbel (by omega)
      replace c' := c'.below hbel (by omega)
      clear HA HB hbel hb hb'
      generalize l[k] = x at c c'
      obtain ⟨c0, c1, c2, c3, c4, c5, c6, c7, c8⟩ := c
      obtain ⟨d0, d1, d2, d3, d4, d5, d6, d7, d8⟩ := c'
      go_wp2
      go_quiet (fail)
      go_wp2
      go_roundw
      case rel => exact ⟨k + 1, by omega, by go_num, HBB.out.trans (below_drewN' _ _ _)⟩
      case measure => simp [intOf]; omega
    · clear HA HB hbel
      go_wp2
      go_ret
      exact ⟨rfl, HBB.out⟩
end Go.Proofs.Qxb6613755a
