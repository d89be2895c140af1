/-
  Function 7: 'zzUtoaB1': digits that spell x.
-/
import Derived.Test.Qxb6605652aFmtLead
import Derived.Laws.IdiomStrings
namespace Go.Proofs.Qxb6605652aFmt
open Go.RowKit
set_option linter.unusedVariables false
set_option linter.unusedSimpArgs false

/-- The string s spells x. -/
def Spells (x : Nat) (s : ByteArray) : Prop := Digits s.data.toList ∧ s.data.toList ≠ [] ∧ numFrom 0 s.data.toList = x ∧ s.size ≤ 20

/-- The block b holds twenty bytes; those from i on are the digits l. -/
def Buf (b i : Nat) (l : List UInt8) (W : World) : Prop := ∃ arr : Array Value, W.heap[b]? = some (.cells arr 33) ∧ arr.size = 20 ∧ i + l.length = 20 ∧ ∀ j (h : j < l.length), arr[i + j]? = some (.int .u8 (l[j].toNat : Int))

theorem setU {W : World} {b o : Nat} {cs : Array Value} {t : TypeId} {m : Nat × Nat} (v : Value) (h : W.heap[b]? = some (.cells cs t m)) : (W.setCell ⟨b, o, none⟩ v).heap[b]? = some (.cells (cs.setIfInBounds o v) t m) := by
  obtain ⟨hlt, hk⟩ := Array.getElem?_eq_some_iff.1 h
  show (W.heap.modify b _)[b]? = _
  rw [Array.getElem?_eq_getElem (by rw [Array.size_modify]; exact hlt), Array.getElem_modify_self, hk]
  rfl
theorem cellU {W : World} {b o : Nat} {cs : Array Value} {t : TypeId} {m : Nat × Nat} (h : W.heap[b]? = some (.cells cs t m)) : W.cell? ⟨b, o, none⟩ = cs[o]? := by simp [World.cell?, h]
theorem openU {W : World} {b o : Nat} {cs : Array Value} {t : TypeId} (h : W.heap[b]? = some (.cells cs t (0, 0))) : W.frozen? ⟨b, o, none⟩ = false := by simp [World.frozen?, h]

theorem Buf.spot {b i : Nat} {l : List UInt8} {W : World} (h : Buf b (i + 1) l W) : (∃ u, W.cell? ⟨b, i, none⟩ = some u) ∧ W.frozen? ⟨b, i, none⟩ = false := by
  obtain ⟨arr, h1, h2, h3, _⟩ := h
  exact ⟨⟨arr[i]'(by omega), by rw [cellU h1]; simp⟩, openU h1⟩
theorem Buf.step {b i : Nat} {l : List UInt8} {W : World} (h : Buf b (i + 1) l W) (c : UInt8) : Buf b i (c :: l) (W.setCell ⟨b, i, none⟩ (.int .u8 (c.toNat : Int))) := by
  obtain ⟨arr, h1, h2, h3, h4⟩ := h
  refine ⟨_, setU (o := i) _ h1, by simp [h2], by simp; omega, fun j hj => ?_⟩
  cases j with
  | zero => rw [Nat.add_zero, Array.getElem?_setIfInBounds_self_of_lt (by omega)]; rfl
  | succ j =>
    rw [Array.getElem?_setIfInBounds_ne (by omega), show i + (j + 1) = i + 1 + j by omega, h4 j (by simpa using hj)]
    rfl

set_option maxRecDepth 100000 in
set_option maxHeartbeats 2000000 in
theorem utoa_c (x : Nat) (w : World) (hx : x < 18446744073709551616) :
    Calls Tryf.prog 7 #[.int .u64 (x : Int)] w fun e w' => (∃ s, e = .returned (.string s) ∧ Spells x s) ∧ Below w.heap.size w w' := by
  by_cases h0 : x = 0
  · subst h0
    go_enter Tryf.func7, Tryf.ntmps7
    go_wp2
    go_ret
    exact ⟨⟨_, rfl, by intro c hc; simp at hc; subst hc; decide, by simp, by rfl, by decide⟩, Below.refl _ _⟩
  · have hB0 : ∀ o, Below w.heap.size w (w.alloc o) := fun o => (Below.refl _ w).alloc (Nat.le_refl _) o
    have hF0 : ∀ arr : Array Value, arr.size = 20 → Buf w.heap.size 20 [] (w.alloc (.cells arr 33)) := fun arr h => ⟨arr, heap_alloc_new _ _, h, rfl, fun j h => by cases h⟩
    have HB0 := hidL hB0
    have HF0 := hidL hF0
    clear hB0 hF0
    go_enter Tryf.func7, Tryf.ntmps7
    go_wp2
    go_loopw [0, 4] (fun v j wr => ∃ (y i : Nat) (l : List UInt8), v = .int .u64 (y : Int) ∧ j = .int .i64 (i : Int) ∧ Buf w.heap.size i l wr ∧ Digits l ∧ numFrom y l = x ∧ y < 10 ^ i ∧ (y = 0 → l ≠ []) ∧ Below w.heap.size w wr) (fun v _ _ => (intOf v).toNat)
    case atStart => exact ⟨x, 20, [], rfl, rfl, HF0.out _ rfl, (fun c hc => by cases hc), rfl, by omega, fun h => absurd h h0, HB0.out _⟩
    case round =>
      obtain ⟨y, i, l, rfl, rfl, hbuf, hdg, hnum, hlt, hne, hbel⟩ := hrel
      clear HB0 HF0
      by_cases hy : y = 0
      · subst hy
        have hn : numFrom 0 l = x := hnum
        have hne' : l ≠ [] := hne rfl
        obtain ⟨arr, b1, b2, b3, b4⟩ := hbuf
        have hcv : (convert 34 9 (.slice (some ⟨w.heap.size, i, none⟩) l.length l.length)).run Tryf.prog wr = .ok (.string ⟨l.toArray⟩) wr :=
          run_convert_bytes_back (P := Tryf.prog) wr 34 9 5 ⟨w.heap.size, i, none⟩ l.length l Tryf.underlying34 Tryf.underlying5 Tryf.underlying9 (fun j hj => by rw [Addr.add_lit, cellU b1]; exact b4 j hj)
        have hll : l.length = 20 - i := by omega
        have hi : (i : Int) ≤ 20 := by omega
        have hi0 : (0 : Int) ≤ (i : Int) := by omega
        have hil : i < 20 := by
          have : 0 < l.length := List.length_pos_iff.2 hne'
          omega
        rw [hll] at hcv
        have HN := hidL hn
        have HE := hidL hne'
        have HD := hidL hdg
        have HB := hidL hbel
        have HLL := hidL hll
        clear hx hnum hn hne hne' hlt hdg hbel b1 b2 b3 b4 h0 hll
        go_wp2
        go_ret
        refine ⟨⟨_, rfl, by simpa using HD.out, by simpa using HE.out, by simpa using HN.out, ?_⟩, HB.out⟩
        have := HLL.out
        show l.toArray.size ≤ 20
        simp
        omega
      · obtain ⟨i, rfl⟩ : ∃ k, i = k + 1 := by
          cases i with
          | zero => exfalso; simp at hlt; omega
          | succ k => exact ⟨k, rfl⟩
        obtain ⟨⟨u, s0⟩, s1⟩ := hbuf.spot
        have hi20 : i + 1 ≤ 20 := by obtain ⟨arr, _, _, h3, _⟩ := hbuf; omega
        have hst := hbuf.step (UInt8.ofNat (48 + y % 10))
        have hcv : ((UInt8.ofNat (48 + y % 10)).toNat : Int) = 48 + (y : Int) % 10 := by
          rw [UInt8.toNat_ofNat']
          omega
        rw [hcv] at hst
        have HST := hidL hst
        have HB := hidL hbel
        have hy0 : (0 : Int) < (y : Int) := by omega
        have hi0 : (0 : Int) ≤ (i : Int) := by omega
        have hi1 : (i : Int) < 20 := by omega
        have HY : Hid (y < 18446744073709551616) := by have := numFrom_ge y l; exact hidL (by omega)
        have HL := hidL hlt
        have HN := hidL hnum
        have HD := hidL hdg
        clear hbuf hst hbel hcv hlt hnum hdg hne hx h0 hy hi20
        have hic : ((i + 1 : Nat) : Int) = (i : Int) + 1 := by omega
        rw [hic]
        clear hic
        go_wp2
        have hy9 := HY.out
        have ew : IntKind.u64.wrap ((y : Int) / 10) = ((y / 10 : Nat) : Int) := by rw [IntKind.wrap_u64]; omega
        have hc : (UInt8.ofNat (48 + y % 10)).toNat = 48 + y % 10 := by rw [UInt8.toNat_ofNat']; omega
        refine ⟨⟨y / 10, i, _, by rw [ew], rfl, HST.out, ?_, ?_, ?_, (fun _ h => by cases h), HB.out.setCell (p := ⟨w.heap.size, i, none⟩) (Nat.le_refl _) _⟩, ?_⟩
        · intro c hc'
          rcases List.mem_cons.1 hc' with rfl | h
          · rw [hc]; omega
          · exact HD.out c h
        · have hh := HN.out
          have : numFrom (y / 10) (UInt8.ofNat (48 + y % 10) :: l) = numFrom (y / 10 * 10 + ((UInt8.ofNat (48 + y % 10)).toNat - 48)) l := rfl
          rw [this, hc, show y / 10 * 10 + (48 + y % 10 - 48) = y by omega, hh]
        · have hh := HL.out
          rw [Nat.pow_succ] at hh
          omega
        · rw [ew]; simp [intOf]; omega
end Go.Proofs.Qxb6605652aFmt
