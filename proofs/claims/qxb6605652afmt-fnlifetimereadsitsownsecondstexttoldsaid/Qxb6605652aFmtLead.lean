/-
  Function 13: 'time.leadingInt[string]' at a text that opens with digits.
-/
import Derived.Test.Qxb6605652aFmtText
namespace Go.Proofs.Qxb6605652aFmt
open Go.RowKit
set_option linter.unusedVariables false
set_option linter.unusedSimpArgs false

theorem hidL {p : Prop} (h : p) : Hid p := h

/-- The number that a list of digits spells, behind x. -/
def numFrom (x : Nat) (l : List UInt8) : Nat := l.foldl (fun n c => n * 10 + (c.toNat - 48)) x
def Digits (l : List UInt8) : Prop := ∀ c ∈ l, 48 ≤ c.toNat ∧ c.toNat ≤ 57

theorem numFrom_ge (n : Nat) (l : List UInt8) : n ≤ numFrom n l := by
  induction l generalizing n with
  | nil => exact Nat.le_refl _
  | cons c l ih => have := ih (n * 10 + (c.toNat - 48)); show n ≤ numFrom (n * 10 + (c.toNat - 48)) l; omega
theorem numFrom_drop (n : Nat) (l : List UInt8) (k : Nat) (h : k < l.length) : numFrom n (l.drop k) = numFrom (n * 10 + (l[k].toNat - 48)) (l.drop (k + 1)) := by
  rw [List.drop_eq_getElem_cons h]; rfl
theorem str_get {s : ByteArray} {l : List UInt8} (hs : s.data.toList = l) (k : Nat) (h : k < s.size) (h' : k < l.length) : s[k] = l[k] := by
  subst hs
  show s.data[k] = _
  simp
theorem str_size {s : ByteArray} {l : List UInt8} (hs : s.data.toList = l) : s.size = l.length := by
  rw [← hs, Array.length_toList]; rfl

theorem results_three {P : Program} {fn : Func} {i j k : Nat} (h : fn.results = #[.tmp i, .tmp j, .tmp k]) (t : Array Value) (w : World) (_ : Unit) : (results fn t).run P w = .ok (.tuple #[t.getD i undef, t.getD j undef, t.getD k undef]) w := by
  simp [results, h, go_sem]

set_option maxRecDepth 100000 in
set_option maxHeartbeats 2000000 in
theorem lead_c (s : ByteArray) (ds rest : List UInt8) (w : World) (hs : s.data.toList = ds ++ rest) (hd : Digits ds) (hr : ∀ c l, rest = c :: l → ¬ (48 ≤ c.toNat ∧ c.toNat ≤ 57)) (hx : numFrom 0 ds ≤ 9223372036854775808) (hl : s.size ≤ 1000) :
    Calls Tryf.prog 13 #[.string s] w fun e w' => ∃ r : ByteArray, r.data.toList = rest ∧ e = .returned (.tuple #[.int .u64 (numFrom 0 ds : Nat), .string r, .nilIface]) ∧ Below w.heap.size w w' := by
  have hsz : s.size = ds.length + rest.length := by rw [str_size hs, List.length_append]
  obtain ⟨X, hX⟩ : ∃ X, X = numFrom 0 ds := ⟨_, rfl⟩
  have H0 : Hid (numFrom 0 (ds.drop 0) = X) := by rw [hX]; rfl
  rw [← hX] at hx ⊢
  have HS := hidL hs
  have HD := hidL hd
  have HR := hidL hr
  have HZ := hidL hsz
  have hl1 : (s.size : Int) ≤ 1000 := by omega
  clear hs hd hr hX hsz hl
  go_enter Tryf.func13, Tryf.ntmps13
  go_wp2
  go_loop [2, 5, 6] (fun v i _ => ∃ (k n : Nat), k ≤ ds.length ∧ i = .int .i64 (k : Int) ∧ v = .int .u64 (n : Int) ∧ numFrom n (ds.drop k) = X) (fun _ i _ => ds.length - (intOf i).toNat)
  case atStart => exact ⟨0, 0, Nat.zero_le _, rfl, rfl, H0.out⟩
  case round =>
    obtain ⟨k, n, hk, rfl, rfl, hn⟩ := hrel
    clear H0
    by_cases hlt : k < ds.length
    · have hks : k < s.size := by have := HZ.out; omega
      have hc : s[k] = ds[k] := by
        rw [str_get HS.out k hks (by simp; omega), List.getElem_append_left hlt]
      obtain ⟨b1, b2⟩ := HD.out ds[k] (List.getElem_mem hlt)
      rw [numFrom_drop n ds k hlt] at hn
      have hge := numFrom_ge (n * 10 + (ds[k].toNat - 48)) (ds.drop (k + 1))
      rw [hn] at hge
      rw [← hc] at b1 b2 hge hn
      have HN := hidL hn
      have b3 : 48 ≤ (s[k].toNat : Int) := by omega
      have b4 : (s[k].toNat : Int) ≤ 57 := by omega
      have b5 : (n : Int) ≤ 922337203685477580 := by omega
      have b6 : (n : Int) * 10 + (s[k].toNat : Int) - 48 ≤ 9223372036854775808 := by omega
      have hks' : (k : Int) < (s.size : Int) := by omega
      clear HS HD HR HZ hc hn hge b1 b2
      go_wp2
      refine ⟨⟨k + 1, n * 10 + (s[k].toNat - 48), by omega, by go_num, ?_, HN.out⟩, by simp [intOf]; omega⟩
      congr 1
      omega
    · have e : ds.drop k = [] := List.drop_eq_nil_of_le (by omega)
      rw [e] at hn
      have hn' : n = X := hn
      have hkd : k = ds.length := by omega
      clear hn e hlt
      subst hn' hkd
      have hcut : (s.extract ds.length s.size).data.toList = rest := by
        have hh := HS.out
        rw [ByteArray.data_extract, Array.toList_extract, hh]
        simp [HZ.out]
      have HC := hidL hcut
      have hle : (ds.length : Int) ≤ (s.size : Int) := by have := HZ.out; omega
      by_cases hrest : rest = []
      · have hks : ¬ (ds.length : Int) < (s.size : Int) := by have := HZ.out; rw [hrest] at this; simp at this; omega
        clear HS HD HR HZ hcut
        go_wp2
        go_region
        go_wp2
        refine ⟨rfl, _, results_three rfl _ _ (), _, HC.out, rfl, (Below.refl _ w).drew⟩
      · obtain ⟨c, l, hcl⟩ : ∃ c l, rest = c :: l := by cases rest with | nil => exact absurd rfl hrest | cons c l => exact ⟨c, l, rfl⟩
        have hks : ds.length < s.size := by have := HZ.out; rw [hcl] at this; simp at this; omega
        have hks' : (ds.length : Int) < (s.size : Int) := by omega
        have hc : s[ds.length] = c := by
          rw [str_get HS.out ds.length hks (by rw [hcl]; simp), List.getElem_append_right (Nat.le_refl _)]
          simp [hcl]
        have hnd := HR.out c l hcl
        rw [← hc] at hnd
        clear HS HD HR HZ hcut hrest hcl hc
        by_cases hlo : (s[ds.length].toNat : Int) < 48
        · go_wp2
          go_region
          go_wp2
          refine ⟨rfl, _, results_three rfl _ _ (), _, HC.out, rfl, (Below.refl _ w).drew⟩
        · have hhi : (57 : Int) < (s[ds.length].toNat : Int) := by omega
          go_wp2
          go_region
          go_wp2
          refine ⟨rfl, _, results_three rfl _ _ (), _, HC.out, rfl, (Below.refl _ w).drew⟩
end Go.Proofs.Qxb6605652aFmt
