/-
  Function 10: 'time.ParseDuration' at a text of seconds and nanoseconds.
-/
import Derived.Test.Qxb6605652aFmtDur
namespace Go.Proofs.Qxb6605652aFmt
open Go.RowKit
set_option linter.unusedVariables false
set_option linter.unusedSimpArgs false

/-- What the unit map answers. -/
def Units (bm : Nat) (W : World) : Prop := W.cell? ⟨0, 0, none⟩ = some (.map (some bm)) ∧
    (Instr.lookup 46 (.map (some bm)) (.string ⟨#[115]⟩) true).run Tryf.prog W = .ok (.tuple #[.int .u64 1000000000, .bool true]) W ∧
    (Instr.lookup 46 (.map (some bm)) (.string ⟨#[110, 115]⟩) true).run Tryf.prog W = .ok (.tuple #[.int .u64 1, .bool true]) W

/-- A number and its unit. -/
structure Item where
  ds : List UInt8
  u : List UInt8
  f : Nat
def Item.Good (x : Item) : Prop := Digits x.ds ∧ x.ds ≠ [] ∧ ((x.u = [115] ∧ x.f = 1000000000) ∨ (x.u = [110, 115] ∧ x.f = 1))
def flat : List Item → List UInt8
  | [] => []
  | x :: l => x.ds ++ (x.u ++ flat l)
def total : List Item → Nat
  | [] => 0
  | x :: l => numFrom 0 x.ds * x.f + total l

theorem Units.look {bm : Nat} {W : World} (h : Units bm W) {x : Item} (g : x.Good) : (Instr.lookup 46 (.map (some bm)) (.string ⟨x.u.toArray⟩) true).run Tryf.prog W = .ok (.tuple #[.int .u64 (x.f : Int), .bool true]) W := by
  rcases g.2.2 with ⟨h1, h2⟩ | ⟨h1, h2⟩
  · rw [h1, h2]; exact h.2.1
  · rw [h1, h2]; exact h.2.2
theorem flat_head {items : List Item} (hg : ∀ x ∈ items, x.Good) {c : UInt8} {l : List UInt8} (h : flat items = c :: l) : 48 ≤ c.toNat ∧ c.toNat ≤ 57 := by
  cases items with
  | nil => cases h
  | cons x items =>
    obtain ⟨h1, h2, _⟩ := hg x (List.mem_cons_self ..)
    cases hd : x.ds with
    | nil => exact absurd hd h2
    | cons d ds =>
      have : flat (x :: items) = d :: (ds ++ (x.u ++ flat items)) := by rw [flat, hd]; rfl
      rw [this] at h
      cases h
      exact h1 _ (by rw [hd]; exact List.mem_cons_self ..)

theorem str_some {s : ByteArray} {c : UInt8} {l : List UInt8} (hs : s.data.toList = c :: l) : ∃ h : 0 < s.size, s[0] = c ∧ s.toList.isEmpty = false := by
  have h : s.size = l.length + 1 := by rw [str_size hs]; rfl
  refine ⟨by omega, ?_, ?_⟩
  · rw [str_get hs 0 (by omega) (by simp)]; rfl
  · rw [ByteArray.toList_eq, hs]; rfl
theorem str_none {s : ByteArray} (hs : s.data.toList = []) : s.toList.isEmpty = true := by
  rw [ByteArray.toList_eq, hs]; rfl
theorem str_eq {s : ByteArray} {l : List UInt8} (hs : s.data.toList = l) : s = ⟨l.toArray⟩ := by
  subst hs; simp

theorem ds_some {x : Item} (g : x.Good) : ∃ c l, x.ds = c :: l ∧ 48 ≤ c.toNat ∧ c.toNat ≤ 57 := by
  cases hd : x.ds with
  | nil => exact absurd hd g.2.1
  | cons c l => exact ⟨c, l, rfl, g.1 c (by rw [hd]; exact List.mem_cons_self ..)⟩

/-- The facts of a text that opens with an item. -/
theorem item_head {s : ByteArray} {x : Item} {rest : List Item} (g : x.Good) (hs : s.data.toList = flat (x :: rest)) : ∃ h : 0 < s.size, 48 ≤ (s[0].toNat : Int) ∧ (s[0].toNat : Int) ≤ 57 ∧ s.toList.isEmpty = false ∧ (s.toList == [48]) = false := by
  obtain ⟨c, l, hc, h1, h2⟩ := ds_some g
  have e : flat (x :: rest) = c :: (l ++ (x.u ++ flat rest)) := by rw [flat, hc]; rfl
  rw [e] at hs
  obtain ⟨h, h3, h4⟩ := str_some hs
  refine ⟨h, by rw [h3]; omega, by rw [h3]; omega, h4, ?_⟩
  rw [ByteArray.toList_eq, hs]
  have hu : x.u ≠ [] := by rcases g.2.2 with ⟨h, _⟩ | ⟨h, _⟩ <;> rw [h] <;> simp
  cases l with
  | nil =>
    cases hx : x.u with
    | nil => exact absurd hx hu
    | cons d u => simp
  | cons d l => simp

theorem u_pos {x : Item} (g : x.Good) : 1 ≤ x.u.length ∧ x.u.length ≤ 2 ∧ 1 ≤ x.f ∧ x.f ≤ 1000000000 := by
  rcases g.2.2 with ⟨h, k⟩ | ⟨h, k⟩ <;> rw [h, k] <;> simp
theorem u_get {x : Item} (g : x.Good) (k : Nat) (h : k < x.u.length) : 57 < x.u[k].toNat := by
  have hm : x.u[k] ∈ x.u := List.getElem_mem h
  generalize x.u[k] = c at hm ⊢
  rcases g.2.2 with ⟨e, _⟩ | ⟨e, _⟩
  · rw [e] at hm
    simp at hm
    subst hm
    decide
  · rw [e] at hm
    simp at hm
    rcases hm with rfl | rfl <;> decide
theorem u_first {x : Item} (g : x.Good) : ∃ c l, x.u = c :: l ∧ 57 < c.toNat := by
  rcases g.2.2 with ⟨e, _⟩ | ⟨e, _⟩
  · exact ⟨115, [], e, by decide⟩
  · exact ⟨110, [115], e, by decide⟩
end Go.Proofs.Qxb6605652aFmt
