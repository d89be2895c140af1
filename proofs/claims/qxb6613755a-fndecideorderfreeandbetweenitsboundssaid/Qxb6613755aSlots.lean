/-
  Function 31, '(*Facts).kbSources': its parts; what is known of its slots.
-/
import Derived.Test.Qxb6613755aVias
namespace Go.Proofs.Qxb6613755a
open Go.RowKit Go.Shelf

/-- What is known of an activation: its deferred calls, how many slots it has, what some of them hold. -/
def Slots (n : Nat) (vs : List (Nat × Value)) (ds : List Deferred) (a : Act) : Prop := a.defers = ds ∧ a.tmps.size = n ∧ ∀ p ∈ vs, a.tmps[p.1]? = some p.2

theorem Slots.weaken {n : Nat} {vs vs' : List (Nat × Value)} {ds : List Deferred} {a : Act} (h : Slots n vs ds a) (hv : ∀ p ∈ vs', p ∈ vs) : Slots n vs' ds a := ⟨h.1, h.2.1, fun p hp => h.2.2 p (hv p hp)⟩

def tabF (f : Nat → Value) : Nat → Nat → List Value
  | 0, _ => []
  | n + 1, i => f i :: tabF f n (i + 1)
theorem tabF_get (f : Nat → Value) : ∀ n i j, j < n → (tabF f n i)[j]? = some (f (i + j)) := by
  intro n
  induction n with
  | zero => intro i j h; omega
  | succ n ih =>
    intro i j h
    cases j with
    | zero => simp [tabF]
    | succ j => simp only [tabF, List.getElem?_cons_succ]; rw [ih (i + 1) j (by omega)]; congr 2; omega
theorem tabF_length (f : Nat → Value) : ∀ n i, (tabF f n i).length = n := by
  intro n
  induction n with
  | zero => intro i; rfl
  | succ n ih => intro i; simp [tabF, ih]
theorem tabF_of (t : Array Value) (g : Nat → Value) (hg : ∀ i, i < t.size → t[i]? = some (g i)) : t = List.toArray (tabF g t.size 0) := by
  apply Array.ext'
  apply List.ext_getElem?
  intro i
  by_cases h : i < t.size
  · rw [show (List.toArray (tabF g t.size 0)).toList = tabF g t.size 0 from rfl, tabF_get g _ _ _ h, Nat.zero_add, ← hg i h]; simp
  · rw [List.getElem?_eq_none (by simpa using Nat.le_of_not_lt h), List.getElem?_eq_none (by simp [tabF_length]; omega)]

theorem slotsKb {a : Act} {ds : List Deferred} {v0 v4 v5 v6 : Value} (h : Slots 92 [(0, v0), (4, v4), (5, v5), (6, v6)] ds a) : ∃ f : Nat → Value, a = { tmps := List.toArray (v0 :: f 1 :: f 2 :: f 3 :: v4 :: v5 :: v6 :: f 7 :: f 8 :: f 9 :: f 10 :: f 11 :: f 12 :: f 13 :: f 14 :: f 15 :: f 16 :: f 17 :: f 18 :: f 19 :: f 20 :: f 21 :: f 22 :: f 23 :: f 24 :: f 25 :: f 26 :: f 27 :: f 28 :: f 29 :: f 30 :: f 31 :: f 32 :: f 33 :: f 34 :: f 35 :: f 36 :: f 37 :: f 38 :: f 39 :: f 40 :: f 41 :: f 42 :: f 43 :: f 44 :: f 45 :: f 46 :: f 47 :: f 48 :: f 49 :: f 50 :: f 51 :: f 52 :: f 53 :: f 54 :: f 55 :: f 56 :: f 57 :: f 58 :: f 59 :: f 60 :: f 61 :: f 62 :: f 63 :: f 64 :: f 65 :: f 66 :: f 67 :: f 68 :: f 69 :: f 70 :: f 71 :: f 72 :: f 73 :: f 74 :: f 75 :: f 76 :: f 77 :: f 78 :: f 79 :: f 80 :: f 81 :: f 82 :: f 83 :: f 84 :: f 85 :: f 86 :: f 87 :: f 88 :: f 89 :: f 90 :: f 91 :: []), defers := ds } := by
  obtain ⟨rfl, hn, hv⟩ := h
  obtain ⟨f, hf⟩ : ∃ f : Nat → Value, f = fun i => a.tmps.getD i undef := ⟨_, rfl⟩
  have ht := tabF_of a.tmps f (fun i hi => by simp [hf, hi])
  have he : ∀ i v, a.tmps[i]? = some v → f i = v := fun i v h => by simp [hf, h]
  clear hf
  rw [hn] at ht
  have e0 := he 0 v0 (hv (0, v0) (by simp))
  have e4 := he 4 v4 (hv (4, v4) (by simp))
  have e5 := he 5 v5 (hv (5, v5) (by simp))
  have e6 := he 6 v6 (hv (6, v6) (by simp))
  refine ⟨f, ?_⟩
  simp only [tabF, Nat.reduceAdd, e0, e4, e5, e6] at ht
  obtain ⟨t, ds⟩ := a
  simp only at ht
  subst ht
  rfl

theorem slotsKb7 {a : Act} {ds : List Deferred} {v0 v4 v5 v6 v7 : Value} (h : Slots 92 [(0, v0), (4, v4), (5, v5), (6, v6), (7, v7)] ds a) : ∃ f : Nat → Value, a = { tmps := List.toArray (v0 :: f 1 :: f 2 :: f 3 :: v4 :: v5 :: v6 :: v7 :: f 8 :: f 9 :: f 10 :: f 11 :: f 12 :: f 13 :: f 14 :: f 15 :: f 16 :: f 17 :: f 18 :: f 19 :: f 20 :: f 21 :: f 22 :: f 23 :: f 24 :: f 25 :: f 26 :: f 27 :: f 28 :: f 29 :: f 30 :: f 31 :: f 32 :: f 33 :: f 34 :: f 35 :: f 36 :: f 37 :: f 38 :: f 39 :: f 40 :: f 41 :: f 42 :: f 43 :: f 44 :: f 45 :: f 46 :: f 47 :: f 48 :: f 49 :: f 50 :: f 51 :: f 52 :: f 53 :: f 54 :: f 55 :: f 56 :: f 57 :: f 58 :: f 59 :: f 60 :: f 61 :: f 62 :: f 63 :: f 64 :: f 65 :: f 66 :: f 67 :: f 68 :: f 69 :: f 70 :: f 71 :: f 72 :: f 73 :: f 74 :: f 75 :: f 76 :: f 77 :: f 78 :: f 79 :: f 80 :: f 81 :: f 82 :: f 83 :: f 84 :: f 85 :: f 86 :: f 87 :: f 88 :: f 89 :: f 90 :: f 91 :: []), defers := ds } := by
  obtain ⟨rfl, hn, hv⟩ := h
  obtain ⟨f, hf⟩ : ∃ f : Nat → Value, f = fun i => a.tmps.getD i undef := ⟨_, rfl⟩
  have ht := tabF_of a.tmps f (fun i hi => by simp [hf, hi])
  have he : ∀ i v, a.tmps[i]? = some v → f i = v := fun i v h => by simp [hf, h]
  clear hf
  rw [hn] at ht
  have e0 := he 0 v0 (hv (0, v0) (by simp))
  have e4 := he 4 v4 (hv (4, v4) (by simp))
  have e5 := he 5 v5 (hv (5, v5) (by simp))
  have e6 := he 6 v6 (hv (6, v6) (by simp))
  have e7 := he 7 v7 (hv (7, v7) (by simp))
  refine ⟨f, ?_⟩
  simp only [tabF, Nat.reduceAdd, e0, e4, e5, e6, e7] at ht
  obtain ⟨t, ds⟩ := a
  simp only at ht
  subst ht
  rfl

theorem slotsKb78 {a : Act} {ds : List Deferred} {v0 v4 v5 v6 v7 v8 : Value} (h : Slots 92 [(0, v0), (4, v4), (5, v5), (6, v6), (7, v7), (8, v8)] ds a) : ∃ f : Nat → Value, a = { tmps := List.toArray (v0 :: f 1 :: f 2 :: f 3 :: v4 :: v5 :: v6 :: v7 :: v8 :: f 9 :: f 10 :: f 11 :: f 12 :: f 13 :: f 14 :: f 15 :: f 16 :: f 17 :: f 18 :: f 19 :: f 20 :: f 21 :: f 22 :: f 23 :: f 24 :: f 25 :: f 26 :: f 27 :: f 28 :: f 29 :: f 30 :: f 31 :: f 32 :: f 33 :: f 34 :: f 35 :: f 36 :: f 37 :: f 38 :: f 39 :: f 40 :: f 41 :: f 42 :: f 43 :: f 44 :: f 45 :: f 46 :: f 47 :: f 48 :: f 49 :: f 50 :: f 51 :: f 52 :: f 53 :: f 54 :: f 55 :: f 56 :: f 57 :: f 58 :: f 59 :: f 60 :: f 61 :: f 62 :: f 63 :: f 64 :: f 65 :: f 66 :: f 67 :: f 68 :: f 69 :: f 70 :: f 71 :: f 72 :: f 73 :: f 74 :: f 75 :: f 76 :: f 77 :: f 78 :: f 79 :: f 80 :: f 81 :: f 82 :: f 83 :: f 84 :: f 85 :: f 86 :: f 87 :: f 88 :: f 89 :: f 90 :: f 91 :: []), defers := ds } := by
  obtain ⟨rfl, hn, hv⟩ := h
  obtain ⟨f, hf⟩ : ∃ f : Nat → Value, f = fun i => a.tmps.getD i undef := ⟨_, rfl⟩
  have ht := tabF_of a.tmps f (fun i hi => by simp [hf, hi])
  have he : ∀ i v, a.tmps[i]? = some v → f i = v := fun i v h => by simp [hf, h]
  clear hf
  rw [hn] at ht
  have e0 := he 0 v0 (hv (0, v0) (by simp))
  have e4 := he 4 v4 (hv (4, v4) (by simp))
  have e5 := he 5 v5 (hv (5, v5) (by simp))
  have e6 := he 6 v6 (hv (6, v6) (by simp))
  have e7 := he 7 v7 (hv (7, v7) (by simp))
  have e8 := he 8 v8 (hv (8, v8) (by simp))
  refine ⟨f, ?_⟩
  simp only [tabF, Nat.reduceAdd, e0, e4, e5, e6, e7, e8] at ht
  obtain ⟨t, ds⟩ := a
  simp only at ht
  subst ht
  rfl

theorem slotsKbG {a : Act} {ds : List Deferred} {v0 v4 v5 v6 v11 v12 : Value} (h : Slots 92 [(0, v0), (4, v4), (5, v5), (6, v6), (11, v11), (12, v12)] ds a) : ∃ f : Nat → Value, a = { tmps := List.toArray (v0 :: f 1 :: f 2 :: f 3 :: v4 :: v5 :: v6 :: f 7 :: f 8 :: f 9 :: f 10 :: v11 :: v12 :: f 13 :: f 14 :: f 15 :: f 16 :: f 17 :: f 18 :: f 19 :: f 20 :: f 21 :: f 22 :: f 23 :: f 24 :: f 25 :: f 26 :: f 27 :: f 28 :: f 29 :: f 30 :: f 31 :: f 32 :: f 33 :: f 34 :: f 35 :: f 36 :: f 37 :: f 38 :: f 39 :: f 40 :: f 41 :: f 42 :: f 43 :: f 44 :: f 45 :: f 46 :: f 47 :: f 48 :: f 49 :: f 50 :: f 51 :: f 52 :: f 53 :: f 54 :: f 55 :: f 56 :: f 57 :: f 58 :: f 59 :: f 60 :: f 61 :: f 62 :: f 63 :: f 64 :: f 65 :: f 66 :: f 67 :: f 68 :: f 69 :: f 70 :: f 71 :: f 72 :: f 73 :: f 74 :: f 75 :: f 76 :: f 77 :: f 78 :: f 79 :: f 80 :: f 81 :: f 82 :: f 83 :: f 84 :: f 85 :: f 86 :: f 87 :: f 88 :: f 89 :: f 90 :: f 91 :: []), defers := ds } := by
  obtain ⟨rfl, hn, hv⟩ := h
  obtain ⟨f, hf⟩ : ∃ f : Nat → Value, f = fun i => a.tmps.getD i undef := ⟨_, rfl⟩
  have ht := tabF_of a.tmps f (fun i hi => by simp [hf, hi])
  have he : ∀ i v, a.tmps[i]? = some v → f i = v := fun i v h => by simp [hf, h]
  clear hf
  rw [hn] at ht
  have e0 := he 0 v0 (hv (0, v0) (by simp))
  have e4 := he 4 v4 (hv (4, v4) (by simp))
  have e5 := he 5 v5 (hv (5, v5) (by simp))
  have e6 := he 6 v6 (hv (6, v6) (by simp))
  have e11 := he 11 v11 (hv (11, v11) (by simp))
  have e12 := he 12 v12 (hv (12, v12) (by simp))
  refine ⟨f, ?_⟩
  simp only [tabF, Nat.reduceAdd, e0, e4, e5, e6, e11, e12] at ht
  obtain ⟨t, ds⟩ := a
  simp only at ht
  subst ht
  rfl

theorem slotsKbL {a : Act} {ds : List Deferred} {v0 v4 v5 v6 v68 v69 v70 : Value} (h : Slots 92 [(0, v0), (4, v4), (5, v5), (6, v6), (68, v68), (69, v69), (70, v70)] ds a) : ∃ f : Nat → Value, a = { tmps := List.toArray (v0 :: f 1 :: f 2 :: f 3 :: v4 :: v5 :: v6 :: f 7 :: f 8 :: f 9 :: f 10 :: f 11 :: f 12 :: f 13 :: f 14 :: f 15 :: f 16 :: f 17 :: f 18 :: f 19 :: f 20 :: f 21 :: f 22 :: f 23 :: f 24 :: f 25 :: f 26 :: f 27 :: f 28 :: f 29 :: f 30 :: f 31 :: f 32 :: f 33 :: f 34 :: f 35 :: f 36 :: f 37 :: f 38 :: f 39 :: f 40 :: f 41 :: f 42 :: f 43 :: f 44 :: f 45 :: f 46 :: f 47 :: f 48 :: f 49 :: f 50 :: f 51 :: f 52 :: f 53 :: f 54 :: f 55 :: f 56 :: f 57 :: f 58 :: f 59 :: f 60 :: f 61 :: f 62 :: f 63 :: f 64 :: f 65 :: f 66 :: f 67 :: v68 :: v69 :: v70 :: f 71 :: f 72 :: f 73 :: f 74 :: f 75 :: f 76 :: f 77 :: f 78 :: f 79 :: f 80 :: f 81 :: f 82 :: f 83 :: f 84 :: f 85 :: f 86 :: f 87 :: f 88 :: f 89 :: f 90 :: f 91 :: []), defers := ds } := by
  obtain ⟨rfl, hn, hv⟩ := h
  obtain ⟨f, hf⟩ : ∃ f : Nat → Value, f = fun i => a.tmps.getD i undef := ⟨_, rfl⟩
  have ht := tabF_of a.tmps f (fun i hi => by simp [hf, hi])
  have he : ∀ i v, a.tmps[i]? = some v → f i = v := fun i v h => by simp [hf, h]
  clear hf
  rw [hn] at ht
  have e0 := he 0 v0 (hv (0, v0) (by simp))
  have e4 := he 4 v4 (hv (4, v4) (by simp))
  have e5 := he 5 v5 (hv (5, v5) (by simp))
  have e6 := he 6 v6 (hv (6, v6) (by simp))
  have e68 := he 68 v68 (hv (68, v68) (by simp))
  have e69 := he 69 v69 (hv (69, v69) (by simp))
  have e70 := he 70 v70 (hv (70, v70) (by simp))
  refine ⟨f, ?_⟩
  simp only [tabF, Nat.reduceAdd, e0, e4, e5, e6, e68, e69, e70] at ht
  obtain ⟨t, ds⟩ := a
  simp only at ht
  subst ht
  rfl


def seqL : Code → Code | .seq x _ => x | c => c
def seqR : Code → Code | .seq _ y => y | c => c
def part1 (c : Code) : Code := seqL (seqR c)
def part3 (c : Code) : Code := seqL (seqR (seqR c))
def part4 (c : Code) : Code := seqL (seqR (seqR (seqR c)))
def part15 (c : Code) : Code := seqL (seqR (seqR (seqR (seqR c))))
def part17 (c : Code) : Code := seqL (seqR (seqR (seqR (seqR (seqR c)))))
def part27 (c : Code) : Code := seqR (seqR (seqR (seqR (seqR (seqR c)))))

theorem code31_parts : Try.f31.body = some (.seq (seqL (Try.f31.body.getD .skip)) (.seq (part1 (Try.f31.body.getD .skip)) (.seq (part3 (Try.f31.body.getD .skip)) (.seq (part4 (Try.f31.body.getD .skip)) (.seq (part15 (Try.f31.body.getD .skip))
  (.seq (part17 (Try.f31.body.getD .skip)) (part27 (Try.f31.body.getD .skip)))))))) := rfl
end Go.Proofs.Qxb6613755a
