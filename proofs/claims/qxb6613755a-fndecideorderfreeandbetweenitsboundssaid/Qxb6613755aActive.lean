/-
  Function 3, 'FnActiveIsWhatTenantWideReaches': its walk.
-/
import Derived.Test.Qxb6613755aAdmins
import Derived.Deep.RegionWith
namespace Go.Proofs.Qxb6613755a
open Go.RowKit Go.Shelf
set_option linter.unusedVariables false
set_option linter.unusedSimpArgs false

set_option maxHeartbeats 400000 in
/-- 'zzMaxL(a, b)' -/
theorem maxL_c (a b : Int) (w : World) : Calls Try.prog 8 #[.int .i8 a, .int .i8 b] w fun e w' => e = .returned (.int .i8 (max a b)) ∧ w' = w := by
  by_cases h : b < a
  · rw [show max a b = a by omega]
    go_enter Try.func8, Try.ntmps8
    go_wp2
    go_ret
    exact ⟨rfl, rfl⟩
  · rw [show max a b = b by omega]
    go_enter Try.func8, Try.ntmps8
    go_wp2
    go_ret
    exact ⟨rfl, rfl⟩

def kbT (l : Int) : Kb := ⟨false, 2, l, emp, 0, []⟩
def faT (r l : Int) : Fa := ⟨true, false, false, r, emp, [], [kbT l]⟩
theorem level_T (r l : Int) : level (faT r l) = if 3 ≤ r then max 3 l else if 2 ≤ r then max 0 l else 0 := by
  have hm : max (0 : Int) 3 = 3 := by omega
  unfold level srcs auth superSrcs roleSrcs kbsSrcs faT
  by_cases h3 : 3 ≤ r
  · have h2 : 2 ≤ r := by omega
    have h0 : r ≠ 0 := by omega
    simp [maxFrom, h3, h2, h0, srcRole, hm, kbSrcs, kbT, creatorSrcs, genSrcs, personSrcs, grantSrcs, srcGen]
  · by_cases h2 : 2 ≤ r
    · have h0 : r ≠ 0 := by omega
      simp [maxFrom, h3, h2, h0, srcRole, hm, kbSrcs, kbT, creatorSrcs, genSrcs, personSrcs, grantSrcs, srcGen]
    · simp [maxFrom, h3, h2]

/-- The one knowledge base of the law, in its own block. -/
def kbTObj (l : Int) : Obj := .cells #[.bool false, .int .i8 2, .int .i8 l, .string emp, .int .i8 0, .slice none 0 0] 32
theorem row_kbT {n b : Nat} {W : World} {l : Int} (hb : b < n) (h : W.heap[b]? = some (kbTObj l)) : RowIs n 6 64 (KbAt n) W (.slice (some ⟨b, 0, none⟩) 1 1) [kbT l] := by
  unfold kbTObj at h
  refine ⟨some ⟨b, 0, none⟩, 1, rfl, Nat.le_refl _, by omega, fun j hj => ?_⟩
  obtain rfl : j = 0 := by simp at hj; exact hj
  exact ⟨b, 0, rfl, hb, cell_at h, cell_at h, cell_at h, cell_at h, cell_at h, _, cell_at h, row_nil _ _ _ _ _⟩

/-- The facts of the law, in their own block. -/
def faTObj (r : Int) (b : Nat) : Obj := .cells #[.bool true, .bool false, .bool false, .int .i8 r, .string emp, .slice none 0 0, .slice (some ⟨b, 0, none⟩) 1 1] 36
def worldT (r l : Int) (w : World) : World := (((w.alloc (kbTObj l)).alloc (faTObj r w.heap.size)).alloc (kbTObj 1)).alloc (faTObj r (w.heap.size + 2))
theorem worldT_size (r l : Int) (w : World) : (worldT r l w).heap.size = w.heap.size + 4 := by simp [worldT]
theorem worldT_at (r l : Int) (w : World) : (worldT r l w).heap[w.heap.size]? = some (kbTObj l) ∧ (worldT r l w).heap[w.heap.size + 1]? = some (faTObj r w.heap.size) ∧ (worldT r l w).heap[w.heap.size + 2]? = some (kbTObj 1) ∧ (worldT r l w).heap[w.heap.size + 3]? = some (faTObj r (w.heap.size + 2)) := by
  unfold worldT
  have e1 := World.alloc_heap_new w (kbTObj l)
  have e2 := World.alloc_heap_new (w.alloc (kbTObj l)) (faTObj r w.heap.size)
  have e3 := World.alloc_heap_new ((w.alloc (kbTObj l)).alloc (faTObj r w.heap.size)) (kbTObj 1)
  have e4 := World.alloc_heap_new (((w.alloc (kbTObj l)).alloc (faTObj r w.heap.size)).alloc (kbTObj 1)) (faTObj r (w.heap.size + 2))
  simp only [World.size_alloc] at e2 e3 e4
  refine ⟨?_, ?_, ?_, e4⟩
  · rw [Below.heap_alloc _ _ _ (by simp only [World.size_alloc]; omega), Below.heap_alloc _ _ _ (by simp only [World.size_alloc]; omega), Below.heap_alloc _ _ _ (by simp only [World.size_alloc]; omega)]; exact e1
  · rw [Below.heap_alloc _ _ _ (by simp only [World.size_alloc]; omega), Below.heap_alloc _ _ _ (by simp only [World.size_alloc]; omega)]; exact e2
  · rw [Below.heap_alloc _ _ _ (by simp only [World.size_alloc]; omega)]; exact e3
theorem worldT_below (r l : Int) (w : World) : Below w.heap.size w (worldT r l w) := ((((Below.refl _ w).alloc (Nat.le_refl _) _).alloc (by simp) _).alloc (by simp; omega) _).alloc (by simp; omega) _

theorem faT_cells {W : World} {b c : Nat} {r : Int} (h : W.heap[b]? = some (faTObj r c)) : W.cell? ⟨b, 0, none⟩ = some (.bool true) ∧ W.cell? ⟨b, 1, none⟩ = some (.bool false) ∧ W.cell? ⟨b, 2, none⟩ = some (.bool false) ∧ W.cell? ⟨b, 3, none⟩ = some (.int .i8 r) ∧ W.cell? ⟨b, 4, none⟩ = some (.string emp) ∧
    W.cell? ⟨b, 5, none⟩ = some (.slice none 0 0) ∧ W.cell? ⟨b, 6, none⟩ = some (.slice (some ⟨c, 0, none⟩) 1 1) := by
  unfold faTObj at h
  exact ⟨cell_at h, cell_at h, cell_at h, cell_at h, cell_at h, cell_at h, cell_at h⟩

/-- Decide at the law's facts, in whatever later world. -/
theorem decideT {r l : Int} {b : Nat} {W : World} (hb : b < W.heap.size) (h : W.heap[b]? = some (kbTObj l)) {lv : Int} (hl : level (faT r l) = lv) :
    Calls Try.prog 9 #[.agg #[.bool true, .bool false, .bool false, .int .i8 r, .string emp, .slice none 0 0, .slice (some ⟨b, 0, none⟩) 1 1]] W fun e w' => e = .returned (.int .i8 lv) ∧ Below W.heap.size W w' := by
  have := decide_c (faT r l) (.slice none 0 0) (.slice (some ⟨b, 0, none⟩) 1 1) W (row_nil _ _ _ _ _) (row_kbT hb h)
  rw [hl] at this
  exact this

/-- The law's last statement, behind the two facts. -/
theorem lastActive (r l lv lg : Int) (w : World) (hf : level (faT r l) = lv) (hg : level (faT r 1) = lg) :
    Calls Try.prog 9 #[.agg #[.bool true, .bool false, .bool false, .int .i8 r, .string emp, .slice none 0 0, .slice (some ⟨w.heap.size, 0, none⟩) 1 1]] (worldT r l w).drew (fun e w' => e = .returned (.int .i8 lv) ∧ Below (worldT r l w).heap.size (worldT r l w).drew w') ∧
    (∀ W1, Below (worldT r l w).heap.size (worldT r l w).drew W1 → Calls Try.prog 9 #[.agg #[.bool true, .bool false, .bool false, .int .i8 r, .string emp, .slice none 0 0, .slice (some ⟨w.heap.size + 1 + 1, 0, none⟩) 1 1]] W1 (fun e w' => e = .returned (.int .i8 lg) ∧ Below W1.heap.size W1 w') ∧
      W1.cell? ⟨w.heap.size + 1 + 1 + 1, 0, none⟩ = some (.bool true) ∧ W1.cell? ⟨w.heap.size + 1 + 1 + 1, 1, none⟩ = some (.bool false) ∧ W1.cell? ⟨w.heap.size + 1 + 1 + 1, 2, none⟩ = some (.bool false) ∧ W1.cell? ⟨w.heap.size + 1 + 1 + 1, 3, none⟩ = some (.int .i8 r) ∧ W1.cell? ⟨w.heap.size + 1 + 1 + 1, 4, none⟩ = some (.string emp) ∧
      W1.cell? ⟨w.heap.size + 1 + 1 + 1, 5, none⟩ = some (.slice none 0 0) ∧ W1.cell? ⟨w.heap.size + 1 + 1 + 1, 6, none⟩ = some (.slice (some ⟨w.heap.size + 1 + 1, 0, none⟩) 1 1)) ∧
    (∀ W1 w', Below (worldT r l w).heap.size (worldT r l w).drew W1 → Below W1.heap.size W1 w' → Below w.heap.size w w') := by
  have hB0 := worldT_below r l w
  have hs0 := worldT_size r l w
  obtain ⟨t1, t2, t3, t4⟩ := worldT_at r l w
  refine ⟨decideT (W := (worldT r l w).drew) (by show _ < (worldT r l w).heap.size; omega) t1 hf, fun W1 hb => ⟨decideT (W := W1) ?_ ((hb.block _ (by omega)).trans t3) hg, faT_cells ((hb.block _ (by omega)).trans t4)⟩, fun W1 w' hb hb' => ?_⟩
  · have : (worldT r l w).heap.size ≤ W1.heap.size := hb.size
    omega
  · have : (worldT r l w).heap.size ≤ W1.heap.size := hb.size
    exact (hB0.trans ((Below.refl _ _).drew)).trans ((hb.mono (by omega)).trans (hb'.mono (by omega)))

set_option maxHeartbeats 1000000 in
theorem walkActive (r l : Int) (w : World) :
    Calls Try.prog 3 #[.int .i8 r, .int .i8 l] w fun e w' => e = .returned (.bool true) ∧ Below w.heap.size w w' := by
  by_cases h3 : 3 ≤ r
  · have h2 : decide (2 ≤ r) = true := by simp; omega
    obtain ⟨hF, hG, hE⟩ := lastActive r l (max 3 l) 3 w (by rw [level_T, if_pos h3]) (by rw [level_T, if_pos h3]; omega)
    have HF := hidE hF
    have HG := hidE hG
    have HE := hidE hE
    clear hF hG hE
    go_enter Try.func3, Try.ntmps3
    go_wp2_with (go_at_call 8; refine (maxL_c _ _ _).mono ?_; rintro e w' ⟨rfl, rfl⟩)
    change Code.wp Try.prog _ _ _ (worldT r l _)
    obtain ⟨k0, k1, k2, k3, k4, k5, k6⟩ := faT_cells (worldT_at r l w).2.1
    go_region_with (first | (go_at_call 10; refine (active_c _ _).mono ?_; rintro e w' ⟨rfl, rfl⟩) | (go_at_call 9; refine HF.out.mono ?_; clear HF k0 k1 k2 k3 k4 k5 k6; rintro e W1 ⟨rfl, hb⟩; obtain ⟨hcall, k0, k1, k2, k3, k4, k5, k6⟩ := HG.out W1 hb; have HC := hidE hcall; clear hcall HG) | (go_at_call 9; refine HC.out.mono ?_; rintro e W2 ⟨rfl, hb2⟩))
    all_goals go_wp2
    all_goals go_ret
    all_goals exact ⟨rfl, HE.out _ _ hb hb2⟩
  · by_cases h2' : 2 ≤ r
    · have h2 : decide (2 ≤ r) = true := by simp; omega
      obtain ⟨hF, hG, hE⟩ := lastActive r l (max 0 l) 1 w (by rw [level_T, if_neg h3, if_pos h2']) (by rw [level_T, if_neg h3, if_pos h2']; omega)
      have HF := hidE hF
      have HG := hidE hG
      have HE := hidE hE
      clear hF hG hE
      go_enter Try.func3, Try.ntmps3
      go_wp2_with (go_at_call 8; refine (maxL_c _ _ _).mono ?_; rintro e w' ⟨rfl, rfl⟩)
      change Code.wp Try.prog _ _ _ (worldT r l _)
      obtain ⟨k0, k1, k2, k3, k4, k5, k6⟩ := faT_cells (worldT_at r l w).2.1
      go_region_with (first | (go_at_call 10; refine (active_c _ _).mono ?_; rintro e w' ⟨rfl, rfl⟩) | (go_at_call 9; refine HF.out.mono ?_; clear HF k0 k1 k2 k3 k4 k5 k6; rintro e W1 ⟨rfl, hb⟩; obtain ⟨hcall, k0, k1, k2, k3, k4, k5, k6⟩ := HG.out W1 hb; have HC := hidE hcall; clear hcall HG) | (go_at_call 9; refine HC.out.mono ?_; rintro e W2 ⟨rfl, hb2⟩))
      all_goals go_wp2
      all_goals go_ret
      all_goals exact ⟨rfl, HE.out _ _ hb hb2⟩
    · have h2 : decide (2 ≤ r) = false := by simp; omega
      obtain ⟨hF, hG, hE⟩ := lastActive r l 0 0 w (by rw [level_T, if_neg h3, if_neg h2']) (by rw [level_T, if_neg h3, if_neg h2'])
      have HF := hidE hF
      have HG := hidE hG
      have HE := hidE hE
      clear hF hG hE
      go_enter Try.func3, Try.ntmps3
      go_wp2_with (go_at_call 8; refine (maxL_c _ _ _).mono ?_; rintro e w' ⟨rfl, rfl⟩)
      change Code.wp Try.prog _ _ _ (worldT r l _)
      obtain ⟨k0, k1, k2, k3, k4, k5, k6⟩ := faT_cells (worldT_at r l w).2.1
      go_region_with (first | (go_at_call 10; refine (active_c _ _).mono ?_; rintro e w' ⟨rfl, rfl⟩) | (go_at_call 9; refine HF.out.mono ?_; clear HF k0 k1 k2 k3 k4 k5 k6; rintro e W1 ⟨rfl, hb⟩; obtain ⟨hcall, k0, k1, k2, k3, k4, k5, k6⟩ := HG.out W1 hb; have HC := hidE hcall; clear hcall HG) | (go_at_call 9; refine HC.out.mono ?_; rintro e W2 ⟨rfl, hb2⟩))
      all_goals go_wp2
      all_goals go_ret
      all_goals exact ⟨rfl, HE.out _ _ hb hb2⟩
end Go.Proofs.Qxb6613755a
