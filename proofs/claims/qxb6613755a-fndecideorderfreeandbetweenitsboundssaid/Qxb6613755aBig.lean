/-
  The checks on the input's size: functions 30, 27, 13, 20 ('zzKBBytes', 'zzBytes', 'zzTooBig', 'zzTooBigWithKB'): what they let by is small.
-/
import Derived.Test.Qxb6613755aBytes
import Derived.Deep.QuietTactic
import Derived.BigQuiet
namespace Go.Proofs.Qxb6613755a
open Go.RowKit Go.Shelf
set_option linter.unusedVariables false
set_option linter.unusedSimpArgs false

/-- A number and a bool are handed back; where the bool is false, the number is small and p holds. -/
def SizeRes (p : Prop) (e : Ending) : Prop := ∃ (m : Int) (b : Bool), e = .returned (.tuple #[.int .i64 m, .bool b]) ∧ (b = false → 0 ≤ m ∧ m ≤ 1048576 ∧ p)
theorem SizeRes.big (p : Prop) (m : Int) : SizeRes p (.returned (.tuple #[.int .i64 m, .bool true])) := ⟨m, true, rfl, fun h => by cases h⟩
theorem SizeRes.ok {p : Prop} {m : Int} (h0 : 0 ≤ m) (h1 : m ≤ 1048576) (hp : p) : SizeRes p (.returned (.tuple #[.int .i64 m, .bool false])) := ⟨m, false, rfl, fun _ => ⟨h0, h1, hp⟩⟩

theorem RowIs.mono' {α : Type} {n n' sz bytes : Nat} {At At' : Nat → Nat → World → α → Prop} {W W' : World} (hn : n ≤ n') (hAt : ∀ b o x, b < n → At b o W x → At' b o W' x) {sv : Value} {xs : List α} (h : RowIs n sz bytes At W sv xs) : RowIs n' sz bytes At' W' sv xs := by
  obtain ⟨a, cap, h1, h2, h3, h4⟩ := h
  refine ⟨a, cap, h1, h2, h3, fun j hj => ?_⟩
  obtain ⟨b, off, e, hb, hx⟩ := h4 j hj
  exact ⟨b, off, e, by omega, hAt _ _ _ hb hx⟩
theorem ZkAt.mono {n n' b o : Nat} {W W' : World} {x : Kb} (hn : n ≤ n') (h : Below n W W') (hb : b < n) (k : ZkAt n b o W x) : ZkAt n' b o W' x := by
  obtain ⟨k1, k2, k3, k4, k5, sv, k6, k7⟩ := k.below h hb
  exact ⟨k1, k2, k3, k4, k5, sv, k6, k7.mono' hn (fun _ _ _ _ h => h)⟩

set_option maxRecDepth 100000 in
set_option maxHeartbeats 2000000 in
theorem kbBytes (kb : Kb) (gv : Value) (m0 : Int) (n : Nat) (w : World) (h0 : 0 ≤ m0) (h1 : m0 ≤ 1048576) (hn : n ≤ w.heap.size) (hgr : RowIs n 2 0 GrAt w gv kb.grants) :
    Calls Try.prog 30 #[.agg #[.bool kb.creator, .int .i8 kb.vis, .int .i8 kb.lvl, .string kb.dep, .int .i8 kb.pg, gv], .int .i64 m0] w fun e w' => SizeRes (kb.grants.length ≤ 4096) e ∧ w' = w.alloc (zkObj kb gv) := by
  have hB : Below n w (w.alloc (zkObj kb gv)) := (Below.refl _ w).alloc hn _
  replace hgr := hgr.turned (W' := w.alloc (zkObj kb gv)) fun _ _ _ hb' => GrAt.below hB hb'
  clear hB
  unfold zkObj at hgr ⊢
  obtain ⟨ga0, gc0, rfl, hgl0, hgx0, hgr⟩ := hgr
  have HG : Hid (∀ j (h : j < kb.grants.length), ∃ b off, ga0 = some ⟨b, off, none⟩ ∧ b < n ∧ GrAt b (off + j * 2) (w.alloc (.cells #[.bool kb.creator, .int .i8 kb.vis, .int .i8 kb.lvl, .string kb.dep, .int .i8 kb.pg, .slice ga0 kb.grants.length gc0] 53)) kb.grants[j]) := hgr
  clear hgr hgl0 hgx0
  go_enter Try.func30, Try.ntmps30
  go_wp2
  all_goals first | (go_ret2; exact ⟨.big _ _, rfl⟩) | skip
  have hgl : (kb.grants.length : Int) ≤ 4096 := by omega
  go_loop [1, 6] (fun z i => ∃ (m : Nat) (zz : Int), m ≤ kb.grants.length ∧ 0 ≤ zz ∧ zz ≤ 1048576 ∧ i = .int .i64 m ∧ z = .int .i64 zz) (fun _ i => kb.grants.length - (intOf i).toNat)
  case atStart => exact ⟨0, _, Nat.zero_le _, by omega, by omega, rfl, rfl⟩
  case round =>
    obtain ⟨m, zz2, hm1, hz02, hz12, rfl, rfl⟩ := hrel
    have hgel := HG.out
    clear HG
    by_cases hlt2 : m < kb.grants.length
    · obtain ⟨b2, off2, rfl, hb2, e0, e1⟩ := hgel m hlt2
      clear hgel
      go_wp2
      all_goals first | (go_ret2; exact ⟨.big _ _, rfl⟩) | skip
      go_round
      case rel => exact ⟨m + 1, _, by omega, by omega, by omega, by go_num, rfl⟩
      case measure => simp [intOf]; omega
    · clear hgel
      go_wp2
      go_ret2
      exact ⟨.ok (by omega) (by omega) (by omega), rfl⟩

theorem below_drewN' (B : Nat) (w : World) (n : Nat) : Below B w (w.drewN n) := ⟨rfl, rfl, rfl, Nat.le_refl _, fun _ _ => rfl⟩

theorem hidB {p : Prop} (h : p) : Hid p := h

/-- What the checks let by. -/
def Small (ds : List Wi) (ks : List Kb) : Prop := ds.length ≤ 4096 ∧ ks.length ≤ 4096 ∧ ∀ j (h : j < ks.length), ks[j].grants.length ≤ 4096

set_option maxRecDepth 100000 in
set_option maxHeartbeats 4000000 in
theorem zzBytes_c (a4 : ByteArray) (dv kv : Value) (ds : List Wi) (ks : List Kb) (w : World) (w4 : a4.size ≤ maxLen) (hd : RowIs w.heap.size 2 0 WiAt w dv ds) (hk : RowIs w.heap.size 6 0 (ZkAt w.heap.size) w kv ks) :
    Calls Try.prog 27 #[.string a4, dv, kv] w fun e w' => SizeRes (Small ds ks) e ∧ Below w.heap.size w w' := by
  unfold maxLen at w4
  obtain ⟨da, dc, rfl, hdl, hdx, hd⟩ := hd
  obtain ⟨ka, kc, rfl, hkl, hkx, hk⟩ := hk
  clear hdl hdx hkl hkx
  have HK : Hid (∀ j (h : j < ks.length), ∃ b off, ka = some ⟨b, off, none⟩ ∧ b < w.heap.size ∧ ZkAt w.heap.size b (off + j * 6) w ks[j]) := hk
  clear hk
  have HD : Hid (∀ j (h : j < ds.length), ∃ b off, da = some ⟨b, off, none⟩ ∧ b < w.heap.size ∧ WiAt b (off + j * 2) w ds[j]) := hd
  clear hd
  have HB : Hid (Below w.heap.size w w) := Below.refl _ _
  go_enter Try.func27, Try.ntmps27
  go_wp2
  all_goals first | (go_ret2; exact ⟨.big _ _, HB.out⟩) | skip
  have hdl : (ds.length : Int) ≤ 4096 := by omega
  have hkl : (ks.length : Int) ≤ 4096 := by omega
  clear HB
  go_loopw [8, 9] (fun z i wr => ∃ (k : Nat) (zz : Int), k ≤ ds.length ∧ 0 ≤ zz ∧ zz ≤ 1048576 ∧ i = .int .i64 k ∧ z = .int .i64 zz ∧ Below w.heap.size w wr) (fun _ i _ => ds.length - (intOf i).toNat)
  case atStart => exact ⟨0, _, Nat.zero_le _, by omega, by omega, rfl, rfl, Below.refl _ _⟩
  case round =>
    obtain ⟨k, zz, hk1, hz0, hz1, rfl, rfl, hbel⟩ := hrel
    by_cases hlt : k < ds.length
    · obtain ⟨b, off, rfl, hb, c0, c1⟩ := HD.out k hlt
      replace c0 := (hbel.cell (p := ⟨b, off + k * 2, none⟩) hb).trans c0
      replace c1 := (hbel.cell (p := ⟨b, off + k * 2 + 1, none⟩) hb).trans c1
      have HB : Hid (Below w.heap.size w wr) := hbel
      clear HD HK hbel hb
      generalize ds[k] = x at c0 c1
      by_cases hx0 : (x.dep.size : Int) ≤ 1048576
      · by_cases hx1 : (x.via.size : Int) ≤ 1048576
        · have hx0' : decide ((1048576 : Int) < x.dep.size) = false := by simp; omega
          go_wp2
          go_quiet (fail)
          go_wp2
          · go_ret2
            exact ⟨.big _ _, HB.out.trans (below_drewN' _ _ _)⟩
          · go_roundw
            case rel => exact ⟨k + 1, _, by omega, by omega, by omega, by go_num, rfl, HB.out.trans (below_drewN' _ _ _)⟩
            case measure => simp [intOf]; omega
        · have hx0' : decide ((1048576 : Int) < x.dep.size) = false := by simp; omega
          go_wp2
          go_ret2
          exact ⟨.big _ _, HB.out⟩
      · have hx0' : decide ((1048576 : Int) < x.dep.size) = true := by simp; omega
        go_wp2
        go_ret2
        exact ⟨.big _ _, HB.out⟩
    · clear HD
      go_wp2
      obtain ⟨w1, rfl⟩ : ∃ w1 : World, w1 = wr := ⟨_, rfl⟩
      go_loopw [8, 10, 11, 12, 13] (fun z g i _ _ wr => ∃ (j : Nat) (zz gg : Int), j ≤ ks.length ∧ 0 ≤ zz ∧ zz ≤ 1048576 ∧ 0 ≤ gg ∧ gg ≤ 4096 ∧ i = .int .i64 j ∧ z = .int .i64 zz ∧ g = .int .i64 gg ∧ Below w.heap.size w wr ∧ ∀ m (h : m < ks.length), m < j → ks[m].grants.length ≤ 4096) (fun _ _ i _ _ _ => ks.length - (intOf i).toNat)
      case atStart => exact ⟨0, zz, 0, Nat.zero_le _, by omega, by omega, by omega, by omega, rfl, rfl, rfl, hbel, fun m h h' => by omega⟩
      case round =>
        obtain ⟨j, zz', gg, hj1, hz0', hz1', hg0, hg1, rfl, rfl, rfl, hbel', hsm⟩ := hrel
        clear hbel
        have HS : Hid (∀ m (h : m < ks.length), m < j → ks[m].grants.length ≤ 4096) := hsm
        clear hsm
        by_cases hlt' : j < ks.length
        · obtain ⟨b, off, rfl, hb, q⟩ := HK.out j hlt'
          obtain ⟨q0, q1, q2, q3, q4, gv, q5, q6⟩ := q.below hbel' hb
          have hnw : w.heap.size ≤ wr.heap.size := hbel'.size
          have hcall := fun m0 h0 h1 => kbBytes ks[j] gv m0 w.heap.size wr h0 h1 hnw q6
          obtain ⟨ga, gc, rfl, hgl1, hgl2, hgl3⟩ := q6
          have HC : Hid (∀ m0, 0 ≤ m0 → m0 ≤ 1048576 → Calls Try.prog 30 #[.agg #[.bool ks[j].creator, .int .i8 ks[j].vis, .int .i8 ks[j].lvl, .string ks[j].dep, .int .i8 ks[j].pg, .slice ga ks[j].grants.length gc], .int .i64 m0] wr fun e w' => SizeRes (ks[j].grants.length ≤ 4096) e ∧ w' = wr.alloc (zkObj ks[j] (.slice ga ks[j].grants.length gc))) := hcall
          have HB : Hid (Below w.heap.size w wr) := hbel'
          clear hgl1 hgl2 hgl3 hcall hbel' HK q
          go_wp2_with (go_at_call 30; refine (HC.out _ hz0' hz1').mono ?_; rintro e w' ⟨⟨m2, b2, rfl, hsz⟩, rfl⟩; have HZ : Hid (b2 = false → 0 ≤ m2 ∧ m2 ≤ 1048576 ∧ ks[j].grants.length ≤ 4096) := hsz; clear hsz)
          all_goals first | (go_ret2; first | exact ⟨.big _ _, HB.out⟩ | exact ⟨.big _ _, HB.out.alloc (by omega) _⟩) | skip
          obtain ⟨z0, z1, z2⟩ := HZ.out (by assumption)
          go_roundw
          case rel => exact ⟨j + 1, m2, _, by omega, z0, z1, by omega, by omega, by go_num, rfl, rfl, HB.out.alloc (by omega) _, fun m h h' => by
            by_cases e : m = j
            · subst e; exact z2
            · exact HS.out m h (by omega)⟩
          case measure => simp [intOf]; omega
        · clear HK
          have hfin : Small ds ks := ⟨by omega, by omega, fun m h => HS.out m h (by omega)⟩
          have HF : Hid (Small ds ks) := hfin
          have HB : Hid (Below w.heap.size w wr) := hbel'
          clear hfin HS hbel'
          go_wp2
          go_ret2
          exact ⟨.ok (by omega) (by omega) HF.out, HB.out⟩

/-- A bool is handed back; where it is false, p holds. -/
def BigRes (p : Prop) (e : Ending) : Prop := ∃ b : Bool, e = .returned (.bool b) ∧ (b = false → p)

set_option maxHeartbeats 1000000 in
theorem tooBig_c (a4 : ByteArray) (dv kv : Value) (ds : List Wi) (ks : List Kb) (w : World) (w4 : a4.size ≤ maxLen) (hd : RowIs w.heap.size 2 0 WiAt w dv ds) (hk : RowIs w.heap.size 6 0 (ZkAt w.heap.size) w kv ks) :
    Calls Try.prog 13 #[.string a4, dv, kv] w fun e w' => BigRes (Small ds ks) e ∧ Below w.heap.size w w' := by
  have hc := zzBytes_c a4 dv kv ds ks w w4 hd hk
  obtain ⟨da, dc, rfl, _⟩ := hd
  obtain ⟨ka, kc, rfl, _⟩ := hk
  have HC : Hid (Calls Try.prog 27 #[.string a4, .slice da ds.length dc, .slice ka ks.length kc] w fun e w' => SizeRes (Small ds ks) e ∧ Below w.heap.size w w') := hc
  clear hc
  go_enter Try.func13, Try.ntmps13
  go_wp2_with (go_at_call 27; refine HC.out.mono ?_; rintro e w' ⟨⟨m2, b2, rfl, hsz⟩, hb⟩; have HZ : Hid (b2 = false → 0 ≤ m2 ∧ m2 ≤ 1048576 ∧ Small ds ks) := hsz; have HB : Hid (Below w.heap.size w w') := hb; clear hsz hb)
  go_ret
  exact ⟨⟨b2, rfl, fun h => (HZ.out h).2.2⟩, HB.out⟩

set_option maxHeartbeats 1000000 in
theorem tooBigKb_c (a4 : ByteArray) (dv kv : Value) (kb : Kb) (gv : Value) (ds : List Wi) (ks : List Kb) (w : World) (w4 : a4.size ≤ maxLen) (hd : RowIs w.heap.size 2 0 WiAt w dv ds) (hk : RowIs w.heap.size 6 0 (ZkAt w.heap.size) w kv ks) (hg : RowIs w.heap.size 2 0 GrAt w gv kb.grants) :
    Calls Try.prog 20 #[.string a4, dv, kv, .agg #[.bool kb.creator, .int .i8 kb.vis, .int .i8 kb.lvl, .string kb.dep, .int .i8 kb.pg, gv]] w fun e w' => BigRes (Small ds ks ∧ kb.grants.length ≤ 4096) e ∧ Below w.heap.size w w' := by
  have hB : Below w.heap.size w (w.alloc (zkObj kb gv)) := (Below.refl _ w).alloc (Nat.le_refl _) _
  have hc := zzBytes_c a4 dv kv ds ks (w.alloc (zkObj kb gv)) w4 (hd.mono' (by simp) fun _ _ _ hb' => WiAt.below hB hb') (hk.mono' (by simp) fun _ _ _ hb' h => ZkAt.mono (by simp) hB hb' h)
  have hc2 : ∀ w1 m0, Below (w.alloc (zkObj kb gv)).heap.size (w.alloc (zkObj kb gv)) w1 → 0 ≤ m0 → m0 ≤ 1048576 → Calls Try.prog 30 #[.agg #[.bool kb.creator, .int .i8 kb.vis, .int .i8 kb.lvl, .string kb.dep, .int .i8 kb.pg, gv], .int .i64 m0] w1 fun e w' => SizeRes (kb.grants.length ≤ 4096) e ∧ w' = w1.alloc (zkObj kb gv) :=
    fun w1 m0 hb h0 h1 => kbBytes kb gv m0 w.heap.size w1 h0 h1 (by have := hb.size; simp at this; omega) (hg.turned fun _ _ _ hb' => GrAt.below (hB.trans (hb.mono (by simp))) hb')
  have hbox : ∀ w1, Below (w.alloc (zkObj kb gv)).heap.size (w.alloc (zkObj kb gv)) w1 → w1.heap[w.heap.size]? = some (zkObj kb gv) := fun w1 hb => (hb.block _ (by simp)).trans (World.alloc_heap_new _ _)
  obtain ⟨da, dc, rfl, _⟩ := hd
  obtain ⟨ka, kc, rfl, _⟩ := hk
  obtain ⟨ga, gc, rfl, _⟩ := hg
  have HC := hidB hc
  have HC2 := hidB hc2
  have HX := hidB hbox
  have HB0 := hidB hB
  clear hc hc2 hbox hB
  have hpr : 0 ≤ (ds.length : Int) * ((kb.grants.length : Int) + 2) := Int.mul_nonneg (by omega) (by omega)
  go_enter Try.func20, Try.ntmps20
  go_wp2_with (first | (go_at_call 27; refine HC.out.mono ?_; rintro e w1 ⟨⟨m2, b2, rfl, hsz⟩, hb⟩; have HZ : Hid (b2 = false → 0 ≤ m2 ∧ m2 ≤ 1048576 ∧ Small ds ks) := hsz; have HB : Hid (Below (w.alloc (zkObj kb (.slice ga kb.grants.length gc))).heap.size (w.alloc (zkObj kb (.slice ga kb.grants.length gc))) w1) := hb; have hx := HX.out w1 hb; unfold zkObj at hx; obtain ⟨x0, x1, x2, x3, x4, x5⟩ : w1.cell? ⟨w.heap.size, 0, none⟩ = some (.bool kb.creator) ∧ w1.cell? ⟨w.heap.size, 1, none⟩ = some (.int .i8 kb.vis) ∧ w1.cell? ⟨w.heap.size, 2, none⟩ = some (.int .i8 kb.lvl) ∧ w1.cell? ⟨w.heap.size, 3, none⟩ = some (.string kb.dep) ∧ w1.cell? ⟨w.heap.size, 4, none⟩ = some (.int .i8 kb.pg) ∧ w1.cell? ⟨w.heap.size, 5, none⟩ = some (.slice ga kb.grants.length gc) := ⟨cell_at hx, cell_at hx, cell_at hx, cell_at hx, cell_at hx, cell_at hx⟩; clear hsz hb hx HC))
  · go_ret
    exact ⟨⟨true, rfl, fun h => by cases h⟩, HB0.out.trans (HB.out.mono (by simp))⟩
  · have hb2 : b2 = false := by assumption
    obtain ⟨z0, z1, z2⟩ := HZ.out hb2
    have HS := hidB z2
    clear z2 HZ
    refine (HC2.out w1 m2 HB.out z0 z1).mono ?_
    rintro e w' ⟨⟨m3, b3, rfl, hsz⟩, rfl⟩
    have HZ3 := hidB hsz
    clear hsz HC2 HX
    have hlt : w.heap.size < w1.heap.size := by have := HB.out.size; simp at this; omega
    have x5' : (w1.alloc (zkObj kb (.slice ga kb.grants.length gc))).cell? ⟨w.heap.size, 5, none⟩ = some (.slice ga kb.grants.length gc) := by
      rw [World.cell?_of_block (w := w1) (Below.heap_alloc _ _ _ hlt)]; exact x5
    have HBB : Hid (Below w.heap.size w (w1.alloc (zkObj kb (.slice ga kb.grants.length gc)))) := (HB0.out.trans (HB.out.mono (by simp))).alloc (by omega) _
    clear HB HB0 x0 x1 x2 x3 x4 x5
    go_wp2
    all_goals go_ret
    · exact ⟨⟨true, rfl, fun h => by cases h⟩, HBB.out⟩
    · exact ⟨⟨true, rfl, fun h => by cases h⟩, HBB.out⟩
    · exact ⟨⟨false, rfl, fun _ => ⟨HS.out, (HZ3.out (by assumption)).2.2⟩⟩, HBB.out⟩
end Go.Proofs.Qxb6613755a
