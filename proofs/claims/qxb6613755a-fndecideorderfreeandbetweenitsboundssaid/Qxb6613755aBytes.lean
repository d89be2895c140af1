/-
  The checks on the input's size: functions 12, 16, 19 ('zzBytes_..'): they return, and turn nothing.
-/
import Derived.Test.Qxb6613755aVias
namespace Go.Proofs.Qxb6613755a
open Go.RowKit Go.Shelf
set_option linter.unusedVariables false
set_option linter.unusedSimpArgs false

/-- A knowledge base of the input, in memory. -/
def ZkAt (n b o : Nat) (W : World) (x : Kb) : Prop := W.cell? ⟨b, o, none⟩ = some (.bool x.creator) ∧ W.cell? ⟨b, o + 1, none⟩ = some (.int .i8 x.vis) ∧ W.cell? ⟨b, o + 2, none⟩ = some (.int .i8 x.lvl) ∧
  W.cell? ⟨b, o + 3, none⟩ = some (.string x.dep) ∧ W.cell? ⟨b, o + 4, none⟩ = some (.int .i8 x.pg) ∧ ∃ sv, W.cell? ⟨b, o + 5, none⟩ = some sv ∧ RowIs n 2 0 GrAt W sv x.grants
theorem ZkAt.below {n b o : Nat} {W W' : World} {x : Kb} (h : Below n W W') (hb : b < n) (k : ZkAt n b o W x) : ZkAt n b o W' x := by
  obtain ⟨k1, k2, k3, k4, k5, sv, k6, k7⟩ := k
  exact ⟨(h.cell (p := ⟨b, _, none⟩) hb).trans k1, (h.cell (p := ⟨b, _, none⟩) hb).trans k2, (h.cell (p := ⟨b, _, none⟩) hb).trans k3, (h.cell (p := ⟨b, _, none⟩) hb).trans k4, (h.cell (p := ⟨b, _, none⟩) hb).trans k5, sv, (h.cell (p := ⟨b, _, none⟩) hb).trans k6, k7.turned fun _ _ _ hb' => GrAt.below h hb'⟩

/-- A knowledge base of the input, boxed. -/
def zkObj (kb : Kb) (gv : Value) : Obj := .cells #[.bool kb.creator, .int .i8 kb.vis, .int .i8 kb.lvl, .string kb.dep, .int .i8 kb.pg, gv] 53

/-- Some bool is handed back. -/
def IsBool (e : Ending) : Prop := ∃ b, e = .returned (.bool b)
theorem IsBool.mk (b : Bool) : IsBool (.returned (.bool b)) := ⟨b, rfl⟩

set_option maxRecDepth 100000 in
set_option maxHeartbeats 4000000 in
theorem bytes12 (a0 a1 a2 : Bool) (a3 : Int) (a4 : ByteArray) (dv kv : Value) (a7 : Int) (n : Nat) (ds : List Wi) (ks : List Kb) (w : World) (w4 : a4.size ≤ maxLen) (hd : RowIs n 2 0 WiAt w dv ds) (hk : RowIs n 6 0 (ZkAt n) w kv ks) :
    Calls Try.prog 12 #[.bool a0, .bool a1, .bool a2, .int .i8 a3, .string a4, dv, kv, .int .i64 a7] w fun e w' => IsBool e ∧ w' = w := by
  unfold maxLen at w4
  obtain ⟨da, dc, rfl, hdl, hdx, hd⟩ := hd
  obtain ⟨ka, kc, rfl, hkl, hkx, hk⟩ := hk
  clear hdl hdx hkl hkx
  have HK : Hid (∀ j (h : j < ks.length), ∃ b off, ka = some ⟨b, off, none⟩ ∧ b < n ∧ ZkAt n b (off + j * 6) w ks[j]) := hk
  clear hk
  have HD : Hid (∀ j (h : j < ds.length), ∃ b off, da = some ⟨b, off, none⟩ ∧ b < n ∧ WiAt b (off + j * 2) w ds[j]) := hd
  clear hd
  go_enter Try.func12, Try.ntmps12
  go_wp2
  all_goals first | (go_ret; exact ⟨.mk _, rfl⟩) | skip
  have hdl : (ds.length : Int) ≤ 1048576 := by assumption
  go_loop [17, 18] (fun z i => ∃ (k : Nat) (zz : Int), k ≤ ds.length ∧ 0 ≤ zz ∧ zz ≤ 1048576 ∧ i = .int .i64 k ∧ z = .int .i64 zz) (fun _ i => ds.length - (intOf i).toNat)
  case atStart => exact ⟨0, _, Nat.zero_le _, by omega, by omega, rfl, rfl⟩
  case round =>
    obtain ⟨k, zz, hk1, hz0, hz1, rfl, rfl⟩ := hrel
    by_cases hlt : k < ds.length
    · obtain ⟨b, off, rfl, hb, c0, c1⟩ := HD.out k hlt
      clear HD HK
      generalize ds[k] = x at c0 c1
      go_wp2
      all_goals first | (go_ret; exact ⟨.mk _, rfl⟩) | skip
      go_round
      case rel => exact ⟨k + 1, _, by omega, by omega, by omega, by go_num, rfl⟩
      case measure => simp [intOf]; omega
    · clear HD
      go_wp2
      all_goals first | (go_ret; exact ⟨.mk _, rfl⟩) | skip
      have hkl : (ks.length : Int) ≤ 1048576 := by assumption
      go_loop [17, 19] (fun z i => ∃ (j : Nat) (zz : Int), j ≤ ks.length ∧ 0 ≤ zz ∧ zz ≤ 1048576 ∧ i = .int .i64 j ∧ z = .int .i64 zz) (fun _ i => ks.length - (intOf i).toNat)
      case atStart => exact ⟨0, _, Nat.zero_le _, by omega, by omega, rfl, rfl⟩
      case round =>
        obtain ⟨j, zz', hj1, hz0', hz1', rfl, rfl⟩ := hrel
        have hk := HK.out
        clear HK
        by_cases hlt' : j < ks.length
        · obtain ⟨b, off, rfl, hb, q0, q1, q2, q3, q4, gv, q5, ga, gc, rfl, hg1, hg2, hgel⟩ := hk j hlt'
          clear hk hg1 hg2 q0 q1 q2 q4
          go_wp2
          all_goals first | (go_ret; exact ⟨.mk _, rfl⟩) | skip
          have hgl : (ks[j].grants.length : Int) ≤ 1048576 := by assumption
          go_loop [17, 20] (fun z i => ∃ (m : Nat) (zz : Int), m ≤ ks[j].grants.length ∧ 0 ≤ zz ∧ zz ≤ 1048576 ∧ i = .int .i64 m ∧ z = .int .i64 zz) (fun _ i => ks[j].grants.length - (intOf i).toNat)
          case atStart => exact ⟨0, _, Nat.zero_le _, by omega, by omega, rfl, rfl⟩
          case round =>
            obtain ⟨m, zz2, hm1, hz02, hz12, rfl, rfl⟩ := hrel
            by_cases hlt2 : m < ks[j].grants.length
            · obtain ⟨b2, off2, rfl, hb2, e0, e1⟩ := hgel m hlt2
              clear hgel
              go_wp2
              all_goals first | (go_ret; exact ⟨.mk _, rfl⟩) | skip
              go_round
              case rel => exact ⟨m + 1, _, by omega, by omega, by omega, by go_num, rfl⟩
              case measure => simp [intOf]; omega
            · clear hgel
              go_wp2
              go_round
              case rel => exact ⟨j + 1, _, by omega, by omega, by omega, by go_num, rfl⟩
              case measure => simp [intOf]; omega
        · clear hk
          go_wp2
          go_ret
          exact ⟨.mk _, rfl⟩

set_option maxRecDepth 100000 in
set_option maxHeartbeats 4000000 in
theorem bytes16 (a0 a1 a2 : Bool) (a3 : Int) (a4 : ByteArray) (dv kv : Value) (n : Nat) (ds : List Wi) (ks : List Kb) (w : World) (w4 : a4.size ≤ maxLen) (hd : RowIs n 2 0 WiAt w dv ds) (hk : RowIs n 6 0 (ZkAt n) w kv ks) :
    Calls Try.prog 16 #[.bool a0, .bool a1, .bool a2, .int .i8 a3, .string a4, dv, kv] w fun e w' => IsBool e ∧ w' = w := by
  unfold maxLen at w4
  obtain ⟨da, dc, rfl, hdl, hdx, hd⟩ := hd
  obtain ⟨ka, kc, rfl, hkl, hkx, hk⟩ := hk
  clear hdl hdx hkl hkx
  have HK : Hid (∀ j (h : j < ks.length), ∃ b off, ka = some ⟨b, off, none⟩ ∧ b < n ∧ ZkAt n b (off + j * 6) w ks[j]) := hk
  clear hk
  have HD : Hid (∀ j (h : j < ds.length), ∃ b off, da = some ⟨b, off, none⟩ ∧ b < n ∧ WiAt b (off + j * 2) w ds[j]) := hd
  clear hd
  go_enter Try.func16, Try.ntmps16
  go_wp2
  all_goals first | (go_ret; exact ⟨.mk _, rfl⟩) | skip
  have hdl : (ds.length : Int) ≤ 1048576 := by assumption
  go_loop [15, 16] (fun z i => ∃ (k : Nat) (zz : Int), k ≤ ds.length ∧ 0 ≤ zz ∧ zz ≤ 1048576 ∧ i = .int .i64 k ∧ z = .int .i64 zz) (fun _ i => ds.length - (intOf i).toNat)
  case atStart => exact ⟨0, _, Nat.zero_le _, by omega, by omega, rfl, rfl⟩
  case round =>
    obtain ⟨k, zz, hk1, hz0, hz1, rfl, rfl⟩ := hrel
    by_cases hlt : k < ds.length
    · obtain ⟨b, off, rfl, hb, c0, c1⟩ := HD.out k hlt
      clear HD HK
      generalize ds[k] = x at c0 c1
      go_wp2
      all_goals first | (go_ret; exact ⟨.mk _, rfl⟩) | skip
      go_round
      case rel => exact ⟨k + 1, _, by omega, by omega, by omega, by go_num, rfl⟩
      case measure => simp [intOf]; omega
    · clear HD
      go_wp2
      all_goals first | (go_ret; exact ⟨.mk _, rfl⟩) | skip
      have hkl : (ks.length : Int) ≤ 1048576 := by assumption
      go_loop [15, 17] (fun z i => ∃ (j : Nat) (zz : Int), j ≤ ks.length ∧ 0 ≤ zz ∧ zz ≤ 1048576 ∧ i = .int .i64 j ∧ z = .int .i64 zz) (fun _ i => ks.length - (intOf i).toNat)
      case atStart => exact ⟨0, _, Nat.zero_le _, by omega, by omega, rfl, rfl⟩
      case round =>
        obtain ⟨j, zz', hj1, hz0', hz1', rfl, rfl⟩ := hrel
        have hk := HK.out
        clear HK
        by_cases hlt' : j < ks.length
        · obtain ⟨b, off, rfl, hb, q0, q1, q2, q3, q4, gv, q5, ga, gc, rfl, hg1, hg2, hgel⟩ := hk j hlt'
          clear hk hg1 hg2 q0 q1 q2 q4
          go_wp2
          all_goals first | (go_ret; exact ⟨.mk _, rfl⟩) | skip
          have hgl : (ks[j].grants.length : Int) ≤ 1048576 := by assumption
          go_loop [15, 18] (fun z i => ∃ (m : Nat) (zz : Int), m ≤ ks[j].grants.length ∧ 0 ≤ zz ∧ zz ≤ 1048576 ∧ i = .int .i64 m ∧ z = .int .i64 zz) (fun _ i => ks[j].grants.length - (intOf i).toNat)
          case atStart => exact ⟨0, _, Nat.zero_le _, by omega, by omega, rfl, rfl⟩
          case round =>
            obtain ⟨m, zz2, hm1, hz02, hz12, rfl, rfl⟩ := hrel
            by_cases hlt2 : m < ks[j].grants.length
            · obtain ⟨b2, off2, rfl, hb2, e0, e1⟩ := hgel m hlt2
              clear hgel
              go_wp2
              all_goals first | (go_ret; exact ⟨.mk _, rfl⟩) | skip
              go_round
              case rel => exact ⟨m + 1, _, by omega, by omega, by omega, by go_num, rfl⟩
              case measure => simp [intOf]; omega
            · clear hgel
              go_wp2
              go_round
              case rel => exact ⟨j + 1, _, by omega, by omega, by omega, by go_num, rfl⟩
              case measure => simp [intOf]; omega
        · clear hk
          go_wp2
          go_ret
          exact ⟨.mk _, rfl⟩

set_option maxRecDepth 100000 in
set_option maxHeartbeats 4000000 in
theorem bytes19 (a0 a1 a2 : Bool) (a3 : Int) (a4 : ByteArray) (dv kv : Value) (kb : Kb) (gv : Value) (a8 : Int) (n : Nat) (ds : List Wi) (ks : List Kb) (w : World) (w4 : a4.size ≤ maxLen) (hd : RowIs n 2 0 WiAt w dv ds) (hk : RowIs n 6 0 (ZkAt n) w kv ks) (hn : n ≤ w.heap.size) (hgr : RowIs n 2 0 GrAt w gv kb.grants) :
    Calls Try.prog 19 #[.bool a0, .bool a1, .bool a2, .int .i8 a3, .string a4, dv, kv, .agg #[.bool kb.creator, .int .i8 kb.vis, .int .i8 kb.lvl, .string kb.dep, .int .i8 kb.pg, gv], .int .i64 a8] w fun e w' => IsBool e ∧ Below w.heap.size w w' := by
  unfold maxLen at w4
  have hB : Below n w (w.alloc (zkObj kb gv)) := (Below.refl _ w).alloc hn _
  replace hd := hd.turned (W' := w.alloc (zkObj kb gv)) fun _ _ _ hb' => WiAt.below hB hb'
  replace hk := hk.turned (W' := w.alloc (zkObj kb gv)) fun _ _ _ hb' => ZkAt.below hB hb'
  replace hgr := hgr.turned (W' := w.alloc (zkObj kb gv)) fun _ _ _ hb' => GrAt.below hB hb'
  have HB : Hid (Below w.heap.size w (w.alloc (zkObj kb gv))) := (Below.refl _ w).alloc (Nat.le_refl _) _
  clear hB
  unfold zkObj at hd hk hgr HB
  obtain ⟨ga0, gc0, rfl, hgl0, hgx0, hgr⟩ := hgr
  have HG : Hid (∀ j (h : j < kb.grants.length), ∃ b off, ga0 = some ⟨b, off, none⟩ ∧ b < n ∧ GrAt b (off + j * 2) (w.alloc (.cells #[.bool kb.creator, .int .i8 kb.vis, .int .i8 kb.lvl, .string kb.dep, .int .i8 kb.pg, .slice ga0 kb.grants.length gc0] 53)) kb.grants[j]) := hgr
  clear hgr hgl0 hgx0
  obtain ⟨da, dc, rfl, hdl, hdx, hd⟩ := hd
  obtain ⟨ka, kc, rfl, hkl, hkx, hk⟩ := hk
  clear hdl hdx hkl hkx
  have HK : Hid (∀ j (h : j < ks.length), ∃ b off, ka = some ⟨b, off, none⟩ ∧ b < n ∧ ZkAt n b (off + j * 6) (w.alloc (.cells #[.bool kb.creator, .int .i8 kb.vis, .int .i8 kb.lvl, .string kb.dep, .int .i8 kb.pg, .slice ga0 kb.grants.length gc0] 53)) ks[j]) := hk
  clear hk
  have HD : Hid (∀ j (h : j < ds.length), ∃ b off, da = some ⟨b, off, none⟩ ∧ b < n ∧ WiAt b (off + j * 2) (w.alloc (.cells #[.bool kb.creator, .int .i8 kb.vis, .int .i8 kb.lvl, .string kb.dep, .int .i8 kb.pg, .slice ga0 kb.grants.length gc0] 53)) ds[j]) := hd
  clear hd
  go_enter Try.func19, Try.ntmps19
  go_wp2
  all_goals first | (go_ret; exact ⟨.mk _, HB.out⟩) | skip
  have hdl : (ds.length : Int) ≤ 1048576 := by assumption
  go_loop [19, 20] (fun z i => ∃ (k : Nat) (zz : Int), k ≤ ds.length ∧ 0 ≤ zz ∧ zz ≤ 1048576 ∧ i = .int .i64 k ∧ z = .int .i64 zz) (fun _ i => ds.length - (intOf i).toNat)
  case atStart => exact ⟨0, _, Nat.zero_le _, by omega, by omega, rfl, rfl⟩
  case round =>
    obtain ⟨k, zz, hk1, hz0, hz1, rfl, rfl⟩ := hrel
    by_cases hlt : k < ds.length
    · obtain ⟨b, off, rfl, hb, c0, c1⟩ := HD.out k hlt
      clear HD HK HG
      generalize ds[k] = x at c0 c1
      go_wp2
      all_goals first | (go_ret; exact ⟨.mk _, HB.out⟩) | skip
      go_round
      case rel => exact ⟨k + 1, _, by omega, by omega, by omega, by go_num, rfl⟩
      case measure => simp [intOf]; omega
    · clear HD
      go_wp2
      all_goals first | (go_ret; exact ⟨.mk _, HB.out⟩) | skip
      have hkl : (ks.length : Int) ≤ 1048576 := by assumption
      go_loop [19, 21] (fun z i => ∃ (j : Nat) (zz : Int), j ≤ ks.length ∧ 0 ≤ zz ∧ zz ≤ 1048576 ∧ i = .int .i64 j ∧ z = .int .i64 zz) (fun _ i => ks.length - (intOf i).toNat)
      case atStart => exact ⟨0, _, Nat.zero_le _, by omega, by omega, rfl, rfl⟩
      case round =>
        obtain ⟨j, zz', hj1, hz0', hz1', rfl, rfl⟩ := hrel
        have hk := HK.out
        clear HK
        by_cases hlt' : j < ks.length
        · obtain ⟨b, off, rfl, hb, q0, q1, q2, q3, q4, gv, q5, ga, gc, rfl, hg1, hg2, hgel⟩ := hk j hlt'
          clear hk hg1 hg2 q0 q1 q2 q4 HG
          go_wp2
          all_goals first | (go_ret; exact ⟨.mk _, HB.out⟩) | skip
          have hgl : (ks[j].grants.length : Int) ≤ 1048576 := by assumption
          go_loop [19, 22] (fun z i => ∃ (m : Nat) (zz : Int), m ≤ ks[j].grants.length ∧ 0 ≤ zz ∧ zz ≤ 1048576 ∧ i = .int .i64 m ∧ z = .int .i64 zz) (fun _ i => ks[j].grants.length - (intOf i).toNat)
          case atStart => exact ⟨0, _, Nat.zero_le _, by omega, by omega, rfl, rfl⟩
          case round =>
            obtain ⟨m, zz2, hm1, hz02, hz12, rfl, rfl⟩ := hrel
            by_cases hlt2 : m < ks[j].grants.length
            · obtain ⟨b2, off2, rfl, hb2, e0, e1⟩ := hgel m hlt2
              clear hgel
              go_wp2
              all_goals first | (go_ret; exact ⟨.mk _, HB.out⟩) | skip
              go_round
              case rel => exact ⟨m + 1, _, by omega, by omega, by omega, by go_num, rfl⟩
              case measure => simp [intOf]; omega
            · clear hgel
              go_wp2
              go_round
              case rel => exact ⟨j + 1, _, by omega, by omega, by omega, by go_num, rfl⟩
              case measure => simp [intOf]; omega
        · clear hk
          go_wp2
          all_goals first | (go_ret; exact ⟨.mk _, HB.out⟩) | skip
          have hgl : (kb.grants.length : Int) ≤ 1048576 := by assumption
          go_loop [19, 23] (fun z i => ∃ (m : Nat) (zz : Int), m ≤ kb.grants.length ∧ 0 ≤ zz ∧ zz ≤ 1048576 ∧ i = .int .i64 m ∧ z = .int .i64 zz) (fun _ i => kb.grants.length - (intOf i).toNat)
          case atStart => exact ⟨0, _, Nat.zero_le _, by omega, by omega, rfl, rfl⟩
          case round =>
            obtain ⟨m, zz2, hm1, hz02, hz12, rfl, rfl⟩ := hrel
            have hgel := HG.out
            clear HG
            by_cases hlt2 : m < kb.grants.length
            · obtain ⟨b2, off2, rfl, hb2, e0, e1⟩ := hgel m hlt2
              clear hgel
              go_wp2
              all_goals first | (go_ret; exact ⟨.mk _, HB.out⟩) | skip
              go_round
              case rel => exact ⟨m + 1, _, by omega, by omega, by omega, by go_num, rfl⟩
              case measure => simp [intOf]; omega
            · clear hgel
              go_wp2
              go_ret
              exact ⟨.mk _, HB.out⟩

end Go.Proofs.Qxb6613755a
