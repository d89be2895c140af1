/-
  Function 10: 'time.ParseDuration' at such a text behind a minus sign.
-/
import Derived.Test.Qxb6605652aFmtParse
namespace Go.Proofs.Qxb6605652aFmt
open Go.RowKit
set_option linter.unusedVariables false
set_option linter.unusedSimpArgs false

set_option maxRecDepth 100000 in
set_option maxHeartbeats 4000000 in
theorem parse_neg (bm : Nat) (N : Nat) (w : World) (s : ByteArray) (items : List Item) (hg : ∀ x ∈ items, x.Good) (hs : s.data.toList = 45 :: flat items) (hz : s.size ≤ 60) (ht : total items = N) (hN : N ≤ 9223372036854775808) (hne : items ≠ [])
    (hU : ∀ W', Below w.heap.size w W' → Units bm W') :
    Calls Tryf.prog 10 #[.string s] w fun e w' => e = .returned (.tuple #[.int .i64 (-(N : Int)), .nilIface]) ∧ Below w.heap.size w w' := by
  obtain ⟨x0, l0, hx0⟩ : ∃ x l, items = x :: l := by cases items with | nil => exact absurd rfl hne | cons x l => exact ⟨x, l, rfl⟩
  obtain ⟨k0, k1, k3⟩ := str_some hs
  have hs2 : (s.extract 1 s.size).data.toList = flat items := by
    rw [ByteArray.data_extract, Array.toList_extract, hs, str_size hs]
    simp
  obtain ⟨n0, n1, n2, n3, n4⟩ := item_head (s := s.extract 1 s.size) (hg x0 (by rw [hx0]; exact List.mem_cons_self ..)) (by rw [← hx0]; exact hs2)
  have k5 : ((s[0].toNat : Int) == 45) = true := by rw [k1]; rfl
  have k7 : (s[0].toNat : Int) = 45 := by rw [k1]; rfl
  have kz : (1 : Int) ≤ (s.size : Int) := by omega
  have hz2 : (s.extract 1 s.size).size ≤ 60 := by
    have := str_size hs
    rw [str_size hs2]
    simp at this
    omega
  have hN' : (N : Int) ≤ 9223372036854775808 := by omega
  have INV0 : Hid (∃ its : List Item, (∀ x ∈ its, x.Good) ∧ (s.extract 1 s.size).data.toList = flat its ∧ (s.extract 1 s.size).size ≤ 60 ∧ 0 + total its = N) := ⟨items, hg, hs2, hz2, by omega⟩
  have HU := hidL hU
  have B0 := hidL (Below.refl w.heap.size w)
  clear hg hs hz ht hne hx0 hU hN hs2 hz2 k1
  go_enter Tryf.func10, Tryf.ntmps10
  go_wp2_with (fail)
  go_loopw [0, 5] (fun a b wr => ∃ (t : ByteArray) (d : Nat), a = .string t ∧ b = .int .u64 (d : Int) ∧ (∃ its : List Item, (∀ x ∈ its, x.Good) ∧ t.data.toList = flat its ∧ t.size ≤ 60 ∧ d + total its = N) ∧ Below w.heap.size w wr) (fun a _ _ => (match a with | .string t => t.size | _ => 0))
  case atStart => exact ⟨_, 0, rfl, rfl, INV0.out, B0.out⟩
  case round =>
    obtain ⟨t, d, rfl, rfl, ⟨its, hg, hs, hz, ht⟩, hb⟩ := hrel
    clear INV0 B0 k3 k5 n1 n2 n3 n4 n0
    cases its with
    | nil =>
      have e1 : t.toList.isEmpty = true := str_none hs
      have e2 : d = N := by simpa [total] using ht
      subst e2
      have HB := hidL hb
      clear hg hs hz ht hb HU
      go_wp2_with (fail)
      have ew : wrap64 (-wrap64 (d : Int)) = -(d : Int) := by unfold wrap64; omega
      rw [ew]
      go_ret2
      exact ⟨rfl, HB.out⟩
    | cons x rest =>
      have gx : x.Good := hg x (List.mem_cons_self ..)
      have gr : ∀ y ∈ rest, y.Good := fun y hy => hg y (List.mem_cons_of_mem _ hy)
      obtain ⟨k0, k1, k2, k3, _⟩ := item_head gx hs
      have k5 : ((t[0].toNat : Int) == 46) = false := by rw [beq_eq_false_iff_ne]; omega
      have hs' : t.data.toList = x.ds ++ (x.u ++ flat rest) := hs
      obtain ⟨uc, ul, hu1, hu2⟩ := u_first gx
      have hmul : numFrom 0 x.ds * x.f + total rest = total (x :: rest) := rfl
      obtain ⟨p1, p2, p3, p4⟩ := u_pos gx
      have hle : numFrom 0 x.ds ≤ numFrom 0 x.ds * x.f := Nat.le_mul_of_pos_right _ p3
      have hlead := fun W => lead_c t x.ds (x.u ++ flat rest) W hs' gx.1 (by rw [hu1]; intro c l h; cases h; omega) (by omega) (by omega)
      have HL := hidL hlead
      have HB := hidL hb
      have HG := hidL gx
      have HR := hidL gr
      have HS := hidL hs'
      have HM := hidL hmul
      have HT := hidL ht
      have HZ := hidL hz
      have HE := hidL hle
      have HC := hidL hu1
      have HC2 := hidL hu2
      clear hg gx gr hs hs' hz ht hb hlead hmul hle hu1 hu2 p1 p2 p3 p4
      go_wp2_with (fail)
      refine (HL.out _).mono ?_
      rintro e w1 ⟨r, hr, rfl, hb1⟩
      clear HL
      have HRr := hidL hr
      have HB1 := hidL hb1
      have hr' : r.data.toList = uc :: (ul ++ flat rest) := by rw [hr, HC.out]; rfl
      obtain ⟨m0, m1, m2⟩ := str_some hr'
      have m3 : 57 < (r[0].toNat : Int) := by rw [m1]; have := HC2.out; omega
      have m4 : ((r[0].toNat : Int) == 46) = false := by rw [beq_eq_false_iff_ne]; omega
      have m5 : r.size < t.size := by
        rw [str_size HS.out, str_size hr]
        have : 0 < x.ds.length := List.length_pos_iff.2 HG.out.2.1
        simp
        omega
      have m6 : ((t.size : Int) == (r.size : Int)) = false := by rw [beq_eq_false_iff_ne]; omega
      have m7 : ¬ (t.size : Int) = (r.size : Int) := by omega
      have M5 := hidL m5
      clear hr hb1 hr' m1 m3 m5 k1 k2 k3 k5
      go_wp2_with (fail)
      clear m4 m6 m7
      go_loop [16] (fun i => ∃ k : Nat, k ≤ x.u.length ∧ i = .int .i64 (k : Int)) (fun i => x.u.length - (intOf i).toNat)
      case atStart => exact ⟨0, Nat.zero_le _, rfl⟩
      case round =>
        obtain ⟨k, hk, rfl⟩ := hrel
        by_cases hlt : k < x.u.length
        · have hks : k < r.size := by rw [str_size HRr.out]; simp; omega
          have hc : 57 < (r[k].toNat : Int) := by
            rw [str_get HRr.out k hks (by simp; omega), List.getElem_append_left hlt]
            have := u_get HG.out k hlt
            omega
          have c1 : ((r[k].toNat : Int) == 46) = false := by rw [beq_eq_false_iff_ne]; omega
          have c2 : ¬ (r[k].toNat : Int) ≤ 57 := by omega
          have c3 : 48 ≤ (r[k].toNat : Int) := by omega
          have hks' : (k : Int) < (r.size : Int) := by omega
          have hk2 : (k : Int) ≤ 1 := by have := (u_pos HG.out).2.1; omega
          clear HRr HE HC HC2 HM HT HZ HS HB1 HB HU M5 HR HG hc
          go_wp2_with (fail)
          exact ⟨⟨k + 1, by omega, by go_num⟩, by simp [intOf]; omega⟩
        · have hkd : k = x.u.length := by omega
          subst hkd
          have hsz : r.size = x.u.length + (flat rest).length := by rw [str_size HRr.out]; simp
          have E1 : r.extract 0 x.u.length = ⟨x.u.toArray⟩ := by
            refine str_eq ?_
            rw [ByteArray.data_extract, Array.toList_extract, HRr.out]
            simp
          have E2 : (r.extract x.u.length r.size).data.toList = flat rest := by
            rw [ByteArray.data_extract, Array.toList_extract, HRr.out]
            simp [hsz]
          have E3 : (r.extract x.u.length r.size).size < t.size := by
            rw [str_size E2]
            have := M5.out
            omega
          have U := HU.out w1 (HB.out.trans (HB1.out.mono HB.out.size))
          have hcell := U.1
          have hlk := U.look HG.out
          rw [← E1] at hlk
          obtain ⟨p1, p2, p3, p4⟩ := u_pos HG.out
          have hnum := HM.out
          have htot := HT.out
          have q0 : numFrom 0 x.ds * x.f ≤ 9223372036854775808 := by omega
          have qi : ((numFrom 0 x.ds * x.f : Nat) : Int) = (numFrom 0 x.ds : Int) * (x.f : Int) := by simp
          have q1 : (numFrom 0 x.ds : Int) ≤ 9223372036854775808 / (x.f : Int) := by
            rw [Int.le_ediv_iff_mul_le (by omega), ← qi]
            omega
          have q2 : (numFrom 0 x.ds : Int) * (x.f : Int) ≤ 9223372036854775808 := by rw [← qi]; omega
          have q3 : (d : Int) + (numFrom 0 x.ds : Int) * (x.f : Int) ≤ 9223372036854775808 := by rw [← qi]; omega
          have q4 : 0 < (x.f : Int) := by omega
          have q5 : (x.f : Int) ≤ 1000000000 := by omega
          have q6 : 0 ≤ (numFrom 0 x.ds : Int) * (x.f : Int) := by rw [← qi]; omega
          have q7 : 1 ≤ (x.u.length : Int) := by omega
          have q8 : (x.u.length : Int) ≤ (r.size : Int) := by omega
          have F2 := hidL E2
          have F3 := hidL E3
          have FQ := hidL qi
          have FZ := hidL hsz
          by_cases hrest : rest = []
          · have hks : ¬ (x.u.length : Int) < (r.size : Int) := by rw [hrest] at hsz; simp [flat] at hsz; omega
            clear E1 E2 E3 U hnum htot qi hsz hrest p1 p2 p3 p4 q0 hk hlt
            go_wp2_with (fail)
            have htot := HT.out
            have hnum := HM.out
            refine ⟨⟨_, d + numFrom 0 x.ds * x.f, rfl, ?_, ⟨rest, HR.out, F2.out, by have := F3.out; have := HZ.out; omega, by omega⟩, HB.out.trans (HB1.out.mono HB.out.size)⟩, F3.out⟩
            congr 1
          · obtain ⟨c, l, hcl⟩ : ∃ c l, flat rest = c :: l := by
              cases rest with
              | nil => exact absurd rfl hrest
              | cons y l =>
                obtain ⟨c, l', hc, _⟩ := ds_some (HR.out y (List.mem_cons_self ..))
                exact ⟨c, l' ++ (y.u ++ flat l), by rw [flat, hc]; rfl⟩
            have hks : x.u.length < r.size := by rw [hcl] at hsz; simp at hsz; omega
            have hks' : (x.u.length : Int) < (r.size : Int) := by omega
            have hc : r[x.u.length] = c := by
              rw [str_get HRr.out x.u.length hks (by rw [hcl]; simp), List.getElem_append_right (Nat.le_refl _)]
              simp [hcl]
            obtain ⟨d1, d2⟩ := flat_head HR.out hcl
            rw [← hc] at d1 d2
            have c1 : ((r[x.u.length].toNat : Int) == 46) = false := by rw [beq_eq_false_iff_ne]; omega
            have c2 : (r[x.u.length].toNat : Int) ≤ 57 := by omega
            have c3 : 48 ≤ (r[x.u.length].toNat : Int) := by omega
            clear E1 E2 E3 U hnum htot qi hsz hrest p1 p2 p3 p4 q0 hk hlt hc d1 d2 hcl
            go_wp2_with (fail)
            have htot := HT.out
            have hnum := HM.out
            refine ⟨⟨_, d + numFrom 0 x.ds * x.f, rfl, ?_, ⟨rest, HR.out, F2.out, by have := F3.out; have := HZ.out; omega, by omega⟩, HB.out.trans (HB1.out.mono HB.out.size)⟩, F3.out⟩
            congr 1
end Go.Proofs.Qxb6605652aFmt
