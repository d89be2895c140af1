/-
  Function 31, '(*Facts).kbSources': the departments' grants: a loop over 'vias' in a loop.
-/
import Derived.Test.Qxb6613755aKbC
namespace Go.Proofs.Qxb6613755a
open Go.RowKit Go.Shelf
attribute [local go_sem] Oper.semAt_some wide_depth wide_fn
set_option linter.unusedVariables false
set_option linter.unusedSimpArgs false

/-- The variable 'grant'. -/
def grantObj (g : Gr) (via : ByteArray) : Obj := .cells (srcGrant g via).cells 74

theorem grantObj_cells {W : World} {gb : Nat} {g : Gr} {via : ByteArray} (h : W.heap[gb]? = some (grantObj g via)) :
    W.cell? ⟨gb, 0, none⟩ = some (.int .i8 4) ∧ W.cell? ⟨gb, 1, none⟩ = some (.int .i8 g.lvl) ∧ W.cell? ⟨gb, 2, none⟩ = some (.int .i8 0) ∧ W.cell? ⟨gb, 3, none⟩ = some (.string emp) ∧ W.cell? ⟨gb, 4, none⟩ = some (.int .i8 0) ∧ W.cell? ⟨gb, 5, none⟩ = some (.string emp) ∧
    W.cell? ⟨gb, 6, none⟩ = some (.int .i8 1) ∧ W.cell? ⟨gb, 7, none⟩ = some (.string g.dep) ∧ W.cell? ⟨gb, 8, none⟩ = some (.string via) ∧ W.frozen? ⟨gb, 8, none⟩ = false := by
  unfold grantObj Src.cells srcGrant at h
  exact ⟨cell_at h, cell_at h, cell_at h, cell_at h, cell_at h, cell_at h, cell_at h, cell_at h, cell_at h, frozen_at h⟩

theorem grantSrcs_drop (deps : List Wi) (gs : List Gr) (k : Nat) (h : k < gs.length) : grantSrcs deps (gs.drop k) = (viasOf deps gs[k].dep).map (srcGrant gs[k]) ++ grantSrcs deps (gs.drop (k + 1)) := by
  rw [List.drop_eq_getElem_cons h]
  rfl

def slotsL (fp : Value) (bk : Nat) (sv : Value) (len k : Nat) : List (Nat × Value) := [(0, fp), (4, .pointer (some ⟨bk, 0, none⟩)), (5, .pointer (some ⟨bk + 1, 0, none⟩)), (6, .pointer (some ⟨bk + 2, 0, none⟩)), (68, sv), (69, .int .i64 len), (70, .int .i64 k)]

/-- What the loop over the grants holds between two rounds. -/
def grantInv (J : (Nat → Prop) → List Src → World → Prop) (w : World) (G₀ : Nat → Prop) (bk : Nat) (kb : Kb) (gv y fp : Value) (deps : List Wi) (r : List Src) (a : Act) (W : World) : Prop :=
  ∃ (k : Nat) (Ds : List Nat), k ≤ kb.grants.length ∧ (∀ D ∈ Ds, bk + 2 < D) ∧ Ds.Nodup ∧ Slots 92 (slotsL fp bk gv kb.grants.length k) (marks Ds) a ∧ Sp J w G₀ (own3 bk kb gv y false [] Ds) (grantSrcs deps (kb.grants.drop k) ++ r) W

/-- Behind a loop over 'vias': one mark more. -/
theorem mark_more {J : (Nat → Prop) → List Src → World → Prop} {w W : World} {G₀ : Nat → Prop} {bk gb bf D : Nat} {kb : Kb} {gv y fp : Value} {d : ByteArray} {o : Obj} {Ds : List Nat} {r : List Src}
    (hs : Sp J w G₀ (own3 bk kb gv y false (ownV gb bf D fp d o) Ds) r W) (hd : W.heap[D]? = some (.deferred (some []))) : Sp J w G₀ (own3 bk kb gv y false [] (D :: Ds)) r W :=
  (Sp.know (b := D) (x := none) (hs.weaken (L' := (D, none) :: own3 bk kb gv y false [] Ds) (fun p hp => by
    rcases List.mem_cons.1 hp with rfl | hp
    · simp [own3, ownV]
    · rcases own3_mem.1 hp with rfl | rfl | rfl | hp | hp
      · simp [own3]
      · simp [own3]
      · simp [own3]
      · simp at hp
      · simp [own3, hp])) hd).weaken (fun p hp => by
    rcases own3_mem.1 hp with rfl | rfl | rfl | hp | hp
    · simp [own3]
    · simp [own3]
    · simp [own3]
    · simp at hp
    · have hp' : p = (D, some (.deferred (some []))) ∨ p ∈ dsL Ds := by simpa [dsL] using hp
      rcases hp' with rfl | hp'
      · simp
      · simp [own3, hp'])

set_option maxHeartbeats 4000000 in
theorem kb_part17 {J Jx : (Nat → Prop) → List Src → World → Prop} (hJ : Framed J) (hJx : Framed Jx) {fv : Fn} {caps : Array Value}
    (hc : ∀ G s r W, J G (s :: r) W → YCall Try.prog fv caps #[.agg s.cells] W (YPost J Jx G W r))
    {w W : World} {G₀ : Nat → Prop} {bk n fb fo : Nat} {kb : Kb} {gv sv : Value} {Ds : List Nat} {deps : List Wi} {r : List Src} (hn : n ≤ w.heap.size) (hG : ∀ k, G₀ k → n ≤ k) (hfb : fb < n)
    (hsv : w.cell? ⟨fb, fo + 5, none⟩ = some sv) (hrow : RowIs n 2 32 WiAt w sv deps) (hgr : RowIs n 2 24 GrAt w gv kb.grants)
    (hD : ∀ D ∈ Ds, bk + 2 < D) (hDn : Ds.Nodup) {a : Act} (ha : Slots 92 (slots3 (.pointer (some ⟨fb, fo, none⟩)) bk) (marks Ds) a)
    (h : Sp J w G₀ (own3 bk kb gv (.func fv #[] caps) false [] Ds) (grantSrcs deps kb.grants ++ r) W) (K : Act → World → Prop) (Q : Exit → Act → World → Prop)
    (hK : ∀ a' W' Ds', (∀ D ∈ Ds', bk + 2 < D) → Ds'.Nodup → Slots 92 (slots3 (.pointer (some ⟨fb, fo, none⟩)) bk) (marks Ds') a' → Sp J w G₀ (own3 bk kb gv (.func fv #[] caps) false [] Ds') r W' → K a' W')
    (hQ : ∀ a' W' Ds' r', (∀ D ∈ Ds', bk + 2 < D) → Ds'.Nodup → Slots 92 (slots3 (.pointer (some ⟨fb, fo, none⟩)) bk) (marks Ds') a' → Sp Jx w G₀ (own3 bk kb gv (.func fv #[] caps) false [] Ds') r' W' → Q .ret a' W') :
    (part17 (Try.f31.body.getD .skip)).wpIn Fence.wide 0 Try.prog (Exit.then K Q) a W := by
  obtain ⟨f, rfl⟩ := slotsKb ha
  obtain ⟨ga, gcap, rfl, hgle, hgcap, hgel⟩ := hgr
  have hlen : kb.grants.length ≤ 140737488351232 := by omega
  obtain ⟨c0, c1, c2, c3, c4, c5, c6, c7, c8⟩ := own3_cells h
  dsimp only [part17, seqL, seqR, Try.f31, Option.getD]
  clear c0 c1 c2 c3 c4 c6 c7 c8
  gi_wp2
  clear c5 ha
  refine wpIn_loop (grantInv J w G₀ bk kb (.slice ga kb.grants.length gcap) (.func fv #[] caps) (.pointer (some ⟨fb, fo, none⟩)) deps r) (fun a _ => kb.grants.length - (intOf (a.tmps.getD 70 undef)).toNat) ⟨0, Ds, Nat.zero_le _, hD, hDn, ⟨rfl, rfl, by simp [slotsL]⟩, h⟩ ?_
  clear h hD hDn Ds f W
  rintro a W ⟨k, Ds, hk, hD, hDn, ha, h⟩
  obtain ⟨f, rfl⟩ := slotsKbL ha
  clear ha
  by_cases hlt : k < kb.grants.length
  · obtain ⟨b, off, rfl, hb, hg0, hg1⟩ := hgel k hlt
    have hbel : Below n w W := h.fr.below hG hn
    have e0 := (hbel.cell (p := ⟨b, off + k * 2, none⟩) hb).trans hg0
    have e1 := (hbel.cell (p := ⟨b, off + k * 2 + 1, none⟩) hb).trans hg1
    rw [grantSrcs_drop deps kb.grants k hlt, List.append_assoc] at h
    have hDs : ∀ D' ∈ Ds, D' < W.heap.size := fun D' hD' => (h.lt (b := D') (x := some (.deferred (some []))) (own3_mem.2 (.inr (.inr (.inr (.inr (by simp [dsL]; exact hD'))))))).2
    have hb2 := h.lt (b := bk + 2) (x := some (.cells #[.bool false] 4)) (by simp [own3])
    have hnW : n ≤ W.heap.size := Nat.le_trans hn h.fr.size
    clear hgel hg0 hg1 hbel
    generalize hgg : kb.grants[k] = g at e0 e1 h
    clear hgg
    have h2 := (((h.alloc hJ (.cells #[.string g.dep, .int .i8 g.lvl] 91)).alloc hJ (grantObj g emp)).alloc hJ (.cells #[.pointer (some ⟨fb, fo, none⟩)] 61)).alloc hJ (.cells #[.string g.dep] 9)
    simp only [World.size_alloc] at h2
    clear h
    gi_wp2_with (gi_at_call 38; refine (vias_in _ _ _ fb fo rfl).mono ?_; rintro e w' ⟨rfl, rfl⟩)
    clear e0 e1
    change Code.wpIn Fence.wide 0 Try.prog _ _ _ ((((W.alloc (.cells #[.string g.dep, .int .i8 g.lvl] 91)).alloc (grantObj g emp)).alloc (.cells #[.pointer (some ⟨fb, fo, none⟩)] 61)).alloc (.cells #[.string g.dep] 9))
    have hsz : ((((W.alloc (.cells #[.string g.dep, .int .i8 g.lvl] 91)).alloc (grantObj g emp)).alloc (.cells #[.pointer (some ⟨fb, fo, none⟩)] 61)).alloc (.cells #[.string g.dep] 9)).heap.size = W.heap.size + 4 := by simp
    revert h2 hsz
    generalize (((W.alloc (.cells #[.string g.dep, .int .i8 g.lvl] 91)).alloc (grantObj g emp)).alloc (.cells #[.pointer (some ⟨fb, fo, none⟩)] 61)).alloc (.cells #[.string g.dep] 9) = W2
    intro h2 hsz
    obtain ⟨D, hDD⟩ : ∃ D, D = W2.heap.size := ⟨_, rfl⟩
    obtain ⟨gb, hgb⟩ : ∃ gb, gb = W.heap.size + 1 := ⟨_, rfl⟩
    rw [← hgb] at h2 ⊢
    have hlt1 : bk + 2 < gb := by omega
    have hlt2 : gb + 2 < D := by omega
    have hlt3 : ∀ D' ∈ Ds, D' < gb := fun D' hD' => by have := hDs D' hD'; omega
    have hnD : D ∉ Ds := fun hh => by have := hlt3 D hh; omega
    clear hDs
    have hd3 : ∀ (Jy : (Nat → Prop) → List Src → World → Prop) (_ : Framed Jy) (rr : List Src) (Wx : World) (o' : Obj) (j : Nat) (o : Obj), (j = D ∨ j = D + 1) →
        Sp Jy w G₀ (own3 bk kb (.slice (some ⟨b, off, none⟩) kb.grants.length gcap) (.func fv #[] caps) false (ownV gb (gb + 1) D (.pointer (some ⟨fb, fo, none⟩)) g.dep o') Ds) rr Wx →
        Sp Jy w G₀ (own3 bk kb (.slice (some ⟨b, off, none⟩) kb.grants.length gcap) (.func fv #[] caps) false (ownV gb (gb + 1) D (.pointer (some ⟨fb, fo, none⟩)) g.dep o') Ds) rr (Wx.putObj j o) := by
      intro Jy hJy rr Wx o' j o hj hs
      refine hs.put hJy ?_ ?_ o
      · rcases hj with rfl | rfl <;> simp [own3, ownV]
      · intro p hp hpk
        rcases own3_mem.1 hp with rfl | rfl | rfl | hp | hp
        · simp at hpk; omega
        · simp at hpk; omega
        · simp at hpk; omega
        · simp [ownV] at hp
          rcases hp with rfl | rfl | rfl | rfl | rfl <;> simp at hpk ⊢ <;> omega
        · have := hlt3 _ (mem_dsL hp); omega
    refine range_wide (gf := 39) (lb := #[.pointer (some ⟨gb + 1, 0, none⟩), .pointer (some ⟨gb + 1 + 1, 0, none⟩)]) rfl (enters_of Try.func39 (by kernel_rfl) rfl) (fun x : ByteArray => #[Value.string x]) (fun _ => rfl) (viasOf deps g.dep)
      (fun vs Wx => ∃ via, Sp J w G₀ (own3 bk kb (.slice (some ⟨b, off, none⟩) kb.grants.length gcap) (.func fv #[] caps) false (ownV gb (gb + 1) D (.pointer (some ⟨fb, fo, none⟩)) g.dep (grantObj g via)) Ds) (vs.map (srcGrant g) ++ (grantSrcs deps (List.drop (k + 1) kb.grants) ++ r)) Wx)
      (fun c vs Wx => c = .ret ∧ ∃ via r', Sp Jx w G₀ (own3 bk kb (.slice (some ⟨b, off, none⟩) kb.grants.length gcap) (.func fv #[] caps) false (ownV gb (gb + 1) D (.pointer (some ⟨fb, fo, none⟩)) g.dep (grantObj g via)) Ds) r' Wx)
      (fun x a' Wx => Slots 92 (slots3 (.pointer (some ⟨fb, fo, none⟩)) bk ++ [(11, .pointer (some ⟨gb, 0, none⟩)), (12, .string x)]) [] a') ?hI ?hIx ?hAx ?hIa ?h0 ?iter ?assign ?body ?done ?stop
    case hI => rintro vs Wx o j hj ⟨via, hs⟩; exact ⟨via, hd3 J hJ _ _ _ _ _ (by rw [hDD]; exact hj) hs⟩
    case hIx => rintro c vs Wx o j hj ⟨rfl, via, r', hs⟩; exact ⟨rfl, via, r', hd3 Jx hJx _ _ _ _ _ (by rw [hDD]; exact hj) hs⟩
    case hAx => intro x a' _ Wx o j hj hs; exact hs
    case hIa => rintro vs Wx o ⟨via, hs⟩; exact ⟨via, (hs.alloc hJ o).weaken (fun p hp => by simp [hp])⟩
    case h0 =>
      intro o
      refine ⟨emp, ?_⟩
      have h3 := ((h2.alloc hJ (.deferred (some []))).alloc hJ o)
      simp only [World.size_alloc] at h3
      rw [← hDD] at h3
      have h4 := (h3.forget).weaken (L' := (D, some (.deferred (some []))) :: (D + 1, none) :: (gb + 1 + 1, some (.cells #[.string g.dep] 9)) :: (gb + 1, some (.cells #[.pointer (some ⟨fb, fo, none⟩)] 61)) :: (gb, some (grantObj g emp)) ::
        own3 bk kb (.slice (some ⟨b, off, none⟩) kb.grants.length gcap) (.func fv #[] caps) false [] Ds) (fun p hp => by
          rcases List.mem_cons.1 hp with rfl | hp
          · simp
          · rcases List.mem_cons.1 hp with rfl | hp
            · simp
            · rcases List.mem_cons.1 hp with rfl | hp
              · simp
              · rcases List.mem_cons.1 hp with rfl | hp
                · simp
                · rcases List.mem_cons.1 hp with rfl | hp
                  · simp
                  · simp [hp])
      refine (h4.forget).weaken (fun p hp => ?_)
      rcases own3_mem.1 hp with rfl | rfl | rfl | hp | hp
      · simp [own3]
      · simp [own3]
      · simp [own3]
      · simp [ownV] at hp; rcases hp with rfl | rfl | rfl | rfl | rfl <;> simp
      · simp [own3, hp]
    case iter =>
      intro J' Jx' hJI hJa hJy Wx hx
      rw [← hDD] at hJy ⊢
      have hbel : ∀ r Wy, J' r Wy → Below n w Wy := fun r Wy hy => by obtain ⟨via, hs⟩ := hJI _ _ hy; exact hs.fr.below hG hn
      refine vias1 (D + 1) (gb + 1) (gb + 1 + 1) fb fo n deps g.dep J' Jx' (fun rr Wy hy => ?_) hJa hJy Wx hx sv (((hbel _ _ hx).cell (p := ⟨fb, fo + 5, none⟩) hfb).trans hsv) (fun rr Wy hy => hrow.turned fun _ _ _ hb' => WiAt.below (hbel _ _ hy) hb')
      obtain ⟨via, hs⟩ := hJI _ _ hy
      exact ⟨cell_at (hs.heap (b := gb + 1) (o := .cells #[.pointer (some ⟨fb, fo, none⟩)] 61) (by simp [own3, ownV])), cell_at (hs.heap (b := gb + 1 + 1) (o := .cells #[.string g.dep] 9) (by simp [own3, ownV]))⟩
    case assign =>
      intro x rr Wx K' hi hlt' hk'
      clear hc hrow hsv hG h2 hDD hsz hd3 hgb
      gi_wp2
      exact hk' _ _ rfl rfl hi ⟨rfl, rfl, by simp [slots3]⟩
    case body =>
      rintro x rr a' Wx ⟨via, hs⟩ hltx hax
      obtain ⟨f', rfl⟩ := slotsKbG hax
      rw [← hDD] at hltx ⊢
      obtain ⟨c0, c1, c2, c3, c4, c5, c6, c7, c8⟩ := own3_cells hs
      have hgo := hs.heap (b := gb) (o := grantObj g via) (by simp [own3, ownV])
      obtain ⟨g0, g1, g2, g3, g4, g5, g6, g7, g8, g9⟩ := grantObj_cells hgo
      have hs1 : Sp J w G₀ (own3 bk kb (.slice (some ⟨b, off, none⟩) kb.grants.length gcap) (.func fv #[] caps) false (ownV gb (gb + 1) D (.pointer (some ⟨fb, fo, none⟩)) g.dep (grantObj g x)) Ds) (srcGrant g x :: (rr.map (srcGrant g) ++ (grantSrcs deps (List.drop (k + 1) kb.grants) ++ r))) (Wx.setCell ⟨gb, 8, none⟩ (.string x)) :=
        hs.turnTo hJ (b := gb) (x := some (grantObj g via)) (by simp [own3, ownV]) (grownBy_setCell Wx ⟨gb, 8, none⟩ _) (fun p hp => by
          rcases own3_mem.1 hp with rfl | rfl | rfl | hp | hp
          · exact .inl ⟨by simp [own3], by simp; omega⟩
          · exact .inl ⟨by simp [own3], by simp; omega⟩
          · exact .inl ⟨by simp [own3], by simp; omega⟩
          · simp [ownV] at hp
            rcases hp with rfl | rfl | rfl | rfl | rfl
            · exact .inr ⟨rfl, fun o ho => by cases ho; rw [heap_setCell_at (o := 8) (.string x) hgo]; rfl⟩
            · exact .inl ⟨by simp [own3, ownV], by simp⟩
            · exact .inl ⟨by simp [own3, ownV], by simp; omega⟩
            · exact .inl ⟨by simp [own3, ownV], by simp; omega⟩
            · exact .inl ⟨by simp [own3, ownV], by simp; omega⟩
          · exact .inl ⟨by simp [own3, hp], by have := hlt3 _ (mem_dsL hp); omega⟩)
      have hy := Sp.post (fun _ _ => YCall.mono) (fun G => hc G (srcGrant g x) (rr.map (srcGrant g) ++ (grantSrcs deps (List.drop (k + 1) kb.grants) ++ r)) _) hs1
      have e1 : (Wx.setCell ⟨gb, 8, none⟩ (.string x)).heap[D]? = Wx.heap[D]? := Below.heap_setCell _ _ _ _ (by simp; omega)
      have e2 : (Wx.setCell ⟨gb, 8, none⟩ (.string x)).heap[D + 1]? = Wx.heap[D + 1]? := Below.heap_setCell _ _ _ _ (by simp; omega)
      simp only [Src.cells, srcGrant] at hy
      clear hs hs1 hc hgo hrow hsv hG h2 hDD hsz hd3 hgb
      gi_wp2_with (refine wpListIn_ycall (fun _ => trivial) rfl (fun h => CallsIn.inRound _ (callsIn_any h)) (fun h => roundIn_any h) (by first | rfl | simp [go_sem]) _ _ _ rfl _ _ rfl ?_)
      refine hy.mono ?_
      clear hy c0 c1 c2 c3 c4 c5 c6 c7 c8 g0 g1 g2 g3 g4 g5 g6 g7 g8 g9
      rintro e W' ⟨hsame, ⟨rfl, h⟩ | ⟨rfl, r', h⟩⟩
      · have s1 := hsame (D, none) (by simp [own3, ownV])
        have s2 := hsame (D + 1, none) (by simp [own3, ownV])
        simp only [afterCall]
        gi_wp2
        exact ⟨s1.trans e1, s2.trans e2, x, h⟩
      · have s1 := hsame (D, none) (by simp [own3, ownV])
        have s2 := hsame (D + 1, none) (by simp [own3, ownV])
        obtain ⟨d0, d1, d2, d3, d4, d5, d6, d7, d8⟩ := own3_cells h
        have e3 : (W'.setCell ⟨bk + 2, 0, none⟩ (.bool false)).heap[D]? = W'.heap[D]? := Below.heap_setCell _ _ _ _ (by simp; omega)
        have e4 : (W'.setCell ⟨bk + 2, 0, none⟩ (.bool false)).heap[D + 1]? = W'.heap[D + 1]? := Below.heap_setCell _ _ _ _ (by simp; omega)
        have hfin := own3_result hJx h (by simp [ownV]; omega) hD false
        simp only [afterCall]
        clear h hsame
        gi_wp2
        exact ⟨(e3.trans s1).trans e1, (e4.trans s2).trans e2, rfl, x, r', hfin⟩
    case done =>
      rintro Wx ⟨via, hs⟩ hdx
      rw [← hDD] at hdx ⊢
      have hDg : bk + 2 < D := by omega
      have hs' : Sp J w G₀ (own3 bk kb (.slice (some ⟨b, off, none⟩) kb.grants.length gcap) (.func fv #[] caps) false [] (D :: Ds)) (grantSrcs deps (List.drop (k + 1) kb.grants) ++ r) Wx := mark_more hs hdx
      have hD' : ∀ D' ∈ D :: Ds, bk + 2 < D' := fun D' h' => by rcases List.mem_cons.1 h' with rfl | h'; exact hDg; exact hD _ h'
      clear hs hd3 hDD hsz h2 hrow hsv hG hc hgb
      gi_wp2
      exact ⟨⟨k + 1, D :: Ds, by omega, hD', List.nodup_cons.2 ⟨hnD, hDn⟩, ⟨rfl, rfl, by simp [slotsL]⟩, hs'⟩, by simp [intOf]; omega⟩
    case stop =>
      rintro c rr Wx ⟨rfl, via, r', hs⟩ hdx
      rw [← hDD] at hdx ⊢
      have hDg : bk + 2 < D := by omega
      have hs' : Sp Jx w G₀ (own3 bk kb (.slice (some ⟨b, off, none⟩) kb.grants.length gcap) (.func fv #[] caps) false [] (D :: Ds)) r' Wx := mark_more hs hdx
      have hD' : ∀ D' ∈ D :: Ds, bk + 2 < D' := fun D' h' => by rcases List.mem_cons.1 h' with rfl | h'; exact hDg; exact hD _ h'
      clear hs hd3 hDD hsz h2 hrow hsv hG hc hgb
      gi_wp2
      exact hQ _ _ (D :: Ds) r' hD' (List.nodup_cons.2 ⟨hnD, hDn⟩) ⟨rfl, rfl, by simp [slots3]⟩ hs'
  · rw [List.drop_of_length_le (by omega)] at h
    clear hc hgel hrow
    gi_wp2
    exact hK _ _ Ds hD hDn ⟨rfl, rfl, by simp [slots3]⟩ h
end Go.Proofs.Qxb6613755a
