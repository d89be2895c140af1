/-
  Function 31, '(*Facts).kbSources': the general access, its loop over 'vias' among it.
-/
import Derived.Test.Qxb6613755aKbA
namespace Go.Proofs.Qxb6613755a
open Go.RowKit Go.Shelf
attribute [local go_sem] Oper.semAt_some wide_depth wide_fn
set_option linter.unusedVariables false
set_option linter.unusedSimpArgs false

theorem genObj_cells {W : World} {gb : Nat} {kb : Kb} {dep via : ByteArray} (h : W.heap[gb]? = some (genObj kb dep via)) :
    W.cell? ⟨gb, 0, none⟩ = some (.int .i8 3) ∧ W.cell? ⟨gb, 1, none⟩ = some (.int .i8 kb.lvl) ∧ W.cell? ⟨gb, 2, none⟩ = some (.int .i8 0) ∧ W.cell? ⟨gb, 3, none⟩ = some (.string emp) ∧ W.cell? ⟨gb, 4, none⟩ = some (.int .i8 kb.vis) ∧ W.cell? ⟨gb, 5, none⟩ = some (.string dep) ∧
    W.cell? ⟨gb, 6, none⟩ = some (.int .i8 0) ∧ W.cell? ⟨gb, 7, none⟩ = some (.string emp) ∧ W.cell? ⟨gb, 8, none⟩ = some (.string via) ∧ W.frozen? ⟨gb, 5, none⟩ = false ∧ W.frozen? ⟨gb, 8, none⟩ = false := by
  unfold genObj Src.cells srcGen at h
  exact ⟨cell_at h, cell_at h, cell_at h, cell_at h, cell_at h, cell_at h, cell_at h, cell_at h, cell_at h, frozen_at h, frozen_at h⟩

set_option maxHeartbeats 1000000 in
/-- 'case TenantWide'. -/
theorem kb_part4_tenant {J Jx : (Nat → Prop) → List Src → World → Prop} (hJx : Framed Jx) {fv : Fn} {caps : Array Value}
    (hc : ∀ G s r W, J G (s :: r) W → YCall Try.prog fv caps #[.agg s.cells] W (YPost J Jx G W r))
    {w W : World} {G₀ : Nat → Prop} {bk gb : Nat} {kb : Kb} {gv fp : Value} {Ds : List Nat} {r : List Src} (hD : ∀ D ∈ Ds, bk + 2 < D) (hgb : bk + 2 < gb) {a : Act} (ha : Slots 92 (slots4 fp bk gb) (marks Ds) a)
    (hv : kb.vis = 2) (h : Sp J w G₀ (own3 bk kb gv (.func fv #[] caps) false [(gb, some (genObj kb emp emp))] Ds) (srcGen kb emp emp :: r) W) (K : Act → World → Prop) (Q : Exit → Act → World → Prop)
    (hK : ∀ a' W', Slots 92 (slots3 fp bk) (marks Ds) a' → Sp J w G₀ (own3 bk kb gv (.func fv #[] caps) false [] Ds) r W' → K a' W')
    (hQ : ∀ a' W' r', Slots 92 (slots3 fp bk) (marks Ds) a' → Sp Jx w G₀ (own3 bk kb gv (.func fv #[] caps) false [] Ds) r' W' → Q .ret a' W') :
    (part4 (Try.f31.body.getD .skip)).wpIn Fence.wide 0 Try.prog (Exit.then K Q) a W := by
  obtain ⟨f, rfl⟩ := slotsKb7 ha
  obtain ⟨c0, c1, c2, c3, c4, c5, c6, c7, c8⟩ := own3_cells h
  obtain ⟨g0, g1, g2, g3, g4, g5, g6, g7, g8, g9, g10⟩ := genObj_cells (h.heap (b := gb) (o := genObj kb emp emp) (by simp [own3]))
  dsimp only [part4, seqL, seqR, Try.f31, Option.getD]
  have hy := Sp.post (fun _ _ => YCall.mono) (fun G => hc G (srcGen kb emp emp) r W) h
  simp only [Src.cells, srcGen] at hy
  rw [hv] at c1 g4 hy
  clear h hc
  gi_wp2_with (refine wpListIn_ycall (fun _ => trivial) rfl callsIn_any roundIn_any (by first | rfl | simp [go_sem]) _ _ _ rfl _ _ rfl ?_)
  refine hy.mono ?_
  clear hy c0 c1 c2 c3 c4 c5 c6 c7 c8 g0 g1 g2 g3 g4 g5 g6 g7 g8 g9 g10
  rintro e W' ⟨_, ⟨rfl, h⟩ | ⟨rfl, r', h⟩⟩
  · simp only [afterCall]
    gi_wp2
    exact hK _ _ ⟨rfl, rfl, by simp [slots3]⟩ (h.weaken (fun p hp => by rcases own3_mem.1 hp with rfl | rfl | rfl | hp | hp <;> simp_all [own3]))
  · obtain ⟨d0, d1, d2, d3, d4, d5, d6, d7, d8⟩ := own3_cells h
    simp only [afterCall]
    gi_wp2
    exact hQ _ _ r' ⟨rfl, rfl, by simp [slots3]⟩ ((own3_result hJx h (by simpa using hgb) hD false).weaken (fun p hp => by rcases own3_mem.1 hp with rfl | rfl | rfl | hp | hp <;> simp_all [own3]))

set_option maxHeartbeats 1000000 in
/-- Neither case. -/
theorem kb_part4_none {J : (Nat → Prop) → List Src → World → Prop}
    {w W : World} {G₀ : Nat → Prop} {bk gb : Nat} {kb : Kb} {gv y fp : Value} {Ds : List Nat} {r : List Src} {a : Act} (ha : Slots 92 (slots4 fp bk gb) (marks Ds) a)
    (hv : (kb.vis == 2) = false) (hv1 : (kb.vis == 1) = false) (h : Sp J w G₀ (own3 bk kb gv y false [(gb, some (genObj kb emp emp))] Ds) r W) (K : Act → World → Prop) (Q : Exit → Act → World → Prop)
    (hK : ∀ a' W', Slots 92 (slots3 fp bk) (marks Ds) a' → Sp J w G₀ (own3 bk kb gv y false [] Ds) r W' → K a' W') :
    (part4 (Try.f31.body.getD .skip)).wpIn Fence.wide 0 Try.prog (Exit.then K Q) a W := by
  obtain ⟨f, rfl⟩ := slotsKb7 ha
  obtain ⟨c0, c1, c2, c3, c4, c5, c6, c7, c8⟩ := own3_cells h
  dsimp only [part4, seqL, seqR, Try.f31, Option.getD]
  replace h := h.weaken (L' := own3 bk kb gv y false [] Ds) (fun p hp => by rcases own3_mem.1 hp with rfl | rfl | rfl | hp | hp <;> simp_all [own3])
  clear c0 c2 c3 c4 c5 c6 c7 c8
  gi_wp2
  exact hK _ _ ⟨rfl, rfl, by simp [slots3]⟩ h
/-- The blocks of the loop over the general access's 'vias'. -/
def ownV (gb bf D : Nat) (fp : Value) (d : ByteArray) (g : Obj) : List (Nat × Option Obj) := [(gb, some g), (bf, some (.cells #[fp] 61)), (bf + 1, some (.cells #[.string d] 9)), (D, none), (D + 1, none)]

set_option maxHeartbeats 2000000 in
/-- 'case DepartmentWide'. -/
theorem kb_part4_dep {J Jx : (Nat → Prop) → List Src → World → Prop} (hJ : Framed J) (hJx : Framed Jx) {fv : Fn} {caps : Array Value}
    (hc : ∀ G s r W, J G (s :: r) W → YCall Try.prog fv caps #[.agg s.cells] W (YPost J Jx G W r))
    {w W : World} {G₀ : Nat → Prop} {bk gb n fb fo : Nat} {kb : Kb} {gv sv : Value} {deps : List Wi} {r : List Src} (hn : n ≤ w.heap.size) (hG : ∀ k, G₀ k → n ≤ k) (hfb : fb < n)
    (hsv : w.cell? ⟨fb, fo + 5, none⟩ = some sv) (hrow : RowIs n 2 32 WiAt w sv deps)
    (hgb : bk + 2 < gb) {a : Act} (ha : Slots 92 (slots4 (.pointer (some ⟨fb, fo, none⟩)) bk gb) (marks []) a)
    (hv : kb.vis = 1) (h : Sp J w G₀ (own3 bk kb gv (.func fv #[] caps) false [(gb, some (genObj kb emp emp))] []) ((viasOf deps kb.dep).map (srcGen kb kb.dep) ++ r) W) (K : Act → World → Prop) (Q : Exit → Act → World → Prop)
    (hK : ∀ a' W' D, bk + 2 < D → Slots 92 (slots3 (.pointer (some ⟨fb, fo, none⟩)) bk) (marks [D]) a' → Sp J w G₀ (own3 bk kb gv (.func fv #[] caps) false [] [D]) r W' → K a' W')
    (hQ : ∀ a' W' D r', bk + 2 < D → Slots 92 (slots3 (.pointer (some ⟨fb, fo, none⟩)) bk) (marks [D]) a' → Sp Jx w G₀ (own3 bk kb gv (.func fv #[] caps) false [] [D]) r' W' → Q .ret a' W') :
    (part4 (Try.f31.body.getD .skip)).wpIn Fence.wide 0 Try.prog (Exit.then K Q) a W := by
  obtain ⟨f, rfl⟩ := slotsKb7 ha
  obtain ⟨c0, c1, c2, c3, c4, c5, c6, c7, c8⟩ := own3_cells h
  have hgo := h.heap (b := gb) (o := genObj kb emp emp) (by simp [own3])
  have hgl := h.lt (b := gb) (x := some (genObj kb emp emp)) (by simp [own3])
  obtain ⟨g0, g1, g2, g3, g4, g5, g6, g7, g8, g9, g10⟩ := genObj_cells hgo
  dsimp only [part4, seqL, seqR, Try.f31, Option.getD]
  have hv1 : (kb.vis == 2) = false := by rw [hv]; rfl
  rw [hv] at c1
  have h1 : Sp J w G₀ (own3 bk kb gv (.func fv #[] caps) false [(gb, some (genObj kb kb.dep emp))] []) ((viasOf deps kb.dep).map (srcGen kb kb.dep) ++ r) (W.setCell ⟨gb, 5, none⟩ (.string kb.dep)) :=
    h.turnTo hJ (b := gb) (x := some (genObj kb emp emp)) (by simp [own3]) (grownBy_setCell W ⟨gb, 5, none⟩ _) (fun p hp => by
      rcases own3_mem.1 hp with rfl | rfl | rfl | hp | hp
      · exact .inl ⟨by simp [own3], by simp; omega⟩
      · exact .inl ⟨by simp [own3], by simp; omega⟩
      · exact .inl ⟨by simp [own3], by simp; omega⟩
      · simp at hp; subst hp; exact .inr ⟨rfl, fun o ho => by cases ho; rw [heap_setCell_at (o := 5) (.string kb.dep) hgo]; rfl⟩
      · simp [dsL] at hp)
  clear g0 g1 g2 g3 g4 g6 g7 g8 g10
  have h2 := (h1.alloc hJ (.cells #[.pointer (some ⟨fb, fo, none⟩)] 61)).alloc hJ (.cells #[.string kb.dep] 9)
  simp only [World.size_alloc, World.size_setCell] at h2
  gi_wp2_with (gi_at_call 38; refine (vias_in _ _ _ fb fo rfl).mono ?_; rintro e w' ⟨rfl, rfl⟩)
  clear c0 c1 c2 c3 c4 c5 c6 c7 c8 g5 g9 h h1 hgo
  have hsz : (((W.setCell ⟨gb, 5, none⟩ (.string kb.dep)).alloc (.cells #[.pointer (some ⟨fb, fo, none⟩)] 61)).alloc (.cells #[.string kb.dep] 9)).heap.size = W.heap.size + 2 := by simp
  revert h2 hsz
  generalize ((W.setCell ⟨gb, 5, none⟩ (.string kb.dep)).alloc (.cells #[.pointer (some ⟨fb, fo, none⟩)] 61)).alloc (.cells #[.string kb.dep] 9) = W2
  intro h2 hsz
  obtain ⟨D, hDD⟩ : ∃ D, D = W2.heap.size := ⟨_, rfl⟩
  have hd3 : ∀ (X : Code) (Jy : (Nat → Prop) → List Src → World → Prop) (_ : Framed Jy) (rr : List Src) (Wx : World) (g : Obj) (rv : Bool) (k : Nat) (o : Obj), (k = D ∨ k = D + 1) →
      Sp Jy w G₀ (own3 bk kb gv (.func fv #[] caps) rv (ownV gb W.heap.size D (.pointer (some ⟨fb, fo, none⟩)) kb.dep g) []) rr Wx →
      Sp Jy w G₀ (own3 bk kb gv (.func fv #[] caps) rv (ownV gb W.heap.size D (.pointer (some ⟨fb, fo, none⟩)) kb.dep g) []) rr (Wx.putObj k o) := by
    intro _ Jy hJy rr Wx g rv k o hk hs
    refine hs.put hJy ?_ ?_ o
    · rcases hk with rfl | rfl <;> simp [own3, ownV]
    · intro p hp hpk
      rcases own3_mem.1 hp with rfl | rfl | rfl | hp | hp
      · simp at hpk; omega
      · simp at hpk; omega
      · simp at hpk; omega
      · simp [ownV] at hp
        rcases hp with rfl | rfl | rfl | rfl | rfl <;> simp at hpk ⊢ <;> omega
      · simp [dsL] at hp
  refine range_wide (gf := 39) (lb := #[.pointer (some ⟨W.heap.size, 0, none⟩), .pointer (some ⟨W.heap.size + 1, 0, none⟩)]) rfl (enters_of Try.func39 (by kernel_rfl) rfl) (fun x : ByteArray => #[Value.string x]) (fun _ => rfl) (viasOf deps kb.dep)
    (fun vs Wx => ∃ via, Sp J w G₀ (own3 bk kb gv (.func fv #[] caps) false (ownV gb W.heap.size D (.pointer (some ⟨fb, fo, none⟩)) kb.dep (genObj kb kb.dep via)) []) (vs.map (srcGen kb kb.dep) ++ r) Wx)
    (fun c vs Wx => c = .ret ∧ ∃ via r', Sp Jx w G₀ (own3 bk kb gv (.func fv #[] caps) false (ownV gb W.heap.size D (.pointer (some ⟨fb, fo, none⟩)) kb.dep (genObj kb kb.dep via)) []) r' Wx)
    (fun x a' Wx => Slots 92 (slots4 (.pointer (some ⟨fb, fo, none⟩)) bk gb ++ [(8, .string x)]) [] a') ?hI ?hIx ?hAx ?hIa ?h0 ?iter ?assign ?body ?done ?stop
  case hI => rintro vs Wx o k hk ⟨via, hs⟩; exact ⟨via, hd3 .skip J hJ _ _ _ _ _ _ (by rw [hDD]; exact hk) hs⟩
  case hIx => rintro c vs Wx o k hk ⟨rfl, via, r', hs⟩; exact ⟨rfl, via, r', hd3 .skip Jx hJx _ _ _ _ _ _ (by rw [hDD]; exact hk) hs⟩
  case hAx => intro x a' _ Wx o k hk hs; exact hs
  case hIa => rintro vs Wx o ⟨via, hs⟩; exact ⟨via, (hs.alloc hJ o).weaken (fun p hp => by simp [hp])⟩
  case h0 =>
    intro o
    refine ⟨emp, ?_⟩
    have h3 := ((h2.alloc hJ (.deferred (some []))).alloc hJ o)
    simp only [World.size_alloc] at h3
    rw [← hDD] at h3
    have h4 : Sp J w G₀ ((D, none) :: (D + 1, none) :: (own3 bk kb gv (.func fv #[] caps) false [(gb, some (genObj kb kb.dep emp)), (W.heap.size, some (.cells #[.pointer (some ⟨fb, fo, none⟩)] 61)), (W.heap.size + 1, some (.cells #[.string kb.dep] 9))] []))
        ((viasOf deps kb.dep).map (srcGen kb kb.dep) ++ r) ((W2.alloc (.deferred (some []))).alloc o) :=
      ((((h3.forget).weaken (L' := (D, some (.deferred (some []))) :: (D + 1, none) :: _) (fun p hp => by
        rcases List.mem_cons.1 hp with rfl | hp
        · simp
        · rcases List.mem_cons.1 hp with rfl | hp
          · simp
          · exact List.mem_cons_of_mem _ (List.mem_cons_of_mem _ hp))).forget).weaken (fun p hp => by
        rcases List.mem_cons.1 hp with rfl | hp
        · simp
        · rcases List.mem_cons.1 hp with rfl | hp
          · simp
          · rcases own3_mem.1 hp with rfl | rfl | rfl | hp | hp
            · simp [own3]
            · simp [own3]
            · simp [own3]
            · simp at hp; rcases hp with rfl | rfl | rfl <;> simp [own3]
            · simp [dsL] at hp))
    exact h4.weaken (fun p hp => by
      rcases own3_mem.1 hp with rfl | rfl | rfl | hp | hp
      · simp [own3]
      · simp [own3]
      · simp [own3]
      · simp [ownV] at hp; rcases hp with rfl | rfl | rfl | rfl | rfl <;> simp [own3]
      · simp [dsL] at hp)
  case iter =>
    intro J' Jx' hJI hJa hJy Wx hx
    rw [← hDD] at hJy ⊢
    have hbel : ∀ r Wy, J' r Wy → Below n w Wy := fun r Wy hy => by obtain ⟨via, hs⟩ := hJI _ _ hy; exact hs.fr.below hG hn
    refine vias1 (D + 1) W.heap.size (W.heap.size + 1) fb fo n deps kb.dep J' Jx' (fun rr Wy hy => ?_) hJa hJy Wx hx sv (((hbel _ _ hx).cell (p := ⟨fb, fo + 5, none⟩) hfb).trans hsv) (fun rr Wy hy => hrow.turned fun _ _ _ hb' => WiAt.below (hbel _ _ hy) hb')
    obtain ⟨via, hs⟩ := hJI _ _ hy
    exact ⟨cell_at (hs.heap (b := W.heap.size) (o := .cells #[.pointer (some ⟨fb, fo, none⟩)] 61) (by simp [own3, ownV])), cell_at (hs.heap (b := W.heap.size + 1) (o := .cells #[.string kb.dep] 9) (by simp [own3, ownV]))⟩
  case assign =>
    intro x rr Wx K' hi hlt hk
    gi_wp2
    exact hk _ _ rfl rfl hi ⟨rfl, rfl, by simp [slots4]⟩
  case body =>
    rintro x rr a' Wx ⟨via, hs⟩ hlt hax
    obtain ⟨f', rfl⟩ := slotsKb78 hax
    rw [← hDD] at hlt ⊢
    obtain ⟨c0, c1, c2, c3, c4, c5, c6, c7, c8⟩ := own3_cells hs
    have hgo := hs.heap (b := gb) (o := genObj kb kb.dep via) (by simp [own3, ownV])
    obtain ⟨g0, g1, g2, g3, g4, g5, g6, g7, g8, g9, g10⟩ := genObj_cells hgo
    have hs1 : Sp J w G₀ (own3 bk kb gv (.func fv #[] caps) false (ownV gb W.heap.size D (.pointer (some ⟨fb, fo, none⟩)) kb.dep (genObj kb kb.dep x)) []) (srcGen kb kb.dep x :: (rr.map (srcGen kb kb.dep) ++ r)) (Wx.setCell ⟨gb, 8, none⟩ (.string x)) :=
      hs.turnTo hJ (b := gb) (x := some (genObj kb kb.dep via)) (by simp [own3, ownV]) (grownBy_setCell Wx ⟨gb, 8, none⟩ _) (fun p hp => by
        rcases own3_mem.1 hp with rfl | rfl | rfl | hp | hp
        · exact .inl ⟨by simp [own3], by simp; omega⟩
        · exact .inl ⟨by simp [own3], by simp; omega⟩
        · exact .inl ⟨by simp [own3], by simp; omega⟩
        · simp [ownV] at hp
          rcases hp with rfl | rfl | rfl | rfl | rfl
          · exact .inr ⟨rfl, fun o ho => by cases ho; rw [heap_setCell_at (o := 8) (.string x) hgo]; rfl⟩
          · exact .inl ⟨by simp [own3, ownV], by simp; omega⟩
          · exact .inl ⟨by simp [own3, ownV], by simp; omega⟩
          · exact .inl ⟨by simp [own3, ownV], by simp; omega⟩
          · exact .inl ⟨by simp [own3, ownV], by simp; omega⟩
        · simp [dsL] at hp)
    have hy := Sp.post (fun _ _ => YCall.mono) (fun G => hc G (srcGen kb kb.dep x) (rr.map (srcGen kb kb.dep) ++ r) _) hs1
    have e1 : (Wx.setCell ⟨gb, 8, none⟩ (.string x)).heap[D]? = Wx.heap[D]? := Below.heap_setCell _ _ _ _ (by simp; omega)
    have e2 : (Wx.setCell ⟨gb, 8, none⟩ (.string x)).heap[D + 1]? = Wx.heap[D + 1]? := Below.heap_setCell _ _ _ _ (by simp; omega)
    have hgD : gb < D := by omega
    have hWD : W.heap.size + 1 < D := by omega
    simp only [Src.cells, srcGen] at hy
    clear hs hs1 hc hgo hrow hsv hG h2 hv hv1 hDD hsz hd3
    gi_wp2_with (refine wpListIn_ycall (fun _ => trivial) rfl (fun h => CallsIn.inRound _ (callsIn_any h)) (fun h => roundIn_any h) (by first | rfl | simp [go_sem]) _ _ _ rfl _ _ rfl ?_)
    refine hy.mono ?_
    clear hy c0 c1 c2 c3 c4 c5 c6 c7 c8 g0 g1 g2 g3 g4 g5 g6 g7 g8 g9 g10
    rintro e W' ⟨hsame, ⟨rfl, h⟩ | ⟨rfl, r', h⟩⟩
    · have s1 := hsame (D, none) (by simp [own3, ownV])
      have s2 := hsame (D + 1, none) (by simp [own3, ownV])
      simp only [afterCall]
      gi_wp2
      exact ⟨s1.trans e1, s2.trans e2, x, h⟩
    · have s1 := hsame (D, none) (by simp [own3, ownV])
      have s2 := hsame (D + 1, none) (by simp [own3, ownV])
      obtain ⟨d0, d1, d2, d3, d4, d5, d6, d7, d8⟩ := own3_cells h
      have e3 : (W'.setCell ⟨bk + 2, 0, none⟩ (.bool false)).heap[D]? = W'.heap[D]? := Below.heap_setCell _ _ _ _ (by simp; omega)
      have e4 : (W'.setCell ⟨bk + 2, 0, none⟩ (.bool false)).heap[D + 1]? = W'.heap[D + 1]? := Below.heap_setCell _ _ _ _ (by simp; omega)
      have hfin := own3_result hJx h (by simp [ownV]; omega) (by simp) false
      simp only [afterCall]
      clear h hsame
      gi_wp2
      exact ⟨(e3.trans s1).trans e1, (e4.trans s2).trans e2, rfl, x, r', hfin⟩
  case done =>
    rintro Wx ⟨via, hs⟩ hdx
    rw [← hDD] at hdx ⊢
    have hDg : bk + 2 < D := by omega
    have hs' : Sp J w G₀ (own3 bk kb gv (.func fv #[] caps) false [] [D]) r Wx := (Sp.know (b := D) (x := none) (hs.weaken (L' := (D, none) :: own3 bk kb gv (.func fv #[] caps) false [] []) (fun p hp => by
      rcases List.mem_cons.1 hp with rfl | hp
      · simp [own3, ownV]
      · rcases own3_mem.1 hp with rfl | rfl | rfl | hp | hp
        · simp [own3]
        · simp [own3]
        · simp [own3]
        · simp at hp
        · simp [dsL] at hp)) hdx).weaken (fun p hp => by
      rcases own3_mem.1 hp with rfl | rfl | rfl | hp | hp
      · simp [own3]
      · simp [own3]
      · simp [own3]
      · simp at hp
      · simp [dsL] at hp; subst hp; simp)
    clear hs hd3 hDD hsz h2 hrow hsv hG hc
    gi_wp2
    exact hK _ _ D hDg ⟨rfl, rfl, by simp [slots3]⟩ hs'
  case stop =>
    rintro c rr Wx ⟨rfl, via, r', hs⟩ hdx
    rw [← hDD] at hdx ⊢
    have hDg : bk + 2 < D := by omega
    have hs' : Sp Jx w G₀ (own3 bk kb gv (.func fv #[] caps) false [] [D]) r' Wx := (Sp.know (b := D) (x := none) (hs.weaken (L' := (D, none) :: own3 bk kb gv (.func fv #[] caps) false [] []) (fun p hp => by
      rcases List.mem_cons.1 hp with rfl | hp
      · simp [own3, ownV]
      · rcases own3_mem.1 hp with rfl | rfl | rfl | hp | hp
        · simp [own3]
        · simp [own3]
        · simp [own3]
        · simp at hp
        · simp [dsL] at hp)) hdx).weaken (fun p hp => by
      rcases own3_mem.1 hp with rfl | rfl | rfl | hp | hp
      · simp [own3]
      · simp [own3]
      · simp [own3]
      · simp at hp
      · simp [dsL] at hp; subst hp; simp)
    clear hs hd3 hDD hsz h2 hrow hsv hG hc
    gi_wp2
    exact hQ _ _ D r' hDg ⟨rfl, rfl, by simp [slots3]⟩ hs'
end Go.Proofs.Qxb6613755a
