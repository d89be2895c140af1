/-
  Function 31, '(*Facts).kbSources', whole.
-/
import Derived.Test.Qxb6613755aKbD
namespace Go.Proofs.Qxb6613755a
open Go.RowKit Go.Shelf
attribute [local go_sem] Oper.semAt_some wide_depth wide_fn
set_option linter.unusedVariables false
set_option linter.unusedSimpArgs false

/-- The way out of kbSources. -/
theorem kb_leave {J Jx : (Nat → Prop) → List Src → World → Prop} {Jz : (Nat → Prop) → List Src → World → Prop} (hJz : Framed Jz) {W : World} {G : Nat → Prop} {bk : Nat} {kb : Kb} {gv y fp : Value} {Ds : List Nat} {r rz : List Src} {b : Bool} {a' : Act} {W' : World}
    (hbk : bk = W.heap.size) (hD : ∀ D ∈ Ds, bk + 2 < D) (hDn : Ds.Nodup) (ha : Slots 92 (slots3 fp bk) (marks Ds) a') (h : Sp Jz W G (own3 bk kb gv y b [] Ds) rz W')
    (hpost : ∀ W'', Sp Jz W G [] rz W'' → YPost J Jx G W r (.returned (.bool b)) W'') :
    LeavesInM Fence.wide 0 Try.prog Try.f31 a'.tmps (YPost J Jx G W r) a'.defers .returning W' := by
  rw [ha.1]
  have hds : ∀ D ∈ Ds, W'.heap[D]? = some (.deferred (some [])) := fun D hD' => h.heap (b := D) (own3_mem.2 (.inr (.inr (.inr (.inr (by simp [dsL]; exact hD'))))))
  refine leaves_marks Ds W' hDn hds ⟨.bool b, ?_, ?_⟩
  · have hc : (shutAll Ds W').cell? ⟨bk + 2, 0, none⟩ = some (.bool b) := by
      have h3 := h.heap (b := bk + 2) (o := .cells #[.bool b] 4) (by simp [own3])
      refine cell_at (cs := #[.bool b]) (t := 4) (m := (0, 0)) ?_
      rw [shutAll_other (fun hh => by have := hD _ hh; omega)]
      exact h3
    have ht := ha.2.2 (6, .pointer (some ⟨bk + 2, 0, none⟩)) (by simp [slots3])
    simp only at ht
    simp [results, Try.results31, go_sem, ht, hc]
  · apply hpost
    clear hds
    have h0 : Sp Jz W G (dsL Ds) rz W' := h.weaken (fun p hp => own3_mem.2 (.inr (.inr (.inr (.inr hp)))))
    clear h ha hD
    induction Ds generalizing W' with
    | nil => exact h0
    | cons D Ds ih =>
      refine ih (List.nodup_cons.1 hDn).2 (h0.turnTo hJz (b := D) (x := some (.deferred (some []))) (by simp [dsL]) (grownBy_putObj' W' D _) (fun p hp => .inl ⟨?_, ?_⟩))
      · simp [dsL] at hp ⊢; exact .inr hp
      · intro e; exact (List.nodup_cons.1 hDn).1 (by rw [← e]; exact mem_dsL hp)

set_option maxHeartbeats 4000000 in
theorem kbSources_in {J Jx : (Nat → Prop) → List Src → World → Prop} (hJ : Framed J) (hJx : Framed Jx) {fv : Fn} {caps : Array Value}
    (hc : ∀ G s r W, J G (s :: r) W → YCall Try.prog fv caps #[.agg s.cells] W (YPost J Jx G W r))
    {W : World} {G : Nat → Prop} {n fb fo : Nat} {kb : Kb} {gv sv : Value} {deps : List Wi} {r : List Src} (hn : n ≤ W.heap.size) (hG : ∀ k, G k → n ≤ k) (hfb : fb < n)
    (hsv : W.cell? ⟨fb, fo + 5, none⟩ = some sv) (hrow : RowIs n 2 32 WiAt W sv deps) (hgr : RowIs n 2 24 GrAt W gv kb.grants) (h : J G (kbSrcs deps kb ++ r) W) :
    CallsIn Fence.wide 0 Try.prog 31 #[.pointer (some ⟨fb, fo, none⟩), .agg #[.bool kb.creator, .int .i8 kb.vis, .int .i8 kb.lvl, .string kb.dep, .int .i8 kb.pg, gv], .func fv #[] caps] W (YPost J Jx G W r) := by
  refine callsIn_of_wp_marks Try.func31 code31_parts trivial ?_ rfl
  have h0 : Sp J W G (own3 W.heap.size kb gv (.func fv #[] caps) false [] []) (kbSrcs deps kb ++ r) (((W.alloc (kbObj kb gv)).alloc (.cells #[.func fv #[] caps] 84)).alloc (.cells #[.bool false] 4)) := by
    have := (((Sp.start h).alloc hJ (kbObj kb gv)).alloc hJ (.cells #[.func fv #[] caps] 84)).alloc hJ (.cells #[.bool false] 4)
    simp only [World.size_alloc] at this
    refine this.weaken (fun p hp => ?_)
    rcases own3_mem.1 hp with rfl | rfl | rfl | hp | hp
    · simp
    · simp
    · simp
    · simp at hp
    · simp [dsL] at hp
  clear h
  obtain ⟨bk, hbk⟩ : ∃ bk, bk = W.heap.size := ⟨_, rfl⟩
  have hQ : ∀ a' W' Ds' r', (∀ D ∈ Ds', bk + 2 < D) → Ds'.Nodup → Slots 92 (slots3 (.pointer (some ⟨fb, fo, none⟩)) bk) (marks Ds') a' → Sp Jx W G (own3 bk kb gv (.func fv #[] caps) false [] Ds') r' W' → bodyPostM Fence.wide 0 Try.prog Try.f31 (YPost J Jx G W r) .ret a' W' :=
    fun a' W' Ds' r' h1 h2 h3 h4 => kb_leave hJx hbk h1 h2 h3 h4 (fun W'' h5 => h5.ypost_false)
  simp only [kbSrcs, List.append_assoc] at h0
  refine wpIn_seq ?_
  have hR0 : ∀ K : Act → World → Prop, (∀ a' W', Slots 92 (slots3 (.pointer (some ⟨fb, fo, none⟩)) bk) (marks []) a' → W' = (((W.alloc (kbObj kb gv)).alloc (.cells #[.func fv #[] caps] 84)).alloc (.cells #[.bool false] 4)) → K a' W') → ∀ Q,
      (seqL (Try.f31.body.getD .skip)).wpIn Fence.wide 0 Try.prog (Exit.then K Q) { tmps := #[.pointer (some ⟨fb, fo, none⟩), .agg #[.bool kb.creator, .int .i8 kb.vis, .int .i8 kb.lvl, .string kb.dep, .int .i8 kb.pg, gv], .func fv #[] caps] ++ Array.replicate (Try.f31.ntmps - 3) undef, defers := [] } W := by
    intro K hK Q
    obtain ⟨ga, gcap, rfl, _⟩ := hgr
    simp only [Try.ntmps31, List.size_toArray, List.length_cons, List.length_nil, Nat.reduceAdd, Nat.reduceSub, Array.replicate_succ, Array.replicate_zero, List.push_toArray, List.append_toArray, List.nil_append, List.cons_append]
    dsimp only [seqL, Try.f31, Option.getD]
    clear hQ h0 hc hrow hsv hG
    gi_wp2
    exact hK _ _ ⟨rfl, rfl, by simp [slots3, hbk]⟩ rfl
  refine hR0 _ ?_ _
  clear hR0
  rintro a1 W1 ha1 rfl
  rw [← hbk] at h0
  refine wpIn_seq (kb_part1 hJ hJx hc (by simp) ha1 h0 _ _ ?_ (fun a' W' r' h1 h2 => hQ a' W' [] r' (by simp) (by simp) h1 h2))
  clear h0 ha1 a1
  intro a1 W1 ha1 h1
  refine wpIn_seq (kb_part3 hJ ha1 h1 _ _ ?_)
  clear h1 ha1 a1 W1
  intro a1 W1 gb hgb ha1 h1
  have hrest : ∀ a' W' Ds', (∀ D ∈ Ds', bk + 2 < D) → Ds'.Nodup → Slots 92 (slots3 (.pointer (some ⟨fb, fo, none⟩)) bk) (marks Ds') a' → Sp J W G (own3 bk kb gv (.func fv #[] caps) false [] Ds') (personSrcs kb ++ (grantSrcs deps kb.grants ++ r)) W' →
      (Code.seq (part15 (Try.f31.body.getD .skip)) (.seq (part17 (Try.f31.body.getD .skip)) (part27 (Try.f31.body.getD .skip)))).wpIn Fence.wide 0 Try.prog (bodyPostM Fence.wide 0 Try.prog Try.f31 (YPost J Jx G W r)) a' W' := by
    intro a2 W2 Ds hD hDn ha2 h2
    refine wpIn_seq (kb_part15 hJx hc hD ha2 h2 _ _ ?_ (fun a' W' r' h1 h2 => hQ a' W' Ds r' hD hDn h1 h2))
    clear h2 ha2 a2 W2
    intro a2 W2 ha2 h2
    refine wpIn_seq (kb_part17 hJ hJx hc hn hG hfb hsv hrow hgr hD hDn ha2 h2 _ _ ?_ hQ)
    clear h2 ha2 a2 W2 hD hDn Ds
    intro a2 W2 Ds hD hDn ha2 h2
    obtain ⟨d0, d1, d2, d3, d4, d5, d6, d7, d8⟩ := own3_cells h2
    have h3 := own3_result hJ h2 (by simp) hD true
    obtain ⟨f, rfl⟩ := slotsKb ha2
    dsimp only [part27, seqR, Try.f31, Option.getD]
    have hfin : ∀ a', Slots 92 (slots3 (.pointer (some ⟨fb, fo, none⟩)) bk) (marks Ds) a' → bodyPostM Fence.wide 0 Try.prog Try.f31 (YPost J Jx G W r) .ret a' (W2.setCell ⟨bk + 2, 0, none⟩ (.bool true)) :=
      fun a' ha' => kb_leave hJ hbk hD hDn ha' h3 (fun W'' h5 => h5.ypost_true)
    clear h2 h3 hQ hc hrow hgr hsv hG d0 d1 d2 d3 d4 d5 d6 hbk
    gi_wp2
    exact hfin _ ⟨rfl, rfl, by simp [slots3]⟩
  refine wpIn_seq ?_
  by_cases hv2 : kb.vis = 2
  · simp only [genSrcs, hv2, if_true] at h1
    exact kb_part4_tenant hJx hc (by simp) hgb ha1 hv2 h1 _ _ (fun a' W' h1 h2 => hrest a' W' [] (by simp) (by simp) h1 h2) (fun a' W' r' h1 h2 => hQ a' W' [] r' (by simp) (by simp) h1 h2)
  · by_cases hv1 : kb.vis = 1
    · have e : genSrcs deps kb = (viasOf deps kb.dep).map (srcGen kb kb.dep) := by simp [genSrcs, hv1]
      rw [e] at h1
      exact kb_part4_dep hJ hJx hc hn hG hfb hsv hrow hgb ha1 hv1 h1 _ _ (fun a' W' D hD h1 h2 => hrest a' W' [D] (by simpa using hD) (by simp) h1 h2) (fun a' W' D r' hD h1 h2 => hQ a' W' [D] r' (by simpa using hD) (by simp) h1 h2)
    · have e : genSrcs deps kb = [] := by simp [genSrcs, hv1, hv2]
      rw [e, List.nil_append] at h1
      exact kb_part4_none ha1 (by simpa using hv2) (by simpa using hv1) h1 _ _ (fun a' W' h1 h2 => hrest a' W' [] (by simp) (by simp) h1 h2)
end Go.Proofs.Qxb6613755a
