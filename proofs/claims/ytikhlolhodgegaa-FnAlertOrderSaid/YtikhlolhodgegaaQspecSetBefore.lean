-- Printed for this seat by wip/pp.py of this repo; nothing here is trusted: Lean checks it.
import Derived.Test.YtikhlolhodgegaaQ0
import Derived.Test.YtikhlolhodgegaaHSpecSet
import Derived.Test.YtikhlolhodgegaaQspecHas
import Derived.Test.YtikhlolhodgegaaQspecValue
namespace Go.Proofs.Ytikhlolhodgegaa.Q
open Go.RowKit Go.Proofs.YtikhlolhodgegaaW.PrintWords Go.Proofs.YtikhlolhodgegaaW.PrintLast Go.Proofs.YtikhlolhodgegaaW.PrintMore
attribute [local go_sem] max2_int min2_int max_two min_two max_three min_three max_four min_four   -- for this text's walks alone
set_option linter.unusedVariables false
set_option linter.unusedSimpArgs false

/-! ### spec_SetBefore: function 24 -/
def spec_SetBefore.l0 : Nat → List (S59) → List (S59) → List (S59) → Int → Int → Option (Bool)
  | 0, _, _, _, _, _ => none
  | k + 1, x5, x6, x7, x31, x32 => if x32 < x31 then (if 0 ≤ x32 then (if x32 < (x7.length : Int) then ((spec_Has.f k x5 ((rd_T59 x7 x32).f0)).bind fun t372 => (if t372 = true then ((spec_Has.f k x6 ((rd_T59 x7 x32).f0)).bind fun t373 => (if t373 = true then ((spec_Value.f k x5 ((rd_T59 x7 x32).f0)).bind fun t374 => ((spec_Value.f k x6 ((rd_T59 x7 x32).f0)).bind fun t375 => (if t374.toList = t375.toList then (spec_SetBefore.l0 k x5 x6 x7 x31 (wrap64 (x32 + 1))) else (some (Op.bytesLess t374.toList t375.toList))))) else (some false))) else (some true))) else (none)) else (none)) else (some false)
def spec_SetBefore.f (k : Nat) (l0 : List (S59)) (l1 : List (S59)) : Option (Bool) := (spec_Set.f l0).bind fun t353 => ((spec_Set.f l1).bind fun t356 => (if (t353.length : Int) = (t356.length : Int) then ((some (([] : List (S59)) : List (S59))).bind fun y359 => (if y359.length + l0.length < 4398046511104 then ((some (y359 ++ l0 : List (S59))).bind fun y362 => (if y362.length + l1.length < 4398046511104 then ((spec_Set.f (y362 ++ l1)).bind fun t368 => (spec_SetBefore.l0 k t353 t356 t368 (t368.length : Int) 0)) else (none))) else (none))) else (some (decide ((t353.length : Int) < (t356.length : Int))))))
theorem spec_SetBefore.mono_l : ∀ k, (∀ y0 y1 y2 y3 y4, LeO (spec_SetBefore.l0 k y0 y1 y2 y3 y4) (spec_SetBefore.l0 (k + 1) y0 y1 y2 y3 y4))
  | 0 => fun _ _ _ _ _ r h => by simp [spec_SetBefore.l0] at h
  | k + 1 => by
    have ih0 := spec_SetBefore.mono_l k
    · intro y0 y1 y2 y3 y4
      unfold spec_SetBefore.l0
      repeat' first
      | (with_reducible exact ih0 _ _ _ _ _)
      | (with_reducible exact spec_Has.mono _ _ _)
      | (with_reducible exact spec_Value.mono _ _ _)
      | (with_reducible exact LeO.refl _)
      | (with_reducible exact LeO.none _)
      | (with_reducible refine LeO.ite ?_ ?_)
      | (with_reducible refine LeO.bind ?_ (fun _ => ?_))
      | exact ih0 _ _ _ _ _
      | exact spec_Has.mono _ _ _
      | exact spec_Value.mono _ _ _
      | exact LeO.none _
      | refine LeO.ite ?_ ?_
      | refine LeO.bind ?_ (fun _ => ?_)
theorem spec_SetBefore.mono : ∀ a0 a1 k, LeO (spec_SetBefore.f k a0 a1) (spec_SetBefore.f (k + 1) a0 a1) := by
  intro a0 a1 k
  have ih0 := spec_SetBefore.mono_l k
  unfold spec_SetBefore.f
  repeat' first
      | (with_reducible exact ih0 _ _ _ _ _)
      | (with_reducible exact spec_Has.mono _ _ _)
      | (with_reducible exact spec_Value.mono _ _ _)
      | (with_reducible exact LeO.refl _)
      | (with_reducible exact LeO.none _)
      | (with_reducible refine LeO.ite ?_ ?_)
      | (with_reducible refine LeO.bind ?_ (fun _ => ?_))
      | exact ih0 _ _ _ _ _
      | exact spec_Has.mono _ _ _
      | exact spec_Value.mono _ _ _
      | exact LeO.none _
      | refine LeO.ite ?_ ?_
      | refine LeO.bind ?_ (fun _ => ?_)
set_option maxHeartbeats 8000000 in
set_option maxRecDepth 100000 in
theorem spec_SetBefore.calls (k : Nat) (A0 : Option Addr) (c0 : Nat) (l0 : List (S59)) (A1 : Option Addr) (c1 : Nat) (l1 : List (S59)) (r : Bool) (w : World) (hr0 : Kd.C k59 w A0 l0.length l0) (hc0 : l0.length ≤ c0) (hr1 : Kd.C k59 w A1 l1.length l1) (hc1 : l1.length ≤ c1) (h : spec_SetBefore.f k l0 l1 = some r) :
    Calls Try.prog 24 #[.slice A0 l0.length c0, .slice A1 l1.length c1] w fun e w' => e = .returned (.bool r) ∧ Below w.heap.size w w' := by
  have HR0 := Aside0.mk hr0
  have HC0 := Aside0.mk hc0
  clear hr0 hc0
  have HR1 := Aside0.mk hr1
  have HC1 := Aside0.mk hc1
  clear hr1 hc1
  have HB := Aside0.mk (Below.refl w.heap.size w)
  have H : ((spec_Set.f l0).bind fun t353 => ((spec_Set.f l1).bind fun t356 => (if (t353.length : Int) = (t356.length : Int) then ((some (([] : List (S59)) : List (S59))).bind fun y359 => (if y359.length + l0.length < 4398046511104 then ((some (y359 ++ l0 : List (S59))).bind fun y362 => (if y362.length + l1.length < 4398046511104 then ((spec_Set.f (y362 ++ l1)).bind fun t368 => (spec_SetBefore.l0 k t353 t356 t368 (t368.length : Int) 0)) else (none))) else (none))) else (some (decide ((t353.length : Int) < (t356.length : Int))))))) = some r := h
  clear h
  replace H := Option.bind_eq_some_iff.mp H
  obtain ⟨t353, A30, H⟩ := H
  replace H : ((spec_Set.f l1).bind fun t356 => (if (t353.length : Int) = (t356.length : Int) then ((some (([] : List (S59)) : List (S59))).bind fun y359 => (if y359.length + l0.length < 4398046511104 then ((some (y359 ++ l0 : List (S59))).bind fun y362 => (if y362.length + l1.length < 4398046511104 then ((spec_Set.f (y362 ++ l1)).bind fun t368 => (spec_SetBefore.l0 k t353 t356 t368 (t368.length : Int) 0)) else (none))) else (none))) else (some (decide ((t353.length : Int) < (t356.length : Int)))))) = some r := H
  have A3 := Aside0.mk A30
  clear A30
  replace H := Option.bind_eq_some_iff.mp H
  obtain ⟨t356, A40, H⟩ := H
  replace H : (if (t353.length : Int) = (t356.length : Int) then ((some (([] : List (S59)) : List (S59))).bind fun y359 => (if y359.length + l0.length < 4398046511104 then ((some (y359 ++ l0 : List (S59))).bind fun y362 => (if y362.length + l1.length < 4398046511104 then ((spec_Set.f (y362 ++ l1)).bind fun t368 => (spec_SetBefore.l0 k t353 t356 t368 (t368.length : Int) 0)) else (none))) else (none))) else (some (decide ((t353.length : Int) < (t356.length : Int))))) = some r := H
  have A4 := Aside0.mk A40
  clear A40
  by_cases c5 : (t353.length : Int) = (t356.length : Int)
  · rw [if_pos c5] at H
    have c5b0 : ((t353.length : Int) == (t356.length : Int)) = true := beq_iff_eq.mpr c5
    have c5b1 : ((t353.length : Int) != (t356.length : Int)) = false := bne_eq_false_iff_eq.mpr c5
    have c5b2 : (t353.length == t356.length) = true := by first | simpa using c5 | (simp at c5 ⊢; omega)
    clear c5
    obtain ⟨y359, hy359⟩ : ∃ y_ : List (S59), y_ = (([] : List (S59))) := ⟨_, rfl⟩
    replace H : (if y359.length + l0.length < 4398046511104 then ((some (y359 ++ l0 : List (S59))).bind fun y362 => (if y362.length + l1.length < 4398046511104 then ((spec_Set.f (y362 ++ l1)).bind fun t368 => (spec_SetBefore.l0 k t353 t356 t368 (t368.length : Int) 0)) else (none))) else (none)) = some r := by first | (rw [hy359]; with_reducible exact H) | (have H2_ := (Option.bind_some _ _).symm.trans H; rw [hy359]; with_reducible exact H2_) | (have H2_ := (Option.bind_some _ _).symm.trans H; with_reducible exact H2_) | with_reducible exact H | (rw [hy359]; exact H) | exact H
    have Ny359 := Aside0.mk hy359
    clear hy359
    by_cases c6 : y359.length + l0.length < 4398046511104
    · rw [if_pos c6] at H
      have LMc6 := Aside0.mk c6
      clear c6
      obtain ⟨y362, hy362⟩ : ∃ y_ : List (S59), y_ = (y359 ++ l0) := ⟨_, rfl⟩
      replace H : (if y362.length + l1.length < 4398046511104 then ((spec_Set.f (y362 ++ l1)).bind fun t368 => (spec_SetBefore.l0 k t353 t356 t368 (t368.length : Int) 0)) else (none)) = some r := by first | (rw [hy362]; with_reducible exact H) | (have H2_ := (Option.bind_some _ _).symm.trans H; rw [hy362]; with_reducible exact H2_) | (have H2_ := (Option.bind_some _ _).symm.trans H; with_reducible exact H2_) | with_reducible exact H | (rw [hy362]; exact H) | exact H
      have Ny362 := Aside0.mk hy362
      clear hy362
      by_cases c7 : y362.length + l1.length < 4398046511104
      · rw [if_pos c7] at H
        have LMc7 := Aside0.mk c7
        clear c7
        obtain ⟨y365, hy365⟩ : ∃ y_ : List (S59), y_ = (y362 ++ l1) := ⟨_, rfl⟩
        replace H : ((spec_Set.f y365).bind fun t368 => (spec_SetBefore.l0 k t353 t356 t368 (t368.length : Int) 0)) = some r := by first | (rw [hy365]; with_reducible exact H) | (have H2_ := (Option.bind_some _ _).symm.trans H; rw [hy365]; with_reducible exact H2_) | (have H2_ := (Option.bind_some _ _).symm.trans H; with_reducible exact H2_) | with_reducible exact H | (rw [hy365]; exact H) | exact H
        have Ny365 := Aside0.mk hy365
        clear hy365
        replace H := Option.bind_eq_some_iff.mp H
        obtain ⟨t368, A80, H⟩ := H
        replace H : (spec_SetBefore.l0 k t353 t356 t368 (t368.length : Int) 0) = some r := H
        have A8 := Aside0.mk A80
        clear A80
        have H' := Aside0.mk H
        clear H
        go_enter Try.func24, Try.ntmps24
        go_wp2_with (first | ((with_reducible refine gate_callee (f := 19) rfl ?_); refine goesL_ _ rfl rfl Try.func19 (by kernel_rfl) rfl #[.slice A0 l0.length c0] rfl (by (try simp only [List.map_toArray, List.map_cons, List.map_nil]); first | done | rfl | (simp only [List.length_drop, List.length_take]; rfl)) ?_; (with_reducible refine (spec_Set.calls _ _ l0 t353 _ ?side1 ?side2 A3.out).mono ?_); (case side1 => repeat (first | exact HR0.out | (with_reducible refine Kd.C_alloc ?_ _) | (with_reducible refine Kd.C_drewN ?_ _) | (with_reducible refine Kd.C_drew ?_))); (case side2 => exact HC0.out); rintro e w9 ⟨v354, rfl, ho0, hb⟩; refine ⟨_, rfl, ?_⟩; have n0_ := Aside0.mk (Kd.R_lower ho0 (below_size (by repeat (first | (with_reducible first | exact HB.out | apply below_alloc | apply pw_below_drewN | apply below_drew1) | exact HB.out)))); have n1_ := Aside0.mk (below_step (by repeat (first | (with_reducible first | exact HB.out | apply below_alloc | apply pw_below_drewN | apply below_drew1) | exact HB.out)) hb); clear HB; have HO355 := n0_; have HB := n1_; clear n0_ n1_; (try clear hb); (try clear hb2); (try clear hk); (try clear hi); (try clear ho0); clear A3) | ((with_reducible refine gate_callee (f := 19) rfl ?_); refine goesL_ _ rfl rfl Try.func19 (by kernel_rfl) rfl #[.slice A1 l1.length c1] rfl (by (try simp only [List.map_toArray, List.map_cons, List.map_nil]); first | done | rfl | (simp only [List.length_drop, List.length_take]; rfl)) ?_; (with_reducible refine (spec_Set.calls _ _ l1 t356 _ ?side1 ?side2 A4.out).mono ?_); (case side1 => repeat (first | exact (Kd.C_below HR1.out HB.out) | (with_reducible refine Kd.C_alloc ?_ _) | (with_reducible refine Kd.C_drewN ?_ _) | (with_reducible refine Kd.C_drew ?_))); (case side2 => exact HC1.out); rintro e w10 ⟨v357, rfl, ho0, hb⟩; refine ⟨_, rfl, ?_⟩; have n0_ := Aside0.mk (Kd.R_elder' (by (with_reducible repeat (first | apply Kd.R_alloc | apply Kd.R_drewN | apply Kd.R_drew)); exact HO355.out) (Kd.R_base ho0) hb); have n1_ := Aside0.mk (Kd.R_lower (Kd.R_new' ho0 (Kd.R_lt (by (with_reducible repeat (first | apply Kd.R_alloc | apply Kd.R_drewN | apply Kd.R_drew)); exact HO355.out))) (below_size (by repeat (first | (with_reducible first | exact HB.out | apply below_alloc | apply pw_below_drewN | apply below_drew1) | exact HB.out)))); have n2_ := Aside0.mk (below_step (by repeat (first | (with_reducible first | exact HB.out | apply below_alloc | apply pw_below_drewN | apply below_drew1) | exact HB.out)) hb); clear HO355; clear HB; have HO355 := n0_; have HO358 := n1_; have HB := n2_; clear n0_ n1_ n2_; (try clear hb); (try clear hb2); (try clear hk); (try clear hi); (try clear ho0); obtain ⟨Ao11, co11, eo11⟩ := Kd.R_slice HO355.out; subst eo11; obtain ⟨Ao12, co12, eo12⟩ := Kd.R_slice HO358.out; subst eo12; clear A4) | ((with_reducible refine gate_dst (N := 24) rfl ?_); refine Kd.R_lit k59 _ 59 ?hg (N := 24) ?hd (xs := ([] : List (S59))) (inner := []) (ok := fun _ => True) (okp := fun _ => True) ?hr ?hp (fun _ hk => hk) trivial (Below.refl _ _) (Nat.le_refl _) (by simp) ?_; (case hd => rfl); (case hg => rfl); (case hr => first | (go_simp; done) | (go_simp; rfl)); (case hp => exact (Reps.none _ _)); intro v360 w13 ho14 hb hg_ hnew_; clear hg_ hnew_; (first | rw [← Ny359.out] at ho14 | (simp only [Int.reduceToNat] at ho14; rw [← Ny359.out] at ho14)); have n0_ := Aside0.mk (Kd.R_elder' (by (with_reducible repeat (first | apply Kd.R_alloc | apply Kd.R_drewN | apply Kd.R_drew)); exact HO355.out) (Kd.R_base ho14) hb); have n1_ := Aside0.mk (Kd.R_elder' (by (with_reducible repeat (first | apply Kd.R_alloc | apply Kd.R_drewN | apply Kd.R_drew)); exact HO358.out) (Kd.R_base ho14) hb); have n2_ := Aside0.mk (Kd.R_lower (Kd.R_new' (Kd.R_new' ho14 (Kd.R_lt (by (with_reducible repeat (first | apply Kd.R_alloc | apply Kd.R_drewN | apply Kd.R_drew)); exact HO355.out))) (Kd.R_lt (by (with_reducible repeat (first | apply Kd.R_alloc | apply Kd.R_drewN | apply Kd.R_drew)); exact HO358.out))) (below_size (by repeat (first | (with_reducible first | exact HB.out | apply below_alloc | apply pw_below_drewN | apply below_drew1) | exact HB.out)))); have n3_ := Aside0.mk (below_step (by repeat (first | (with_reducible first | exact HB.out | apply below_alloc | apply pw_below_drewN | apply below_drew1) | exact HB.out)) hb); clear HO355; clear HO358; clear HB; have HO355 := n0_; have HO358 := n1_; have HO361 := n2_; have HB := n3_; clear n0_ n1_ n2_ n3_; clear hb ho14) | ((with_reducible refine gate_builtin (b := .append) (xs := #[.tmp 24, .tmp 25]) rfl ?_); at_builtin; refine Kd.R_append_rows k59 (w0 := w) w.heap.size rfl (.tmp 24) (.tmp 25) 29 59 (.agg #[(.string ⟨#[]⟩), (.string ⟨#[]⟩)]) 32 rfl Try.underlying29 info59 rfl (by decide) (by omega) v360 y359 l0 _ _ _ (fun k_ => some k_ ≠ (.slice Ao11 t353.length co11 : Value).ownBlock ∧ some k_ ≠ (.slice Ao12 t356.length co12 : Value).ownBlock) (fun _ => False) rfl rfl ?aO ?aR (fun _ _ h => h) (fun _ h => h.elim) ?aF ?aB ?aS ?aL ?_; (case aR => repeat (first | exact (Kd.C_below HR0.out HB.out) | (with_reducible refine Kd.C_alloc ?_ _) | (with_reducible refine Kd.C_drewN ?_ _) | (with_reducible refine Kd.C_drew ?_))); (case aB => exact (by repeat (first | (with_reducible first | exact HB.out | apply below_alloc | apply pw_below_drewN | apply below_drew1) | exact HB.out))); (case aF => exact (fun k_ hk => ⟨Kd.fresh' (Kd.R_lt (by (with_reducible repeat (first | apply Kd.R_alloc | apply Kd.R_drewN | apply Kd.R_drew)); exact HO355.out)) k_ hk, Kd.fresh' (Kd.R_lt (by (with_reducible repeat (first | apply Kd.R_alloc | apply Kd.R_drewN | apply Kd.R_drew)); exact HO358.out)) k_ hk⟩)); (case aO => exact (by (with_reducible repeat (first | apply Kd.R_alloc | apply Kd.R_drewN | apply Kd.R_drew)); exact Kd.R_mono HO361.out (fun _ hk => ⟨hk.1.2, hk.2⟩))); (case aS => exact (below_size (by repeat (first | (with_reducible first | exact HB.out | apply below_alloc | apply pw_below_drewN | apply below_drew1) | exact HB.out)))); (case aL => have := LMc6.out; omega); intro v363 w15 ho hb hg hat; rw [← Ny362.out] at ho; have n0_ := Aside0.mk (Kd.R_after (ok := (fun k_ => some k_ ≠ (.slice Ao12 t356.length co12 : Value).ownBlock)) (by (with_reducible repeat (first | apply Kd.R_alloc | apply Kd.R_drewN | apply Kd.R_drew)); exact Kd.R_mono HO355.out (fun _ hk => ⟨hk.1.2, hk.2⟩)) hg hat); have n1_ := Aside0.mk (Kd.R_after (ok := (fun k_ => some k_ ≠ (.slice Ao11 t353.length co11 : Value).ownBlock)) (by (with_reducible repeat (first | apply Kd.R_alloc | apply Kd.R_drewN | apply Kd.R_drew)); exact Kd.R_mono HO358.out (fun _ hk => ⟨hk.1.2, hk.2⟩)) hg hat); have n2_ := Aside0.mk (hb); have n3_ := Aside0.mk (ho); clear HO355; clear HO358; clear HB; clear HO361; have HO355 := n0_; have HO358 := n1_; have HB := n2_; have HO364 := n3_; clear n0_ n1_ n2_ n3_; clear ho hb hg hat) | ((with_reducible refine gate_builtin (b := .append) (xs := #[.tmp 26, .tmp 27]) rfl ?_); at_builtin; refine Kd.R_append_rows k59 (w0 := w) w.heap.size rfl (.tmp 26) (.tmp 27) 29 59 (.agg #[(.string ⟨#[]⟩), (.string ⟨#[]⟩)]) 32 rfl Try.underlying29 info59 rfl (by decide) (by omega) v363 y362 l1 _ _ _ (fun k_ => some k_ ≠ (.slice Ao11 t353.length co11 : Value).ownBlock ∧ some k_ ≠ (.slice Ao12 t356.length co12 : Value).ownBlock) (fun _ => False) rfl rfl ?aO ?aR (fun _ _ h => h) (fun _ h => h.elim) ?aF ?aB ?aS ?aL ?_; (case aR => repeat (first | exact (Kd.C_below HR1.out HB.out) | (with_reducible refine Kd.C_alloc ?_ _) | (with_reducible refine Kd.C_drewN ?_ _) | (with_reducible refine Kd.C_drew ?_))); (case aB => exact (by repeat (first | (with_reducible first | exact HB.out | apply below_alloc | apply pw_below_drewN | apply below_drew1) | exact HB.out))); (case aF => exact (fun k_ hk => ⟨Kd.fresh' (Kd.R_lt (by (with_reducible repeat (first | apply Kd.R_alloc | apply Kd.R_drewN | apply Kd.R_drew)); exact HO355.out)) k_ hk, Kd.fresh' (Kd.R_lt (by (with_reducible repeat (first | apply Kd.R_alloc | apply Kd.R_drewN | apply Kd.R_drew)); exact HO358.out)) k_ hk⟩)); (case aO => exact (by (with_reducible repeat (first | apply Kd.R_alloc | apply Kd.R_drewN | apply Kd.R_drew)); exact HO364.out)); (case aS => exact (below_size (by repeat (first | (with_reducible first | exact HB.out | apply below_alloc | apply pw_below_drewN | apply below_drew1) | exact HB.out)))); (case aL => have := LMc7.out; omega); intro v366 w16 ho hb hg hat; rw [← Ny365.out] at ho; have n0_ := Aside0.mk (Kd.R_after (ok := (fun k_ => some k_ ≠ (.slice Ao12 t356.length co12 : Value).ownBlock)) (by (with_reducible repeat (first | apply Kd.R_alloc | apply Kd.R_drewN | apply Kd.R_drew)); exact HO355.out) hg hat); have n1_ := Aside0.mk (Kd.R_after (ok := (fun k_ => some k_ ≠ (.slice Ao11 t353.length co11 : Value).ownBlock)) (by (with_reducible repeat (first | apply Kd.R_alloc | apply Kd.R_drewN | apply Kd.R_drew)); exact HO358.out) hg hat); have n2_ := Aside0.mk (hb); have n3_ := Aside0.mk (ho); clear HO355; clear HO358; clear HB; clear HO364; have HO355 := n0_; have HO358 := n1_; have HB := n2_; have HO367 := n3_; clear n0_ n1_ n2_ n3_; clear ho hb hg hat; obtain ⟨Ao17, co17, eo17⟩ := Kd.R_slice HO367.out; subst eo17) | ((with_reducible refine gate_callee (f := 19) rfl ?_); refine goesL_ _ rfl rfl Try.func19 (by kernel_rfl) rfl #[.slice Ao17 y365.length co17] rfl (by (try simp only [List.map_toArray, List.map_cons, List.map_nil]); first | done | rfl | (simp only [List.length_drop, List.length_take]; rfl)) ?_; (with_reducible refine (spec_Set.calls _ _ y365 t368 _ ?side1 ?side2 A8.out).mono ?_); (case side1 => repeat (first | exact (Kd.R_reads' HO367.out).2.2 | (with_reducible refine Kd.C_alloc ?_ _) | (with_reducible refine Kd.C_drewN ?_ _) | (with_reducible refine Kd.C_drew ?_))); (case side2 => exact (Kd.R_reads' HO367.out).2.1); rintro e w18 ⟨v369, rfl, ho0, hb⟩; refine ⟨_, rfl, ?_⟩; have n0_ := Aside0.mk (Kd.R_elder' (by (with_reducible repeat (first | apply Kd.R_alloc | apply Kd.R_drewN | apply Kd.R_drew)); exact HO355.out) (Kd.R_base ho0) hb); have n1_ := Aside0.mk (Kd.R_elder' (by (with_reducible repeat (first | apply Kd.R_alloc | apply Kd.R_drewN | apply Kd.R_drew)); exact HO358.out) (Kd.R_base ho0) hb); have n2_ := Aside0.mk (Kd.R_elder' (by (with_reducible repeat (first | apply Kd.R_alloc | apply Kd.R_drewN | apply Kd.R_drew)); exact HO367.out) (Kd.R_base ho0) hb); have n3_ := Aside0.mk (Kd.R_lower (Kd.R_new' (Kd.R_new' (Kd.R_new' ho0 (Kd.R_lt (by (with_reducible repeat (first | apply Kd.R_alloc | apply Kd.R_drewN | apply Kd.R_drew)); exact HO355.out))) (Kd.R_lt (by (with_reducible repeat (first | apply Kd.R_alloc | apply Kd.R_drewN | apply Kd.R_drew)); exact HO358.out))) (Kd.R_lt (by (with_reducible repeat (first | apply Kd.R_alloc | apply Kd.R_drewN | apply Kd.R_drew)); exact HO367.out))) (below_size (by repeat (first | (with_reducible first | exact HB.out | apply below_alloc | apply pw_below_drewN | apply below_drew1) | exact HB.out)))); have n4_ := Aside0.mk (below_step (by repeat (first | (with_reducible first | exact HB.out | apply below_alloc | apply pw_below_drewN | apply below_drew1) | exact HB.out)) hb); clear HO355; clear HO358; clear HO367; clear HB; have HO355 := n0_; have HO358 := n1_; have HO367 := n2_; have HO370 := n3_; have HB := n4_; clear n0_ n1_ n2_ n3_ n4_; (try clear hb); (try clear hb2); (try clear hk); (try clear hi); (try clear ho0); obtain ⟨Ao19, co19, eo19⟩ := Kd.R_slice HO370.out; subst eo19))
        go_loopg [32] k (fun kq v32 w' => ∃ (x32_1 : Int), v32 = .int .i64 x32_1 ∧ Aside0 (spec_SetBefore.l0 kq t353 t356 t368 (t368.length : Int) x32_1 = some r) ∧ Aside0 (kq ≤ k) ∧ Aside0 (Kd.R k59 59 w' w.heap.size (fun k_ => some k_ ≠ ((.slice Ao12 t356.length co12) : Value).ownBlock ∧ some k_ ≠ ((.slice Ao19 t368.length co19) : Value).ownBlock) (.slice Ao11 t353.length co11) t353) ∧ Aside0 (Kd.R k59 59 w' w.heap.size (fun k_ => some k_ ≠ ((.slice Ao11 t353.length co11) : Value).ownBlock ∧ some k_ ≠ ((.slice Ao19 t368.length co19) : Value).ownBlock) (.slice Ao12 t356.length co12) t356) ∧ Aside0 (Kd.R k59 59 w' w.heap.size (fun k_ => some k_ ≠ ((.slice Ao11 t353.length co11) : Value).ownBlock ∧ some k_ ≠ ((.slice Ao12 t356.length co12) : Value).ownBlock) (.slice Ao19 t368.length co19) t368) ∧ Aside0 (Below w.heap.size w w'))
        case atStart => exact ⟨(0), (by first | rfl | (simp; done) | (simp [*]; done) | (simp [*, q_isEmpty]; done) | (simp [*]; exact q_gt _ _ (by assumption))), H', ⟨Nat.le_refl _⟩, ⟨by (with_reducible repeat (first | apply Kd.R_alloc | apply Kd.R_drewN | apply Kd.R_drew)); exact Kd.R_mono HO355.out (fun _ hk => ⟨hk.1.1, hk.2⟩)⟩, ⟨by (with_reducible repeat (first | apply Kd.R_alloc | apply Kd.R_drewN | apply Kd.R_drew)); exact Kd.R_mono HO358.out (fun _ hk => ⟨hk.1.1, hk.2⟩)⟩, ⟨by (with_reducible repeat (first | apply Kd.R_alloc | apply Kd.R_drewN | apply Kd.R_drew)); exact Kd.R_mono HO370.out (fun _ hk => ⟨hk.1.1.2, hk.1.2⟩)⟩, ⟨by repeat (first | (with_reducible first | exact HB.out | apply below_alloc | apply pw_below_drewN | apply below_drew1) | exact HB.out)⟩⟩
        case round =>
          clear H'
          try clear c1
          try clear c2
          try clear p2
          try clear c5
          try clear c5b0
          try clear c5b1
          try clear c5b2
          try clear c6
          try clear c7
          try clear c19
          obtain ⟨x32_1, rfl, HA, HK1, HO_5, HO_6, HO_7, HB⟩ := hrel
          cases gk with
          | zero => exact absurd HA.out (by simp [spec_SetBefore.l0])
          | succ k1 =>
            have H := HA.out
            clear HA
            simp only [spec_SetBefore.l0] at H
            by_cases c20 : x32_1 < (t368.length : Int)
            · rw [if_pos c20] at H
              have c20b0 : decide (x32_1 < (t368.length : Int)) = true := decide_eq_true c20
              clear c20
              by_cases c21 : 0 ≤ x32_1
              · rw [if_pos c21] at H
                have c21b0 : decide (0 ≤ x32_1) = true := decide_eq_true c21
                clear c21
                by_cases c22 : x32_1 < (t368.length : Int)
                · rw [if_pos c22] at H
                  have c22b0 : decide (x32_1 < (t368.length : Int)) = true := decide_eq_true c22
                  clear c22
                  replace H := Option.bind_eq_some_iff.mp H
                  obtain ⟨t372, A230, H⟩ := H
                  replace H : (if t372 = true then ((spec_Has.f k1 t356 ((rd_T59 t368 x32_1).f0)).bind fun t373 => (if t373 = true then ((spec_Value.f k1 t353 ((rd_T59 t368 x32_1).f0)).bind fun t374 => ((spec_Value.f k1 t356 ((rd_T59 t368 x32_1).f0)).bind fun t375 => (if t374.toList = t375.toList then (spec_SetBefore.l0 k1 t353 t356 t368 (t368.length : Int) (wrap64 (x32_1 + 1))) else (some (Op.bytesLess t374.toList t375.toList))))) else (some false))) else (some true)) = some r := H
                  have A23 := Aside0.mk A230
                  clear A230
                  by_cases c24 : t372 = true
                  · subst c24
                    have H1 : ((spec_Has.f k1 t356 ((rd_T59 t368 x32_1).f0)).bind fun t373 => (if t373 = true then ((spec_Value.f k1 t353 ((rd_T59 t368 x32_1).f0)).bind fun t374 => ((spec_Value.f k1 t356 ((rd_T59 t368 x32_1).f0)).bind fun t375 => (if t374.toList = t375.toList then (spec_SetBefore.l0 k1 t353 t356 t368 (t368.length : Int) (wrap64 (x32_1 + 1))) else (some (Op.bytesLess t374.toList t375.toList))))) else (some false))) = some r := by rw [if_pos rfl] at H; exact H
                    clear H
                    have H := H1
                    clear H1
                    replace H := Option.bind_eq_some_iff.mp H
                    obtain ⟨t373, A250, H⟩ := H
                    replace H : (if t373 = true then ((spec_Value.f k1 t353 ((rd_T59 t368 x32_1).f0)).bind fun t374 => ((spec_Value.f k1 t356 ((rd_T59 t368 x32_1).f0)).bind fun t375 => (if t374.toList = t375.toList then (spec_SetBefore.l0 k1 t353 t356 t368 (t368.length : Int) (wrap64 (x32_1 + 1))) else (some (Op.bytesLess t374.toList t375.toList))))) else (some false)) = some r := H
                    have A25 := Aside0.mk A250
                    clear A250
                    by_cases c26 : t373 = true
                    · subst c26
                      have H1 : ((spec_Value.f k1 t353 ((rd_T59 t368 x32_1).f0)).bind fun t374 => ((spec_Value.f k1 t356 ((rd_T59 t368 x32_1).f0)).bind fun t375 => (if t374.toList = t375.toList then (spec_SetBefore.l0 k1 t353 t356 t368 (t368.length : Int) (wrap64 (x32_1 + 1))) else (some (Op.bytesLess t374.toList t375.toList))))) = some r := by rw [if_pos rfl] at H; exact H
                      clear H
                      have H := H1
                      clear H1
                      replace H := Option.bind_eq_some_iff.mp H
                      obtain ⟨t374, A270, H⟩ := H
                      replace H : ((spec_Value.f k1 t356 ((rd_T59 t368 x32_1).f0)).bind fun t375 => (if t374.toList = t375.toList then (spec_SetBefore.l0 k1 t353 t356 t368 (t368.length : Int) (wrap64 (x32_1 + 1))) else (some (Op.bytesLess t374.toList t375.toList)))) = some r := H
                      have A27 := Aside0.mk A270
                      clear A270
                      replace H := Option.bind_eq_some_iff.mp H
                      obtain ⟨t375, A280, H⟩ := H
                      replace H : (if t374.toList = t375.toList then (spec_SetBefore.l0 k1 t353 t356 t368 (t368.length : Int) (wrap64 (x32_1 + 1))) else (some (Op.bytesLess t374.toList t375.toList))) = some r := H
                      have A28 := Aside0.mk A280
                      clear A280
                      by_cases c29 : t374.toList = t375.toList
                      · rw [if_pos c29] at H
                        have c29b0 : (t374.toList == t375.toList) = true := beq_iff_eq.mpr c29
                        have c29b1 : (t374.toList != t375.toList) = false := bne_eq_false_iff_eq.mpr c29
                        clear c29
                        have H' := Aside0.mk H
                        clear H
                        have p371 : 0 ≤ (x32_1 : Int) := of_decide_eq_true (by first | (with_reducible assumption) | assumption)
                        have q371 : x32_1 < (t368.length : Int) := of_decide_eq_true (by first | (with_reducible assumption) | assumption)
                        obtain ⟨ad371, e371, hx371_0, hx371_1⟩ := at_T59 (Kd.R_reads' HO_7.out).2.2 x32_1 p371 q371
                        cases e371
                        replace p371 := eq_true p371
                        replace q371 := eq_true q371
                        go_wp2_with (first | ((with_reducible refine gate_callee (f := 27) rfl ?_); refine goesL_ _ rfl rfl Try.func27 (by kernel_rfl) rfl #[.slice Ao11 t353.length co11, .string ((rd_T59 t368 x32_1).f0)] rfl (by (try simp only [List.map_toArray, List.map_cons, List.map_nil]); first | done | rfl | (simp only [List.length_drop, List.length_take]; rfl)) ?_; (with_reducible refine (spec_Has.calls k1 _ _ t353 ((rd_T59 t368 x32_1).f0) true _ ?side1 ?side2 A23.out).mono ?_); (case side1 => repeat (first | exact (Kd.R_reads' HO_5.out).2.2 | (with_reducible refine Kd.C_alloc ?_ _) | (with_reducible refine Kd.C_drewN ?_ _) | (with_reducible refine Kd.C_drew ?_))); (case side2 => exact (Kd.R_reads' HO_5.out).2.1); rintro e w' ⟨rfl, ⟨nd, rfl⟩⟩; refine ⟨_, rfl, ?_⟩) | ((with_reducible refine gate_callee (f := 27) rfl ?_); refine goesL_ _ rfl rfl Try.func27 (by kernel_rfl) rfl #[.slice Ao12 t356.length co12, .string ((rd_T59 t368 x32_1).f0)] rfl (by (try simp only [List.map_toArray, List.map_cons, List.map_nil]); first | done | rfl | (simp only [List.length_drop, List.length_take]; rfl)) ?_; (with_reducible refine (spec_Has.calls k1 _ _ t356 ((rd_T59 t368 x32_1).f0) true _ ?side1 ?side2 A25.out).mono ?_); (case side1 => repeat (first | exact (Kd.R_reads' HO_6.out).2.2 | (with_reducible refine Kd.C_alloc ?_ _) | (with_reducible refine Kd.C_drewN ?_ _) | (with_reducible refine Kd.C_drew ?_))); (case side2 => exact (Kd.R_reads' HO_6.out).2.1); rintro e w' ⟨rfl, ⟨nd, rfl⟩⟩; refine ⟨_, rfl, ?_⟩) | ((with_reducible refine gate_callee (f := 26) rfl ?_); refine goesL_ _ rfl rfl Try.func26 (by kernel_rfl) rfl #[.slice Ao11 t353.length co11, .string ((rd_T59 t368 x32_1).f0)] rfl (by (try simp only [List.map_toArray, List.map_cons, List.map_nil]); first | done | rfl | (simp only [List.length_drop, List.length_take]; rfl)) ?_; (with_reducible refine (spec_Value.calls k1 _ _ t353 ((rd_T59 t368 x32_1).f0) t374 _ ?side1 ?side2 A27.out).mono ?_); (case side1 => repeat (first | exact (Kd.R_reads' HO_5.out).2.2 | (with_reducible refine Kd.C_alloc ?_ _) | (with_reducible refine Kd.C_drewN ?_ _) | (with_reducible refine Kd.C_drew ?_))); (case side2 => exact (Kd.R_reads' HO_5.out).2.1); rintro e w' ⟨rfl, ⟨nd, rfl⟩⟩; refine ⟨_, rfl, ?_⟩) | ((with_reducible refine gate_callee (f := 26) rfl ?_); refine goesL_ _ rfl rfl Try.func26 (by kernel_rfl) rfl #[.slice Ao12 t356.length co12, .string ((rd_T59 t368 x32_1).f0)] rfl (by (try simp only [List.map_toArray, List.map_cons, List.map_nil]); first | done | rfl | (simp only [List.length_drop, List.length_take]; rfl)) ?_; (with_reducible refine (spec_Value.calls k1 _ _ t356 ((rd_T59 t368 x32_1).f0) t375 _ ?side1 ?side2 A28.out).mono ?_); (case side1 => repeat (first | exact (Kd.R_reads' HO_6.out).2.2 | (with_reducible refine Kd.C_alloc ?_ _) | (with_reducible refine Kd.C_drewN ?_ _) | (with_reducible refine Kd.C_drew ?_))); (case side2 => exact (Kd.R_reads' HO_6.out).2.1); rintro e w' ⟨rfl, ⟨nd, rfl⟩⟩; refine ⟨_, rfl, ?_⟩))
                        go_roundg k1
                        case measure => have := HK1.out; omega
                        case rel => exact ⟨(wrap64 (x32_1 + 1)), (by first | rfl | (simp; done) | (simp [*]; done) | (simp [*, q_isEmpty]; done) | (simp [*]; exact q_gt _ _ (by assumption))), H', ⟨by have := HK1.out; omega⟩, ⟨by (with_reducible repeat (first | apply Kd.R_alloc | apply Kd.R_drewN | apply Kd.R_drew)); exact HO_5.out⟩, ⟨by (with_reducible repeat (first | apply Kd.R_alloc | apply Kd.R_drewN | apply Kd.R_drew)); exact HO_6.out⟩, ⟨by (with_reducible repeat (first | apply Kd.R_alloc | apply Kd.R_drewN | apply Kd.R_drew)); exact HO_7.out⟩, ⟨by repeat (first | (with_reducible first | exact HB.out | apply below_alloc | apply pw_below_drewN | apply below_drew1) | exact HB.out)⟩⟩
                      · rw [if_neg c29] at H
                        have c29b0 : (t374.toList == t375.toList) = false := beq_eq_false_iff_ne.mpr c29
                        have c29b1 : (t374.toList != t375.toList) = true := bne_iff_ne.mpr c29
                        obtain rfl := Option.some.inj H
                        have p371 : 0 ≤ (x32_1 : Int) := of_decide_eq_true (by first | (with_reducible assumption) | assumption)
                        have q371 : x32_1 < (t368.length : Int) := of_decide_eq_true (by first | (with_reducible assumption) | assumption)
                        obtain ⟨ad371, e371, hx371_0, hx371_1⟩ := at_T59 (Kd.R_reads' HO_7.out).2.2 x32_1 p371 q371
                        cases e371
                        replace p371 := eq_true p371
                        replace q371 := eq_true q371
                        go_wp2_with (first | ((with_reducible refine gate_callee (f := 27) rfl ?_); refine goesL_ _ rfl rfl Try.func27 (by kernel_rfl) rfl #[.slice Ao11 t353.length co11, .string ((rd_T59 t368 x32_1).f0)] rfl (by (try simp only [List.map_toArray, List.map_cons, List.map_nil]); first | done | rfl | (simp only [List.length_drop, List.length_take]; rfl)) ?_; (with_reducible refine (spec_Has.calls k1 _ _ t353 ((rd_T59 t368 x32_1).f0) true _ ?side1 ?side2 A23.out).mono ?_); (case side1 => repeat (first | exact (Kd.R_reads' HO_5.out).2.2 | (with_reducible refine Kd.C_alloc ?_ _) | (with_reducible refine Kd.C_drewN ?_ _) | (with_reducible refine Kd.C_drew ?_))); (case side2 => exact (Kd.R_reads' HO_5.out).2.1); rintro e w' ⟨rfl, ⟨nd, rfl⟩⟩; refine ⟨_, rfl, ?_⟩) | ((with_reducible refine gate_callee (f := 27) rfl ?_); refine goesL_ _ rfl rfl Try.func27 (by kernel_rfl) rfl #[.slice Ao12 t356.length co12, .string ((rd_T59 t368 x32_1).f0)] rfl (by (try simp only [List.map_toArray, List.map_cons, List.map_nil]); first | done | rfl | (simp only [List.length_drop, List.length_take]; rfl)) ?_; (with_reducible refine (spec_Has.calls k1 _ _ t356 ((rd_T59 t368 x32_1).f0) true _ ?side1 ?side2 A25.out).mono ?_); (case side1 => repeat (first | exact (Kd.R_reads' HO_6.out).2.2 | (with_reducible refine Kd.C_alloc ?_ _) | (with_reducible refine Kd.C_drewN ?_ _) | (with_reducible refine Kd.C_drew ?_))); (case side2 => exact (Kd.R_reads' HO_6.out).2.1); rintro e w' ⟨rfl, ⟨nd, rfl⟩⟩; refine ⟨_, rfl, ?_⟩) | ((with_reducible refine gate_callee (f := 26) rfl ?_); refine goesL_ _ rfl rfl Try.func26 (by kernel_rfl) rfl #[.slice Ao11 t353.length co11, .string ((rd_T59 t368 x32_1).f0)] rfl (by (try simp only [List.map_toArray, List.map_cons, List.map_nil]); first | done | rfl | (simp only [List.length_drop, List.length_take]; rfl)) ?_; (with_reducible refine (spec_Value.calls k1 _ _ t353 ((rd_T59 t368 x32_1).f0) t374 _ ?side1 ?side2 A27.out).mono ?_); (case side1 => repeat (first | exact (Kd.R_reads' HO_5.out).2.2 | (with_reducible refine Kd.C_alloc ?_ _) | (with_reducible refine Kd.C_drewN ?_ _) | (with_reducible refine Kd.C_drew ?_))); (case side2 => exact (Kd.R_reads' HO_5.out).2.1); rintro e w' ⟨rfl, ⟨nd, rfl⟩⟩; refine ⟨_, rfl, ?_⟩) | ((with_reducible refine gate_callee (f := 26) rfl ?_); refine goesL_ _ rfl rfl Try.func26 (by kernel_rfl) rfl #[.slice Ao12 t356.length co12, .string ((rd_T59 t368 x32_1).f0)] rfl (by (try simp only [List.map_toArray, List.map_cons, List.map_nil]); first | done | rfl | (simp only [List.length_drop, List.length_take]; rfl)) ?_; (with_reducible refine (spec_Value.calls k1 _ _ t356 ((rd_T59 t368 x32_1).f0) t375 _ ?side1 ?side2 A28.out).mono ?_); (case side1 => repeat (first | exact (Kd.R_reads' HO_6.out).2.2 | (with_reducible refine Kd.C_alloc ?_ _) | (with_reducible refine Kd.C_drewN ?_ _) | (with_reducible refine Kd.C_drew ?_))); (case side2 => exact (Kd.R_reads' HO_6.out).2.1); rintro e w' ⟨rfl, ⟨nd, rfl⟩⟩; refine ⟨_, rfl, ?_⟩))
                        go_ret
                        exact ⟨by first | rfl | (simp [errW_none, errW_some] <;> rfl) | (simp [*, errW_none, errW_some] <;> rfl) | (simp [*, q_isEmpty]; done) | (simp [*]; exact q_gt _ _ (by assumption)), by repeat (first | (with_reducible first | exact HB.out | apply below_alloc | apply pw_below_drewN | apply below_drew1) | exact HB.out)⟩
                    · replace c26 := Bool.eq_false_iff.mpr c26
                      subst c26
                      have H1 : (some false) = some r := by rw [if_neg (show ¬ (false = true) by decide)] at H; exact H
                      clear H
                      have H := H1
                      clear H1
                      obtain rfl := Option.some.inj H
                      have p371 : 0 ≤ (x32_1 : Int) := of_decide_eq_true (by first | (with_reducible assumption) | assumption)
                      have q371 : x32_1 < (t368.length : Int) := of_decide_eq_true (by first | (with_reducible assumption) | assumption)
                      obtain ⟨ad371, e371, hx371_0, hx371_1⟩ := at_T59 (Kd.R_reads' HO_7.out).2.2 x32_1 p371 q371
                      cases e371
                      replace p371 := eq_true p371
                      replace q371 := eq_true q371
                      go_wp2_with (first | ((with_reducible refine gate_callee (f := 27) rfl ?_); refine goesL_ _ rfl rfl Try.func27 (by kernel_rfl) rfl #[.slice Ao11 t353.length co11, .string ((rd_T59 t368 x32_1).f0)] rfl (by (try simp only [List.map_toArray, List.map_cons, List.map_nil]); first | done | rfl | (simp only [List.length_drop, List.length_take]; rfl)) ?_; (with_reducible refine (spec_Has.calls k1 _ _ t353 ((rd_T59 t368 x32_1).f0) true _ ?side1 ?side2 A23.out).mono ?_); (case side1 => repeat (first | exact (Kd.R_reads' HO_5.out).2.2 | (with_reducible refine Kd.C_alloc ?_ _) | (with_reducible refine Kd.C_drewN ?_ _) | (with_reducible refine Kd.C_drew ?_))); (case side2 => exact (Kd.R_reads' HO_5.out).2.1); rintro e w' ⟨rfl, ⟨nd, rfl⟩⟩; refine ⟨_, rfl, ?_⟩) | ((with_reducible refine gate_callee (f := 27) rfl ?_); refine goesL_ _ rfl rfl Try.func27 (by kernel_rfl) rfl #[.slice Ao12 t356.length co12, .string ((rd_T59 t368 x32_1).f0)] rfl (by (try simp only [List.map_toArray, List.map_cons, List.map_nil]); first | done | rfl | (simp only [List.length_drop, List.length_take]; rfl)) ?_; (with_reducible refine (spec_Has.calls k1 _ _ t356 ((rd_T59 t368 x32_1).f0) false _ ?side1 ?side2 A25.out).mono ?_); (case side1 => repeat (first | exact (Kd.R_reads' HO_6.out).2.2 | (with_reducible refine Kd.C_alloc ?_ _) | (with_reducible refine Kd.C_drewN ?_ _) | (with_reducible refine Kd.C_drew ?_))); (case side2 => exact (Kd.R_reads' HO_6.out).2.1); rintro e w' ⟨rfl, ⟨nd, rfl⟩⟩; refine ⟨_, rfl, ?_⟩))
                      go_ret
                      exact ⟨by first | rfl | (simp [errW_none, errW_some] <;> rfl) | (simp [*, errW_none, errW_some] <;> rfl) | (simp [*, q_isEmpty]; done) | (simp [*]; exact q_gt _ _ (by assumption)), by repeat (first | (with_reducible first | exact HB.out | apply below_alloc | apply pw_below_drewN | apply below_drew1) | exact HB.out)⟩
                  · replace c24 := Bool.eq_false_iff.mpr c24
                    subst c24
                    have H1 : (some true) = some r := by rw [if_neg (show ¬ (false = true) by decide)] at H; exact H
                    clear H
                    have H := H1
                    clear H1
                    obtain rfl := Option.some.inj H
                    have p371 : 0 ≤ (x32_1 : Int) := of_decide_eq_true (by first | (with_reducible assumption) | assumption)
                    have q371 : x32_1 < (t368.length : Int) := of_decide_eq_true (by first | (with_reducible assumption) | assumption)
                    obtain ⟨ad371, e371, hx371_0, hx371_1⟩ := at_T59 (Kd.R_reads' HO_7.out).2.2 x32_1 p371 q371
                    cases e371
                    replace p371 := eq_true p371
                    replace q371 := eq_true q371
                    go_wp2_with (first | ((with_reducible refine gate_callee (f := 27) rfl ?_); refine goesL_ _ rfl rfl Try.func27 (by kernel_rfl) rfl #[.slice Ao11 t353.length co11, .string ((rd_T59 t368 x32_1).f0)] rfl (by (try simp only [List.map_toArray, List.map_cons, List.map_nil]); first | done | rfl | (simp only [List.length_drop, List.length_take]; rfl)) ?_; (with_reducible refine (spec_Has.calls k1 _ _ t353 ((rd_T59 t368 x32_1).f0) false _ ?side1 ?side2 A23.out).mono ?_); (case side1 => repeat (first | exact (Kd.R_reads' HO_5.out).2.2 | (with_reducible refine Kd.C_alloc ?_ _) | (with_reducible refine Kd.C_drewN ?_ _) | (with_reducible refine Kd.C_drew ?_))); (case side2 => exact (Kd.R_reads' HO_5.out).2.1); rintro e w' ⟨rfl, ⟨nd, rfl⟩⟩; refine ⟨_, rfl, ?_⟩))
                    go_ret
                    exact ⟨by first | rfl | (simp [errW_none, errW_some] <;> rfl) | (simp [*, errW_none, errW_some] <;> rfl) | (simp [*, q_isEmpty]; done) | (simp [*]; exact q_gt _ _ (by assumption)), by repeat (first | (with_reducible first | exact HB.out | apply below_alloc | apply pw_below_drewN | apply below_drew1) | exact HB.out)⟩
                · rw [if_neg c22] at H
                  exact absurd H (by simp)
              · rw [if_neg c21] at H
                exact absurd H (by simp)
            · rw [if_neg c20] at H
              have c20b0 : decide (x32_1 < (t368.length : Int)) = false := decide_eq_false c20
              clear c20
              obtain rfl := Option.some.inj H
              go_wp2
              go_ret
              exact ⟨by first | rfl | (simp [errW_none, errW_some] <;> rfl) | (simp [*, errW_none, errW_some] <;> rfl) | (simp [*, q_isEmpty]; done) | (simp [*]; exact q_gt _ _ (by assumption)), by repeat (first | (with_reducible first | exact HB.out | apply below_alloc | apply pw_below_drewN | apply below_drew1) | exact HB.out)⟩
      · rw [if_neg c7] at H
        exact absurd H (by simp)
    · rw [if_neg c6] at H
      exact absurd H (by simp)
  · rw [if_neg c5] at H
    have c5b0 : ((t353.length : Int) == (t356.length : Int)) = false := beq_eq_false_iff_ne.mpr c5
    have c5b1 : ((t353.length : Int) != (t356.length : Int)) = true := bne_iff_ne.mpr c5
    have c5b2 : (t353.length == t356.length) = false := by first | simpa using c5 | (simp at c5 ⊢; omega)
    obtain rfl := Option.some.inj H
    go_enter Try.func24, Try.ntmps24
    go_wp2_with (first | ((with_reducible refine gate_callee (f := 19) rfl ?_); refine goesL_ _ rfl rfl Try.func19 (by kernel_rfl) rfl #[.slice A0 l0.length c0] rfl (by (try simp only [List.map_toArray, List.map_cons, List.map_nil]); first | done | rfl | (simp only [List.length_drop, List.length_take]; rfl)) ?_; (with_reducible refine (spec_Set.calls _ _ l0 t353 _ ?side1 ?side2 A3.out).mono ?_); (case side1 => repeat (first | exact HR0.out | (with_reducible refine Kd.C_alloc ?_ _) | (with_reducible refine Kd.C_drewN ?_ _) | (with_reducible refine Kd.C_drew ?_))); (case side2 => exact HC0.out); rintro e w30 ⟨v354, rfl, ho0, hb⟩; refine ⟨_, rfl, ?_⟩; have n0_ := Aside0.mk (Kd.R_lower ho0 (below_size (by repeat (first | (with_reducible first | exact HB.out | apply below_alloc | apply pw_below_drewN | apply below_drew1) | exact HB.out)))); have n1_ := Aside0.mk (below_step (by repeat (first | (with_reducible first | exact HB.out | apply below_alloc | apply pw_below_drewN | apply below_drew1) | exact HB.out)) hb); clear HB; have HO355 := n0_; have HB := n1_; clear n0_ n1_; (try clear hb); (try clear hb2); (try clear hk); (try clear hi); (try clear ho0); clear A3) | ((with_reducible refine gate_callee (f := 19) rfl ?_); refine goesL_ _ rfl rfl Try.func19 (by kernel_rfl) rfl #[.slice A1 l1.length c1] rfl (by (try simp only [List.map_toArray, List.map_cons, List.map_nil]); first | done | rfl | (simp only [List.length_drop, List.length_take]; rfl)) ?_; (with_reducible refine (spec_Set.calls _ _ l1 t356 _ ?side1 ?side2 A4.out).mono ?_); (case side1 => repeat (first | exact (Kd.C_below HR1.out HB.out) | (with_reducible refine Kd.C_alloc ?_ _) | (with_reducible refine Kd.C_drewN ?_ _) | (with_reducible refine Kd.C_drew ?_))); (case side2 => exact HC1.out); rintro e w31 ⟨v357, rfl, ho0, hb⟩; refine ⟨_, rfl, ?_⟩; have n0_ := Aside0.mk (Kd.R_elder' (by (with_reducible repeat (first | apply Kd.R_alloc | apply Kd.R_drewN | apply Kd.R_drew)); exact HO355.out) (Kd.R_base ho0) hb); have n1_ := Aside0.mk (Kd.R_lower (Kd.R_new' ho0 (Kd.R_lt (by (with_reducible repeat (first | apply Kd.R_alloc | apply Kd.R_drewN | apply Kd.R_drew)); exact HO355.out))) (below_size (by repeat (first | (with_reducible first | exact HB.out | apply below_alloc | apply pw_below_drewN | apply below_drew1) | exact HB.out)))); have n2_ := Aside0.mk (below_step (by repeat (first | (with_reducible first | exact HB.out | apply below_alloc | apply pw_below_drewN | apply below_drew1) | exact HB.out)) hb); clear HO355; clear HB; have HO355 := n0_; have HO358 := n1_; have HB := n2_; clear n0_ n1_ n2_; (try clear hb); (try clear hb2); (try clear hk); (try clear hi); (try clear ho0); obtain ⟨Ao32, co32, eo32⟩ := Kd.R_slice HO355.out; subst eo32; obtain ⟨Ao33, co33, eo33⟩ := Kd.R_slice HO358.out; subst eo33))
    go_ret
    exact ⟨by first | rfl | (simp [errW_none, errW_some] <;> rfl) | (simp [*, errW_none, errW_some] <;> rfl) | (simp [*, q_isEmpty]; done) | (simp [*]; exact q_gt _ _ (by assumption)), by repeat (first | (with_reducible first | exact HB.out | apply below_alloc | apply pw_below_drewN | apply below_drew1) | exact HB.out)⟩

end Go.Proofs.Ytikhlolhodgegaa.Q
