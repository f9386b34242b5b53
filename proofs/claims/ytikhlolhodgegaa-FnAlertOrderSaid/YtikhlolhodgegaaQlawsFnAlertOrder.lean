-- Printed for this seat by wip/pp.py of this repo; nothing here is trusted: Lean checks it.
import Derived.Test.YtikhlolhodgegaaQ0
import Derived.Test.YtikhlolhodgegaaHAlertB
import Derived.Test.YtikhlolhodgegaaHEqual
import Derived.Test.YtikhlolhodgegaaQlawsmuch
import Derived.Test.YtikhlolhodgegaaQlawspairs
import Derived.Test.YtikhlolhodgegaaQlawszzFits1
import Derived.Test.YtikhlolhodgegaaQspecHas
import Derived.Test.YtikhlolhodgegaaQspecValue
namespace Go.Proofs.Ytikhlolhodgegaa.Q
open Go.RowKit Go.Proofs.YtikhlolhodgegaaW.PrintWords Go.Proofs.YtikhlolhodgegaaW.PrintLast Go.Proofs.YtikhlolhodgegaaW.PrintMore
attribute [local go_sem] max2_int min2_int max_two min_two max_three min_three max_four min_four   -- for this text's walks alone
set_option linter.unusedVariables false
set_option linter.unusedSimpArgs false

/-! ### laws_FnAlertOrder: function 6 -/
mutual
def laws_FnAlertOrder.j0 : Nat → List (S26) → List (S26) → List (S26) → Bool → Option (Bool)
  | 0, _, _, _, _ => none
  | k + 1, x0, x1, x2, x25 => if x25 = true then (some true) else ((impl_AlertBefore.f (([(⟨(⟨#[106, 111, 98]⟩ : ByteArray), (⟨#[97]⟩ : ByteArray)⟩ : S26)] : List (S26))) (([(⟨(⟨#[106, 111, 98]⟩ : ByteArray), (⟨#[98]⟩ : ByteArray)⟩ : S26)] : List (S26)))).bind fun t403 => (if t403 = true then ((laws_much.f x0).bind fun t404 => (if t404 = true then (laws_FnAlertOrder.j1 k x0 x1 x2 true) else ((laws_much.f x1).bind fun t405 => (if t405 = true then (laws_FnAlertOrder.j1 k x0 x1 x2 true) else ((laws_much.f x2).bind fun t406 => (laws_FnAlertOrder.j1 k x0 x1 x2 t406)))))) else (some false)))
def laws_FnAlertOrder.j1 : Nat → List (S26) → List (S26) → List (S26) → Bool → Option (Bool)
  | 0, _, _, _, _ => none
  | k + 1, x0, x1, x2, x41 => if x41 = true then (some true) else ((impl_AlertBefore.f x0 x1).bind fun t407 => ((impl_AlertBefore.f x1 x0).bind fun t408 => ((impl_AlertBefore.f x1 x2).bind fun t409 => ((impl_AlertBefore.f x0 x2).bind fun t410 => ((laws_pairs.f k x0).bind fun t411 => ((spec_Value.f k t411 (⟨#[106, 111, 98]⟩ : ByteArray)).bind fun t414 => ((laws_pairs.f k x1).bind fun t415 => ((spec_Value.f k t415 (⟨#[106, 111, 98]⟩ : ByteArray)).bind fun t418 => ((laws_pairs.f k x0).bind fun t419 => ((spec_Has.f k t419 (⟨#[106, 111, 98]⟩ : ByteArray)).bind fun t422 => (if t422 = true then ((laws_pairs.f k x1).bind fun t423 => ((spec_Has.f k t423 (⟨#[106, 111, 98]⟩ : ByteArray)).bind fun t426 => (if t426 = true then (if t414.toList = t418.toList then (laws_FnAlertOrder.j2 k x0 x1 t407 t408 t409 t410 false) else (laws_FnAlertOrder.j2 k x0 x1 t407 t408 t409 t410 (t407 != (Op.bytesLess t414.toList t418.toList)))) else (laws_FnAlertOrder.j2 k x0 x1 t407 t408 t409 t410 false)))) else (laws_FnAlertOrder.j2 k x0 x1 t407 t408 t409 t410 false))))))))))))
def laws_FnAlertOrder.j2 : Nat → List (S26) → List (S26) → Bool → Bool → Bool → Bool → Bool → Option (Bool)
  | 0, _, _, _, _, _, _, _ => none
  | k + 1, x0, x1, x7, x8, x9, x10, x79 => if x79 = true then (some false) else ((impl_AlertBefore.f x0 x0).bind fun t427 => (if t427 = true then (some false) else (if x7 = true then (if x8 = true then (some false) else ((impl_SetEqual.f x0 x1).bind fun t428 => (if (true == (!t428)) = true then (if x9 = true then (some x10) else (some true)) else (some false)))) else ((impl_SetEqual.f x0 x1).bind fun t429 => (if (x8 == (!t429)) = true then (some true) else (some false))))))
end
def laws_FnAlertOrder.f (k : Nat) (l0 : List (S26)) (l1 : List (S26)) (l2 : List (S26)) : Option (Bool) := (laws_zzFits1.f k l0).bind fun t394 => (if t394 = true then ((laws_zzFits1.f k l1).bind fun t395 => (if t395 = true then ((laws_zzFits1.f k l2).bind fun t396 => (laws_FnAlertOrder.j0 k l0 l1 l2 (!t396))) else (laws_FnAlertOrder.j0 k l0 l1 l2 true))) else (laws_FnAlertOrder.j0 k l0 l1 l2 true))
theorem laws_FnAlertOrder.mono_l : ∀ k, (∀ y0 y1 y2 y3, LeO (laws_FnAlertOrder.j0 k y0 y1 y2 y3) (laws_FnAlertOrder.j0 (k + 1) y0 y1 y2 y3)) ∧ (∀ y0 y1 y2 y3, LeO (laws_FnAlertOrder.j1 k y0 y1 y2 y3) (laws_FnAlertOrder.j1 (k + 1) y0 y1 y2 y3)) ∧ (∀ y0 y1 y2 y3 y4 y5 y6, LeO (laws_FnAlertOrder.j2 k y0 y1 y2 y3 y4 y5 y6) (laws_FnAlertOrder.j2 (k + 1) y0 y1 y2 y3 y4 y5 y6))
  | 0 => ⟨fun _ _ _ _ r h => by simp [laws_FnAlertOrder.j0] at h, fun _ _ _ _ r h => by simp [laws_FnAlertOrder.j1] at h, fun _ _ _ _ _ _ _ r h => by simp [laws_FnAlertOrder.j2] at h⟩
  | k + 1 => by
    obtain ⟨ih0, ih1, ih2⟩ := laws_FnAlertOrder.mono_l k
    refine ⟨?_, ?_, ?_⟩
    · intro y0 y1 y2 y3
      unfold laws_FnAlertOrder.j0
      repeat' first
      | (with_reducible exact ih0 _ _ _ _)
      | (with_reducible exact ih1 _ _ _ _)
      | (with_reducible exact ih2 _ _ _ _ _ _ _)
      | (with_reducible exact laws_pairs.mono _ _)
      | (with_reducible exact laws_zzFits1.mono _ _)
      | (with_reducible exact spec_Has.mono _ _ _)
      | (with_reducible exact spec_Value.mono _ _ _)
      | (with_reducible exact LeO.refl _)
      | (with_reducible exact LeO.none _)
      | (with_reducible refine LeO.ite ?_ ?_)
      | (with_reducible refine LeO.bind ?_ (fun _ => ?_))
      | exact ih0 _ _ _ _
      | exact ih1 _ _ _ _
      | exact ih2 _ _ _ _ _ _ _
      | exact laws_pairs.mono _ _
      | exact laws_zzFits1.mono _ _
      | exact spec_Has.mono _ _ _
      | exact spec_Value.mono _ _ _
      | exact LeO.none _
      | refine LeO.ite ?_ ?_
      | refine LeO.bind ?_ (fun _ => ?_)
    · intro y0 y1 y2 y3
      unfold laws_FnAlertOrder.j1
      repeat' first
      | (with_reducible exact ih0 _ _ _ _)
      | (with_reducible exact ih1 _ _ _ _)
      | (with_reducible exact ih2 _ _ _ _ _ _ _)
      | (with_reducible exact laws_pairs.mono _ _)
      | (with_reducible exact laws_zzFits1.mono _ _)
      | (with_reducible exact spec_Has.mono _ _ _)
      | (with_reducible exact spec_Value.mono _ _ _)
      | (with_reducible exact LeO.refl _)
      | (with_reducible exact LeO.none _)
      | (with_reducible refine LeO.ite ?_ ?_)
      | (with_reducible refine LeO.bind ?_ (fun _ => ?_))
      | exact ih0 _ _ _ _
      | exact ih1 _ _ _ _
      | exact ih2 _ _ _ _ _ _ _
      | exact laws_pairs.mono _ _
      | exact laws_zzFits1.mono _ _
      | exact spec_Has.mono _ _ _
      | exact spec_Value.mono _ _ _
      | exact LeO.none _
      | refine LeO.ite ?_ ?_
      | refine LeO.bind ?_ (fun _ => ?_)
    · intro y0 y1 y2 y3 y4 y5 y6
      unfold laws_FnAlertOrder.j2
      repeat' first
      | (with_reducible exact ih0 _ _ _ _)
      | (with_reducible exact ih1 _ _ _ _)
      | (with_reducible exact ih2 _ _ _ _ _ _ _)
      | (with_reducible exact laws_pairs.mono _ _)
      | (with_reducible exact laws_zzFits1.mono _ _)
      | (with_reducible exact spec_Has.mono _ _ _)
      | (with_reducible exact spec_Value.mono _ _ _)
      | (with_reducible exact LeO.refl _)
      | (with_reducible exact LeO.none _)
      | (with_reducible refine LeO.ite ?_ ?_)
      | (with_reducible refine LeO.bind ?_ (fun _ => ?_))
      | exact ih0 _ _ _ _
      | exact ih1 _ _ _ _
      | exact ih2 _ _ _ _ _ _ _
      | exact laws_pairs.mono _ _
      | exact laws_zzFits1.mono _ _
      | exact spec_Has.mono _ _ _
      | exact spec_Value.mono _ _ _
      | exact LeO.none _
      | refine LeO.ite ?_ ?_
      | refine LeO.bind ?_ (fun _ => ?_)
theorem laws_FnAlertOrder.mono : ∀ a0 a1 a2 k, LeO (laws_FnAlertOrder.f k a0 a1 a2) (laws_FnAlertOrder.f (k + 1) a0 a1 a2) := by
  intro a0 a1 a2 k
  obtain ⟨ih0, ih1, ih2⟩ := laws_FnAlertOrder.mono_l k
  unfold laws_FnAlertOrder.f
  repeat' first
      | (with_reducible exact ih0 _ _ _ _)
      | (with_reducible exact ih1 _ _ _ _)
      | (with_reducible exact ih2 _ _ _ _ _ _ _)
      | (with_reducible exact laws_pairs.mono _ _)
      | (with_reducible exact laws_zzFits1.mono _ _)
      | (with_reducible exact spec_Has.mono _ _ _)
      | (with_reducible exact spec_Value.mono _ _ _)
      | (with_reducible exact LeO.refl _)
      | (with_reducible exact LeO.none _)
      | (with_reducible refine LeO.ite ?_ ?_)
      | (with_reducible refine LeO.bind ?_ (fun _ => ?_))
      | exact ih0 _ _ _ _
      | exact ih1 _ _ _ _
      | exact ih2 _ _ _ _ _ _ _
      | exact laws_pairs.mono _ _
      | exact laws_zzFits1.mono _ _
      | exact spec_Has.mono _ _ _
      | exact spec_Value.mono _ _ _
      | exact LeO.none _
      | refine LeO.ite ?_ ?_
      | refine LeO.bind ?_ (fun _ => ?_)
set_option maxHeartbeats 8000000 in
set_option maxRecDepth 100000 in
theorem laws_FnAlertOrder.calls (k : Nat) (A0 : Option Addr) (c0 : Nat) (l0 : List (S26)) (A1 : Option Addr) (c1 : Nat) (l1 : List (S26)) (A2 : Option Addr) (c2 : Nat) (l2 : List (S26)) (r : Bool) (w : World) (hr0 : Kd.C k26 w A0 l0.length l0) (hc0 : l0.length ≤ c0) (hr1 : Kd.C k26 w A1 l1.length l1) (hc1 : l1.length ≤ c1) (hr2 : Kd.C k26 w A2 l2.length l2) (hc2 : l2.length ≤ c2) (h : laws_FnAlertOrder.f k l0 l1 l2 = some r) :
    Calls Try.prog 6 #[.slice A0 l0.length c0, .slice A1 l1.length c1, .slice A2 l2.length c2] w fun e w' => e = .returned (.bool r) ∧ Below w.heap.size w w' := by
  have hu26 := Try.underlying26
  have HR0 := Aside0.mk hr0
  have HC0 := Aside0.mk hc0
  clear hr0 hc0
  have HR1 := Aside0.mk hr1
  have HC1 := Aside0.mk hc1
  clear hr1 hc1
  have HR2 := Aside0.mk hr2
  have HC2 := Aside0.mk hc2
  clear hr2 hc2
  have HB := Aside0.mk (Below.refl w.heap.size w)
  have H : ((laws_zzFits1.f k l0).bind fun t394 => (if t394 = true then ((laws_zzFits1.f k l1).bind fun t395 => (if t395 = true then ((laws_zzFits1.f k l2).bind fun t396 => (laws_FnAlertOrder.j0 k l0 l1 l2 (!t396))) else (laws_FnAlertOrder.j0 k l0 l1 l2 true))) else (laws_FnAlertOrder.j0 k l0 l1 l2 true))) = some r := h
  clear h
  have HC4 := Aside0.mk H
  clear H
  go_enter Try.func6, Try.ntmps6
  go_upto_region 1 with (fail)
  go_cut [25] (fun v25 wc => ∃ (kq : Nat) (x25_3 : Bool), v25 = .bool x25_3 ∧ Aside0 (laws_FnAlertOrder.j0 kq l0 l1 l2 x25_3 = some r) ∧ Aside0 (kq ≤ k) ∧ Aside0 (Below w.heap.size w wc))
  case first =>
    have H := HC4.out
    clear HC4
    replace H := Option.bind_eq_some_iff.mp H
    obtain ⟨t394, A50, H⟩ := H
    replace H : (if t394 = true then ((laws_zzFits1.f k l1).bind fun t395 => (if t395 = true then ((laws_zzFits1.f k l2).bind fun t396 => (laws_FnAlertOrder.j0 k l0 l1 l2 (!t396))) else (laws_FnAlertOrder.j0 k l0 l1 l2 true))) else (laws_FnAlertOrder.j0 k l0 l1 l2 true)) = some r := H
    have A5 := Aside0.mk A50
    clear A50
    by_cases c6 : t394 = true
    · subst c6
      have H1 : ((laws_zzFits1.f k l1).bind fun t395 => (if t395 = true then ((laws_zzFits1.f k l2).bind fun t396 => (laws_FnAlertOrder.j0 k l0 l1 l2 (!t396))) else (laws_FnAlertOrder.j0 k l0 l1 l2 true))) = some r := by rw [if_pos rfl] at H; exact H
      clear H
      have H := H1
      clear H1
      replace H := Option.bind_eq_some_iff.mp H
      obtain ⟨t395, A70, H⟩ := H
      replace H : (if t395 = true then ((laws_zzFits1.f k l2).bind fun t396 => (laws_FnAlertOrder.j0 k l0 l1 l2 (!t396))) else (laws_FnAlertOrder.j0 k l0 l1 l2 true)) = some r := H
      have A7 := Aside0.mk A70
      clear A70
      by_cases c8 : t395 = true
      · subst c8
        have H1 : ((laws_zzFits1.f k l2).bind fun t396 => (laws_FnAlertOrder.j0 k l0 l1 l2 (!t396))) = some r := by rw [if_pos rfl] at H; exact H
        clear H
        have H := H1
        clear H1
        replace H := Option.bind_eq_some_iff.mp H
        obtain ⟨t396, A90, H⟩ := H
        replace H : (laws_FnAlertOrder.j0 k l0 l1 l2 (!t396)) = some r := H
        have A9 := Aside0.mk A90
        clear A90
        have H' := Aside0.mk H
        clear H
        go_wp2_with (first | ((with_reducible refine gate_callee (f := 14) rfl ?_); refine goesL_ (some 14) rfl rfl Try.func14 (by kernel_rfl) rfl #[.slice A0 l0.length c0] rfl (by (try simp only [List.map_toArray, List.map_cons, List.map_nil]); first | done | rfl | (simp only [List.length_drop, List.length_take]; rfl)) ?_; (with_reducible refine (laws_zzFits1.calls k _ _ l0 true _ ?side1 ?side2 A5.out).mono ?_); (case side1 => repeat (first | exact (Kd.C_below HR0.out HB.out) | (with_reducible refine Kd.C_alloc ?_ _) | (with_reducible refine Kd.C_drewN ?_ _) | (with_reducible refine Kd.C_drew ?_))); (case side2 => exact HC0.out); rintro e w10 ⟨rfl, hb⟩; refine ⟨_, rfl, ?_⟩; have n0_ := Aside0.mk (below_step (by repeat (first | (with_reducible first | exact HB.out | apply below_alloc | apply pw_below_drewN | apply below_drew1) | exact HB.out)) hb); clear HB; have HB := n0_; clear n0_; (try clear hb); (try clear hb2); (try clear hk); (try clear hi)) | (go_at_call 14; (with_reducible refine (laws_zzFits1.calls k _ _ l1 true _ ?side1 ?side2 A7.out).mono ?_); (case side1 => repeat (first | exact (Kd.C_below HR1.out HB.out) | (with_reducible refine Kd.C_alloc ?_ _) | (with_reducible refine Kd.C_drewN ?_ _) | (with_reducible refine Kd.C_drew ?_))); (case side2 => exact HC1.out); rintro e w11 ⟨rfl, hb⟩; have n0_ := Aside0.mk (below_step (by repeat (first | (with_reducible first | exact HB.out | apply below_alloc | apply pw_below_drewN | apply below_drew1) | exact HB.out)) hb); clear HB; have HB := n0_; clear n0_; (try clear hb); (try clear hb2); (try clear hk); (try clear hi)) | (go_at_call 14; (with_reducible refine (laws_zzFits1.calls k _ _ l2 t396 _ ?side1 ?side2 A9.out).mono ?_); (case side1 => repeat (first | exact (Kd.C_below HR2.out HB.out) | (with_reducible refine Kd.C_alloc ?_ _) | (with_reducible refine Kd.C_drewN ?_ _) | (with_reducible refine Kd.C_drew ?_))); (case side2 => exact HC2.out); rintro e w12 ⟨rfl, hb⟩; have n0_ := Aside0.mk (below_step (by repeat (first | (with_reducible first | exact HB.out | apply below_alloc | apply pw_below_drewN | apply below_drew1) | exact HB.out)) hb); clear HB; have HB := n0_; clear n0_; (try clear hb); (try clear hb2); (try clear hk); (try clear hi)))
        go_meet
        case rel => exact ⟨_, (!t396), (by first | rfl | (simp; done) | (simp [*]; done) | (simp [*, q_isEmpty]; done) | (simp [*]; exact q_gt _ _ (by assumption))), H', ⟨by first | omega | exact Nat.le_refl _⟩, ⟨by repeat (first | (with_reducible first | exact HB.out | apply below_alloc | apply pw_below_drewN | apply below_drew1) | exact HB.out)⟩⟩
      · replace c8 := Bool.eq_false_iff.mpr c8
        subst c8
        have H1 : (laws_FnAlertOrder.j0 k l0 l1 l2 true) = some r := by rw [if_neg (show ¬ (false = true) by decide)] at H; exact H
        clear H
        have H := H1
        clear H1
        have H' := Aside0.mk H
        clear H
        go_wp2_with (first | ((with_reducible refine gate_callee (f := 14) rfl ?_); refine goesL_ (some 14) rfl rfl Try.func14 (by kernel_rfl) rfl #[.slice A0 l0.length c0] rfl (by (try simp only [List.map_toArray, List.map_cons, List.map_nil]); first | done | rfl | (simp only [List.length_drop, List.length_take]; rfl)) ?_; (with_reducible refine (laws_zzFits1.calls k _ _ l0 true _ ?side1 ?side2 A5.out).mono ?_); (case side1 => repeat (first | exact (Kd.C_below HR0.out HB.out) | (with_reducible refine Kd.C_alloc ?_ _) | (with_reducible refine Kd.C_drewN ?_ _) | (with_reducible refine Kd.C_drew ?_))); (case side2 => exact HC0.out); rintro e w13 ⟨rfl, hb⟩; refine ⟨_, rfl, ?_⟩; have n0_ := Aside0.mk (below_step (by repeat (first | (with_reducible first | exact HB.out | apply below_alloc | apply pw_below_drewN | apply below_drew1) | exact HB.out)) hb); clear HB; have HB := n0_; clear n0_; (try clear hb); (try clear hb2); (try clear hk); (try clear hi)) | (go_at_call 14; (with_reducible refine (laws_zzFits1.calls k _ _ l1 false _ ?side1 ?side2 A7.out).mono ?_); (case side1 => repeat (first | exact (Kd.C_below HR1.out HB.out) | (with_reducible refine Kd.C_alloc ?_ _) | (with_reducible refine Kd.C_drewN ?_ _) | (with_reducible refine Kd.C_drew ?_))); (case side2 => exact HC1.out); rintro e w14 ⟨rfl, hb⟩; have n0_ := Aside0.mk (below_step (by repeat (first | (with_reducible first | exact HB.out | apply below_alloc | apply pw_below_drewN | apply below_drew1) | exact HB.out)) hb); clear HB; have HB := n0_; clear n0_; (try clear hb); (try clear hb2); (try clear hk); (try clear hi)))
        go_meet
        case rel => exact ⟨_, (true), (by first | rfl | (simp; done) | (simp [*]; done) | (simp [*, q_isEmpty]; done) | (simp [*]; exact q_gt _ _ (by assumption))), H', ⟨by first | omega | exact Nat.le_refl _⟩, ⟨by repeat (first | (with_reducible first | exact HB.out | apply below_alloc | apply pw_below_drewN | apply below_drew1) | exact HB.out)⟩⟩
    · replace c6 := Bool.eq_false_iff.mpr c6
      subst c6
      have H1 : (laws_FnAlertOrder.j0 k l0 l1 l2 true) = some r := by rw [if_neg (show ¬ (false = true) by decide)] at H; exact H
      clear H
      have H := H1
      clear H1
      have H' := Aside0.mk H
      clear H
      go_wp2_with (first | ((with_reducible refine gate_callee (f := 14) rfl ?_); refine goesL_ (some 14) rfl rfl Try.func14 (by kernel_rfl) rfl #[.slice A0 l0.length c0] rfl (by (try simp only [List.map_toArray, List.map_cons, List.map_nil]); first | done | rfl | (simp only [List.length_drop, List.length_take]; rfl)) ?_; (with_reducible refine (laws_zzFits1.calls k _ _ l0 false _ ?side1 ?side2 A5.out).mono ?_); (case side1 => repeat (first | exact (Kd.C_below HR0.out HB.out) | (with_reducible refine Kd.C_alloc ?_ _) | (with_reducible refine Kd.C_drewN ?_ _) | (with_reducible refine Kd.C_drew ?_))); (case side2 => exact HC0.out); rintro e w15 ⟨rfl, hb⟩; refine ⟨_, rfl, ?_⟩; have n0_ := Aside0.mk (below_step (by repeat (first | (with_reducible first | exact HB.out | apply below_alloc | apply pw_below_drewN | apply below_drew1) | exact HB.out)) hb); clear HB; have HB := n0_; clear n0_; (try clear hb); (try clear hb2); (try clear hk); (try clear hi)))
      go_meet
      case rel => exact ⟨_, (true), (by first | rfl | (simp; done) | (simp [*]; done) | (simp [*, q_isEmpty]; done) | (simp [*]; exact q_gt _ _ (by assumption))), H', ⟨by first | omega | exact Nat.le_refl _⟩, ⟨by repeat (first | (with_reducible first | exact HB.out | apply below_alloc | apply pw_below_drewN | apply below_drew1) | exact HB.out)⟩⟩
  case rest =>
    clear HC4
    try clear c1
    try clear c2
    try clear p2
    try clear c6
    try clear c8
    try clear c14
    obtain ⟨kq, x25_3, rfl, HA, HJ3, HB⟩ := hcut
    cases kq with
    | zero => exact absurd HA.out (by simp [laws_FnAlertOrder.j0])
    | succ kj3 =>
      have H := HA.out
      clear HA
      simp only [laws_FnAlertOrder.j0] at H
      by_cases c16 : x25_3 = true
      · subst c16
        have H1 : (some true) = some r := by rw [if_pos rfl] at H; exact H
        clear H
        have H := H1
        clear H1
        obtain rfl := Option.some.inj H
        go_wp2
        go_ret
        exact ⟨by first | rfl | (simp [errW_none, errW_some] <;> rfl) | (simp [*, errW_none, errW_some] <;> rfl) | (simp [*, q_isEmpty]; done) | (simp [*]; exact q_gt _ _ (by assumption)), by repeat (first | (with_reducible first | exact HB.out | apply below_alloc | apply pw_below_drewN | apply below_drew1) | exact HB.out)⟩
      · replace c16 := Bool.eq_false_iff.mpr c16
        subst c16
        have H1 : ((impl_AlertBefore.f (([(⟨(⟨#[106, 111, 98]⟩ : ByteArray), (⟨#[97]⟩ : ByteArray)⟩ : S26)] : List (S26))) (([(⟨(⟨#[106, 111, 98]⟩ : ByteArray), (⟨#[98]⟩ : ByteArray)⟩ : S26)] : List (S26)))).bind fun t403 => (if t403 = true then ((laws_much.f l0).bind fun t404 => (if t404 = true then (laws_FnAlertOrder.j1 kj3 l0 l1 l2 true) else ((laws_much.f l1).bind fun t405 => (if t405 = true then (laws_FnAlertOrder.j1 kj3 l0 l1 l2 true) else ((laws_much.f l2).bind fun t406 => (laws_FnAlertOrder.j1 kj3 l0 l1 l2 t406)))))) else (some false))) = some r := by rw [if_neg (show ¬ (false = true) by decide)] at H; exact H
        clear H
        have H := H1
        clear H1
        obtain ⟨y397, hy397⟩ : ∃ y_ : List (S26), y_ = (([(⟨(⟨#[106, 111, 98]⟩ : ByteArray), (⟨#[97]⟩ : ByteArray)⟩ : S26)] : List (S26))) := ⟨_, rfl⟩
        replace H : ((impl_AlertBefore.f y397 (([(⟨(⟨#[106, 111, 98]⟩ : ByteArray), (⟨#[98]⟩ : ByteArray)⟩ : S26)] : List (S26)))).bind fun t403 => (if t403 = true then ((laws_much.f l0).bind fun t404 => (if t404 = true then (laws_FnAlertOrder.j1 kj3 l0 l1 l2 true) else ((laws_much.f l1).bind fun t405 => (if t405 = true then (laws_FnAlertOrder.j1 kj3 l0 l1 l2 true) else ((laws_much.f l2).bind fun t406 => (laws_FnAlertOrder.j1 kj3 l0 l1 l2 t406)))))) else (some false))) = some r := by first | (rw [hy397]; with_reducible exact H) | (have H2_ := (Option.bind_some _ _).symm.trans H; rw [hy397]; with_reducible exact H2_) | (have H2_ := (Option.bind_some _ _).symm.trans H; with_reducible exact H2_) | with_reducible exact H | (rw [hy397]; exact H) | exact H
        have Ny397 := Aside0.mk hy397
        clear hy397
        obtain ⟨y400, hy400⟩ : ∃ y_ : List (S26), y_ = (([(⟨(⟨#[106, 111, 98]⟩ : ByteArray), (⟨#[98]⟩ : ByteArray)⟩ : S26)] : List (S26))) := ⟨_, rfl⟩
        replace H : ((impl_AlertBefore.f y397 y400).bind fun t403 => (if t403 = true then ((laws_much.f l0).bind fun t404 => (if t404 = true then (laws_FnAlertOrder.j1 kj3 l0 l1 l2 true) else ((laws_much.f l1).bind fun t405 => (if t405 = true then (laws_FnAlertOrder.j1 kj3 l0 l1 l2 true) else ((laws_much.f l2).bind fun t406 => (laws_FnAlertOrder.j1 kj3 l0 l1 l2 t406)))))) else (some false))) = some r := by first | (rw [hy400]; with_reducible exact H) | (have H2_ := (Option.bind_some _ _).symm.trans H; rw [hy400]; with_reducible exact H2_) | (have H2_ := (Option.bind_some _ _).symm.trans H; with_reducible exact H2_) | with_reducible exact H | (rw [hy400]; exact H) | exact H
        have Ny400 := Aside0.mk hy400
        clear hy400
        replace H := Option.bind_eq_some_iff.mp H
        obtain ⟨t403, A170, H⟩ := H
        replace H : (if t403 = true then ((laws_much.f l0).bind fun t404 => (if t404 = true then (laws_FnAlertOrder.j1 kj3 l0 l1 l2 true) else ((laws_much.f l1).bind fun t405 => (if t405 = true then (laws_FnAlertOrder.j1 kj3 l0 l1 l2 true) else ((laws_much.f l2).bind fun t406 => (laws_FnAlertOrder.j1 kj3 l0 l1 l2 t406)))))) else (some false)) = some r := H
        have A17 := Aside0.mk A170
        clear A170
        by_cases c18 : t403 = true
        · subst c18
          have H1 : ((laws_much.f l0).bind fun t404 => (if t404 = true then (laws_FnAlertOrder.j1 kj3 l0 l1 l2 true) else ((laws_much.f l1).bind fun t405 => (if t405 = true then (laws_FnAlertOrder.j1 kj3 l0 l1 l2 true) else ((laws_much.f l2).bind fun t406 => (laws_FnAlertOrder.j1 kj3 l0 l1 l2 t406)))))) = some r := by rw [if_pos rfl] at H; exact H
          clear H
          have H := H1
          clear H1
          have HC19 := Aside0.mk H
          clear H
          go_upto_region 5 with (first | ((with_reducible refine gate_dst (N := 27) rfl ?_); refine Kd.R_lit k26 _ 26 ?hg (N := 27) ?hd (xs := ([(⟨(⟨#[106, 111, 98]⟩ : ByteArray), (⟨#[97]⟩ : ByteArray)⟩ : S26)] : List (S26))) (inner := [.string (⟨#[106, 111, 98]⟩ : ByteArray), .string (⟨#[97]⟩ : ByteArray)]) (ok := fun _ => True) (okp := fun _ => True) ?hr ?hp (fun _ hk => hk) trivial (Below.refl _ _) (Nat.le_refl _) (by simp) ?_; (case hd => rfl); (case hg => rfl); (case hr => first | (go_simp; done) | (go_simp; rfl)); (case hp => exact (Reps.c2 (show Kd.M k26 _ _ _ (⟨(⟨#[106, 111, 98]⟩ : ByteArray), (⟨#[97]⟩ : ByteArray)⟩ : S26) [.string (⟨#[106, 111, 98]⟩ : ByteArray), .string (⟨#[97]⟩ : ByteArray)] from (k26_mkM _ _ _ (⟨(⟨#[106, 111, 98]⟩ : ByteArray), (⟨#[97]⟩ : ByteArray)⟩ : S26) )) (Reps.none _ _))); intro v398 w20 ho21 hb hg_ hnew_; clear hg_ hnew_; (first | rw [← Ny397.out] at ho21 | (simp only [Int.reduceToNat] at ho21; rw [← Ny397.out] at ho21)); have n0_ := Aside0.mk (Kd.R_lower ho21 (below_size (by repeat (first | (with_reducible first | exact HB.out | apply below_alloc | apply pw_below_drewN | apply below_drew1) | exact HB.out)))); have n1_ := Aside0.mk (below_step (by repeat (first | (with_reducible first | exact HB.out | apply below_alloc | apply pw_below_drewN | apply below_drew1) | exact HB.out)) hb); clear HB; have HO399 := n0_; have HB := n1_; clear n0_ n1_; clear hb ho21) | ((with_reducible refine gate_dst (N := 29) rfl ?_); refine Kd.R_lit k26 _ 26 ?hg (N := 29) ?hd (xs := ([(⟨(⟨#[106, 111, 98]⟩ : ByteArray), (⟨#[98]⟩ : ByteArray)⟩ : S26)] : List (S26))) (inner := [.string (⟨#[106, 111, 98]⟩ : ByteArray), .string (⟨#[98]⟩ : ByteArray)]) (ok := fun _ => True) (okp := fun _ => True) ?hr ?hp (fun _ hk => hk) trivial (Below.refl _ _) (Nat.le_refl _) (by simp) ?_; (case hd => rfl); (case hg => rfl); (case hr => first | (go_simp; done) | (go_simp; rfl)); (case hp => exact (Reps.c2 (show Kd.M k26 _ _ _ (⟨(⟨#[106, 111, 98]⟩ : ByteArray), (⟨#[98]⟩ : ByteArray)⟩ : S26) [.string (⟨#[106, 111, 98]⟩ : ByteArray), .string (⟨#[98]⟩ : ByteArray)] from (k26_mkM _ _ _ (⟨(⟨#[106, 111, 98]⟩ : ByteArray), (⟨#[98]⟩ : ByteArray)⟩ : S26) )) (Reps.none _ _))); intro v401 w22 ho23 hb hg_ hnew_; clear hg_ hnew_; (first | rw [← Ny400.out] at ho23 | (simp only [Int.reduceToNat] at ho23; rw [← Ny400.out] at ho23)); have n0_ := Aside0.mk (Kd.R_elder' (by (with_reducible repeat (first | apply Kd.R_alloc | apply Kd.R_drewN | apply Kd.R_drew)); exact HO399.out) (Kd.R_base ho23) hb); have n1_ := Aside0.mk (Kd.R_lower (Kd.R_new' ho23 (Kd.R_lt (by (with_reducible repeat (first | apply Kd.R_alloc | apply Kd.R_drewN | apply Kd.R_drew)); exact HO399.out))) (below_size (by repeat (first | (with_reducible first | exact HB.out | apply below_alloc | apply pw_below_drewN | apply below_drew1) | exact HB.out)))); have n2_ := Aside0.mk (below_step (by repeat (first | (with_reducible first | exact HB.out | apply below_alloc | apply pw_below_drewN | apply below_drew1) | exact HB.out)) hb); clear HO399; clear HB; have HO399 := n0_; have HO402 := n1_; have HB := n2_; clear n0_ n1_ n2_; clear hb ho23; obtain ⟨Ao24, co24, eo24⟩ := Kd.R_slice HO399.out; subst eo24; obtain ⟨Ao25, co25, eo25⟩ := Kd.R_slice HO402.out; subst eo25) | ((with_reducible refine gate_callee (f := 25) rfl ?_); refine goesL_ (some 30) rfl rfl Try.func25 (by kernel_rfl) rfl #[.slice Ao24 y397.length co24, .slice Ao25 y400.length co25] rfl (by (try simp only [List.map_toArray, List.map_cons, List.map_nil]); first | done | rfl | (simp only [List.length_drop, List.length_take]; rfl)) ?_; (with_reducible refine (impl_AlertBefore.calls _ _ y397 _ _ y400 true _ ?side1 ?side2 ?side3 ?side4 A17.out).mono ?_); (case side1 => repeat (first | exact (Kd.R_reads' HO399.out).2.2 | (with_reducible refine Kd.C_alloc ?_ _) | (with_reducible refine Kd.C_drewN ?_ _) | (with_reducible refine Kd.C_drew ?_))); (case side2 => exact (Kd.R_reads' HO399.out).2.1); (case side3 => repeat (first | exact (Kd.R_reads' HO402.out).2.2 | (with_reducible refine Kd.C_alloc ?_ _) | (with_reducible refine Kd.C_drewN ?_ _) | (with_reducible refine Kd.C_drew ?_))); (case side4 => exact (Kd.R_reads' HO402.out).2.1); rintro e w26 ⟨rfl, hb⟩; refine ⟨_, rfl, ?_⟩; have n0_ := Aside0.mk (Kd.R_below (by (with_reducible repeat (first | apply Kd.R_alloc | apply Kd.R_drewN | apply Kd.R_drew)); exact HO399.out) hb); have n1_ := Aside0.mk (Kd.R_below (by (with_reducible repeat (first | apply Kd.R_alloc | apply Kd.R_drewN | apply Kd.R_drew)); exact HO402.out) hb); have n2_ := Aside0.mk (below_step (by repeat (first | (with_reducible first | exact HB.out | apply below_alloc | apply pw_below_drewN | apply below_drew1) | exact HB.out)) hb); clear HO399; clear HO402; clear HB; have HO399 := n0_; have HO402 := n1_; have HB := n2_; clear n0_ n1_ n2_; (try clear hb); (try clear hb2); (try clear hk); (try clear hi)))
          (try simp only [Act.put, List.setIfInBounds_toArray, List.set_cons_zero, List.set_cons_succ])
          go_cut [41] (fun v41 wc => ∃ (kq : Nat) (x41_18 : Bool), v41 = .bool x41_18 ∧ Aside0 (laws_FnAlertOrder.j1 kq l0 l1 l2 x41_18 = some r) ∧ Aside0 (kq ≤ kj3) ∧ Aside0 (Below w.heap.size w wc))
          case first =>
            have H := HC19.out
            clear HC19
            replace H := Option.bind_eq_some_iff.mp H
            obtain ⟨t404, A270, H⟩ := H
            replace H : (if t404 = true then (laws_FnAlertOrder.j1 kj3 l0 l1 l2 true) else ((laws_much.f l1).bind fun t405 => (if t405 = true then (laws_FnAlertOrder.j1 kj3 l0 l1 l2 true) else ((laws_much.f l2).bind fun t406 => (laws_FnAlertOrder.j1 kj3 l0 l1 l2 t406))))) = some r := H
            have A27 := Aside0.mk A270
            clear A270
            by_cases c28 : t404 = true
            · subst c28
              have H1 : (laws_FnAlertOrder.j1 kj3 l0 l1 l2 true) = some r := by rw [if_pos rfl] at H; exact H
              clear H
              have H := H1
              clear H1
              have H' := Aside0.mk H
              clear H
              go_wp2_with (first | ((with_reducible refine gate_callee (f := 16) rfl ?_); refine goesL_ (some 33) rfl rfl Try.func16 (by kernel_rfl) rfl #[.slice A0 l0.length c0] rfl (by (try simp only [List.map_toArray, List.map_cons, List.map_nil]); first | done | rfl | (simp only [List.length_drop, List.length_take]; rfl)) ?_; (with_reducible refine (laws_much.calls _ _ l0 true _ ?side1 ?side2 A27.out).mono ?_); (case side1 => repeat (first | exact (Kd.C_below HR0.out HB.out) | (with_reducible refine Kd.C_alloc ?_ _) | (with_reducible refine Kd.C_drewN ?_ _) | (with_reducible refine Kd.C_drew ?_))); (case side2 => exact HC0.out); rintro e w' ⟨rfl, ⟨nd, rfl⟩⟩; refine ⟨_, rfl, ?_⟩))
              go_meet
              case rel => exact ⟨_, (true), (by first | rfl | (simp; done) | (simp [*]; done) | (simp [*, q_isEmpty]; done) | (simp [*]; exact q_gt _ _ (by assumption))), H', ⟨by have := HJ3.out; first | omega | exact Nat.le_refl _⟩, ⟨by repeat (first | (with_reducible first | exact HB.out | apply below_alloc | apply pw_below_drewN | apply below_drew1) | exact HB.out)⟩⟩
            · replace c28 := Bool.eq_false_iff.mpr c28
              subst c28
              have H1 : ((laws_much.f l1).bind fun t405 => (if t405 = true then (laws_FnAlertOrder.j1 kj3 l0 l1 l2 true) else ((laws_much.f l2).bind fun t406 => (laws_FnAlertOrder.j1 kj3 l0 l1 l2 t406)))) = some r := by rw [if_neg (show ¬ (false = true) by decide)] at H; exact H
              clear H
              have H := H1
              clear H1
              replace H := Option.bind_eq_some_iff.mp H
              obtain ⟨t405, A290, H⟩ := H
              replace H : (if t405 = true then (laws_FnAlertOrder.j1 kj3 l0 l1 l2 true) else ((laws_much.f l2).bind fun t406 => (laws_FnAlertOrder.j1 kj3 l0 l1 l2 t406))) = some r := H
              have A29 := Aside0.mk A290
              clear A290
              by_cases c30 : t405 = true
              · subst c30
                have H1 : (laws_FnAlertOrder.j1 kj3 l0 l1 l2 true) = some r := by rw [if_pos rfl] at H; exact H
                clear H
                have H := H1
                clear H1
                have H' := Aside0.mk H
                clear H
                go_wp2_with (first | ((with_reducible refine gate_callee (f := 16) rfl ?_); refine goesL_ (some 33) rfl rfl Try.func16 (by kernel_rfl) rfl #[.slice A0 l0.length c0] rfl (by (try simp only [List.map_toArray, List.map_cons, List.map_nil]); first | done | rfl | (simp only [List.length_drop, List.length_take]; rfl)) ?_; (with_reducible refine (laws_much.calls _ _ l0 false _ ?side1 ?side2 A27.out).mono ?_); (case side1 => repeat (first | exact (Kd.C_below HR0.out HB.out) | (with_reducible refine Kd.C_alloc ?_ _) | (with_reducible refine Kd.C_drewN ?_ _) | (with_reducible refine Kd.C_drew ?_))); (case side2 => exact HC0.out); rintro e w' ⟨rfl, ⟨nd, rfl⟩⟩; refine ⟨_, rfl, ?_⟩) | (go_at_call 16; (with_reducible refine (laws_much.calls _ _ l1 true _ ?side1 ?side2 A29.out).mono ?_); (case side1 => repeat (first | exact (Kd.C_below HR1.out (by repeat (first | (with_reducible first | exact HB.out | apply below_alloc | apply pw_below_drewN | apply below_drew1) | exact HB.out))) | (with_reducible refine Kd.C_alloc ?_ _) | (with_reducible refine Kd.C_drewN ?_ _) | (with_reducible refine Kd.C_drew ?_))); (case side2 => exact HC1.out); rintro e w' ⟨rfl, ⟨nd, rfl⟩⟩))
                go_meet
                case rel => exact ⟨_, (true), (by first | rfl | (simp; done) | (simp [*]; done) | (simp [*, q_isEmpty]; done) | (simp [*]; exact q_gt _ _ (by assumption))), H', ⟨by have := HJ3.out; first | omega | exact Nat.le_refl _⟩, ⟨by repeat (first | (with_reducible first | exact HB.out | apply below_alloc | apply pw_below_drewN | apply below_drew1) | exact HB.out)⟩⟩
              · replace c30 := Bool.eq_false_iff.mpr c30
                subst c30
                have H1 : ((laws_much.f l2).bind fun t406 => (laws_FnAlertOrder.j1 kj3 l0 l1 l2 t406)) = some r := by rw [if_neg (show ¬ (false = true) by decide)] at H; exact H
                clear H
                have H := H1
                clear H1
                replace H := Option.bind_eq_some_iff.mp H
                obtain ⟨t406, A310, H⟩ := H
                replace H : (laws_FnAlertOrder.j1 kj3 l0 l1 l2 t406) = some r := H
                have A31 := Aside0.mk A310
                clear A310
                have H' := Aside0.mk H
                clear H
                go_wp2_with (first | ((with_reducible refine gate_callee (f := 16) rfl ?_); refine goesL_ (some 33) rfl rfl Try.func16 (by kernel_rfl) rfl #[.slice A0 l0.length c0] rfl (by (try simp only [List.map_toArray, List.map_cons, List.map_nil]); first | done | rfl | (simp only [List.length_drop, List.length_take]; rfl)) ?_; (with_reducible refine (laws_much.calls _ _ l0 false _ ?side1 ?side2 A27.out).mono ?_); (case side1 => repeat (first | exact (Kd.C_below HR0.out HB.out) | (with_reducible refine Kd.C_alloc ?_ _) | (with_reducible refine Kd.C_drewN ?_ _) | (with_reducible refine Kd.C_drew ?_))); (case side2 => exact HC0.out); rintro e w' ⟨rfl, ⟨nd, rfl⟩⟩; refine ⟨_, rfl, ?_⟩) | (go_at_call 16; (with_reducible refine (laws_much.calls _ _ l1 false _ ?side1 ?side2 A29.out).mono ?_); (case side1 => repeat (first | exact (Kd.C_below HR1.out (by repeat (first | (with_reducible first | exact HB.out | apply below_alloc | apply pw_below_drewN | apply below_drew1) | exact HB.out))) | (with_reducible refine Kd.C_alloc ?_ _) | (with_reducible refine Kd.C_drewN ?_ _) | (with_reducible refine Kd.C_drew ?_))); (case side2 => exact HC1.out); rintro e w' ⟨rfl, ⟨nd, rfl⟩⟩) | (go_at_call 16; (with_reducible refine (laws_much.calls _ _ l2 t406 _ ?side1 ?side2 A31.out).mono ?_); (case side1 => repeat (first | exact (Kd.C_below HR2.out (by repeat (first | (with_reducible first | exact HB.out | apply below_alloc | apply pw_below_drewN | apply below_drew1) | exact HB.out))) | (with_reducible refine Kd.C_alloc ?_ _) | (with_reducible refine Kd.C_drewN ?_ _) | (with_reducible refine Kd.C_drew ?_))); (case side2 => exact HC2.out); rintro e w' ⟨rfl, ⟨nd, rfl⟩⟩))
                go_meet
                case rel => exact ⟨_, (t406), (by first | rfl | (simp; done) | (simp [*]; done) | (simp [*, q_isEmpty]; done) | (simp [*]; exact q_gt _ _ (by assumption))), H', ⟨by have := HJ3.out; first | omega | exact Nat.le_refl _⟩, ⟨by repeat (first | (with_reducible first | exact HB.out | apply below_alloc | apply pw_below_drewN | apply below_drew1) | exact HB.out)⟩⟩
          case rest =>
            clear HC19
            try clear c1
            try clear c2
            try clear p2
            try clear c3
            try clear c6
            try clear c8
            try clear c14
            try clear c16
            try clear c18
            try clear c25
            try clear c28
            try clear c30
            try clear p2
            obtain ⟨kq, x41_18, rfl, HA, HJ18, HB⟩ := hcut
            cases kq with
            | zero => exact absurd HA.out (by simp [laws_FnAlertOrder.j1])
            | succ kj18 =>
              have H := HA.out
              clear HA
              simp only [laws_FnAlertOrder.j1] at H
              by_cases c32 : x41_18 = true
              · subst c32
                have H1 : (some true) = some r := by rw [if_pos rfl] at H; exact H
                clear H
                have H := H1
                clear H1
                obtain rfl := Option.some.inj H
                go_wp2
                go_ret
                exact ⟨by first | rfl | (simp [errW_none, errW_some] <;> rfl) | (simp [*, errW_none, errW_some] <;> rfl) | (simp [*, q_isEmpty]; done) | (simp [*]; exact q_gt _ _ (by assumption)), by repeat (first | (with_reducible first | exact HB.out | apply below_alloc | apply pw_below_drewN | apply below_drew1) | exact HB.out)⟩
              · replace c32 := Bool.eq_false_iff.mpr c32
                subst c32
                have H1 : ((impl_AlertBefore.f l0 l1).bind fun t407 => ((impl_AlertBefore.f l1 l0).bind fun t408 => ((impl_AlertBefore.f l1 l2).bind fun t409 => ((impl_AlertBefore.f l0 l2).bind fun t410 => ((laws_pairs.f kj18 l0).bind fun t411 => ((spec_Value.f kj18 t411 (⟨#[106, 111, 98]⟩ : ByteArray)).bind fun t414 => ((laws_pairs.f kj18 l1).bind fun t415 => ((spec_Value.f kj18 t415 (⟨#[106, 111, 98]⟩ : ByteArray)).bind fun t418 => ((laws_pairs.f kj18 l0).bind fun t419 => ((spec_Has.f kj18 t419 (⟨#[106, 111, 98]⟩ : ByteArray)).bind fun t422 => (if t422 = true then ((laws_pairs.f kj18 l1).bind fun t423 => ((spec_Has.f kj18 t423 (⟨#[106, 111, 98]⟩ : ByteArray)).bind fun t426 => (if t426 = true then (if t414.toList = t418.toList then (laws_FnAlertOrder.j2 kj18 l0 l1 t407 t408 t409 t410 false) else (laws_FnAlertOrder.j2 kj18 l0 l1 t407 t408 t409 t410 (t407 != (Op.bytesLess t414.toList t418.toList)))) else (laws_FnAlertOrder.j2 kj18 l0 l1 t407 t408 t409 t410 false)))) else (laws_FnAlertOrder.j2 kj18 l0 l1 t407 t408 t409 t410 false)))))))))))) = some r := by rw [if_neg (show ¬ (false = true) by decide)] at H; exact H
                clear H
                have H := H1
                clear H1
                replace H := Option.bind_eq_some_iff.mp H
                obtain ⟨t407, A330, H⟩ := H
                replace H : ((impl_AlertBefore.f l1 l0).bind fun t408 => ((impl_AlertBefore.f l1 l2).bind fun t409 => ((impl_AlertBefore.f l0 l2).bind fun t410 => ((laws_pairs.f kj18 l0).bind fun t411 => ((spec_Value.f kj18 t411 (⟨#[106, 111, 98]⟩ : ByteArray)).bind fun t414 => ((laws_pairs.f kj18 l1).bind fun t415 => ((spec_Value.f kj18 t415 (⟨#[106, 111, 98]⟩ : ByteArray)).bind fun t418 => ((laws_pairs.f kj18 l0).bind fun t419 => ((spec_Has.f kj18 t419 (⟨#[106, 111, 98]⟩ : ByteArray)).bind fun t422 => (if t422 = true then ((laws_pairs.f kj18 l1).bind fun t423 => ((spec_Has.f kj18 t423 (⟨#[106, 111, 98]⟩ : ByteArray)).bind fun t426 => (if t426 = true then (if t414.toList = t418.toList then (laws_FnAlertOrder.j2 kj18 l0 l1 t407 t408 t409 t410 false) else (laws_FnAlertOrder.j2 kj18 l0 l1 t407 t408 t409 t410 (t407 != (Op.bytesLess t414.toList t418.toList)))) else (laws_FnAlertOrder.j2 kj18 l0 l1 t407 t408 t409 t410 false)))) else (laws_FnAlertOrder.j2 kj18 l0 l1 t407 t408 t409 t410 false))))))))))) = some r := H
                have A33 := Aside0.mk A330
                clear A330
                replace H := Option.bind_eq_some_iff.mp H
                obtain ⟨t408, A340, H⟩ := H
                replace H : ((impl_AlertBefore.f l1 l2).bind fun t409 => ((impl_AlertBefore.f l0 l2).bind fun t410 => ((laws_pairs.f kj18 l0).bind fun t411 => ((spec_Value.f kj18 t411 (⟨#[106, 111, 98]⟩ : ByteArray)).bind fun t414 => ((laws_pairs.f kj18 l1).bind fun t415 => ((spec_Value.f kj18 t415 (⟨#[106, 111, 98]⟩ : ByteArray)).bind fun t418 => ((laws_pairs.f kj18 l0).bind fun t419 => ((spec_Has.f kj18 t419 (⟨#[106, 111, 98]⟩ : ByteArray)).bind fun t422 => (if t422 = true then ((laws_pairs.f kj18 l1).bind fun t423 => ((spec_Has.f kj18 t423 (⟨#[106, 111, 98]⟩ : ByteArray)).bind fun t426 => (if t426 = true then (if t414.toList = t418.toList then (laws_FnAlertOrder.j2 kj18 l0 l1 t407 t408 t409 t410 false) else (laws_FnAlertOrder.j2 kj18 l0 l1 t407 t408 t409 t410 (t407 != (Op.bytesLess t414.toList t418.toList)))) else (laws_FnAlertOrder.j2 kj18 l0 l1 t407 t408 t409 t410 false)))) else (laws_FnAlertOrder.j2 kj18 l0 l1 t407 t408 t409 t410 false)))))))))) = some r := H
                have A34 := Aside0.mk A340
                clear A340
                replace H := Option.bind_eq_some_iff.mp H
                obtain ⟨t409, A350, H⟩ := H
                replace H : ((impl_AlertBefore.f l0 l2).bind fun t410 => ((laws_pairs.f kj18 l0).bind fun t411 => ((spec_Value.f kj18 t411 (⟨#[106, 111, 98]⟩ : ByteArray)).bind fun t414 => ((laws_pairs.f kj18 l1).bind fun t415 => ((spec_Value.f kj18 t415 (⟨#[106, 111, 98]⟩ : ByteArray)).bind fun t418 => ((laws_pairs.f kj18 l0).bind fun t419 => ((spec_Has.f kj18 t419 (⟨#[106, 111, 98]⟩ : ByteArray)).bind fun t422 => (if t422 = true then ((laws_pairs.f kj18 l1).bind fun t423 => ((spec_Has.f kj18 t423 (⟨#[106, 111, 98]⟩ : ByteArray)).bind fun t426 => (if t426 = true then (if t414.toList = t418.toList then (laws_FnAlertOrder.j2 kj18 l0 l1 t407 t408 t409 t410 false) else (laws_FnAlertOrder.j2 kj18 l0 l1 t407 t408 t409 t410 (t407 != (Op.bytesLess t414.toList t418.toList)))) else (laws_FnAlertOrder.j2 kj18 l0 l1 t407 t408 t409 t410 false)))) else (laws_FnAlertOrder.j2 kj18 l0 l1 t407 t408 t409 t410 false))))))))) = some r := H
                have A35 := Aside0.mk A350
                clear A350
                replace H := Option.bind_eq_some_iff.mp H
                obtain ⟨t410, A360, H⟩ := H
                replace H : ((laws_pairs.f kj18 l0).bind fun t411 => ((spec_Value.f kj18 t411 (⟨#[106, 111, 98]⟩ : ByteArray)).bind fun t414 => ((laws_pairs.f kj18 l1).bind fun t415 => ((spec_Value.f kj18 t415 (⟨#[106, 111, 98]⟩ : ByteArray)).bind fun t418 => ((laws_pairs.f kj18 l0).bind fun t419 => ((spec_Has.f kj18 t419 (⟨#[106, 111, 98]⟩ : ByteArray)).bind fun t422 => (if t422 = true then ((laws_pairs.f kj18 l1).bind fun t423 => ((spec_Has.f kj18 t423 (⟨#[106, 111, 98]⟩ : ByteArray)).bind fun t426 => (if t426 = true then (if t414.toList = t418.toList then (laws_FnAlertOrder.j2 kj18 l0 l1 t407 t408 t409 t410 false) else (laws_FnAlertOrder.j2 kj18 l0 l1 t407 t408 t409 t410 (t407 != (Op.bytesLess t414.toList t418.toList)))) else (laws_FnAlertOrder.j2 kj18 l0 l1 t407 t408 t409 t410 false)))) else (laws_FnAlertOrder.j2 kj18 l0 l1 t407 t408 t409 t410 false)))))))) = some r := H
                have A36 := Aside0.mk A360
                clear A360
                replace H := Option.bind_eq_some_iff.mp H
                obtain ⟨t411, A370, H⟩ := H
                replace H : ((spec_Value.f kj18 t411 (⟨#[106, 111, 98]⟩ : ByteArray)).bind fun t414 => ((laws_pairs.f kj18 l1).bind fun t415 => ((spec_Value.f kj18 t415 (⟨#[106, 111, 98]⟩ : ByteArray)).bind fun t418 => ((laws_pairs.f kj18 l0).bind fun t419 => ((spec_Has.f kj18 t419 (⟨#[106, 111, 98]⟩ : ByteArray)).bind fun t422 => (if t422 = true then ((laws_pairs.f kj18 l1).bind fun t423 => ((spec_Has.f kj18 t423 (⟨#[106, 111, 98]⟩ : ByteArray)).bind fun t426 => (if t426 = true then (if t414.toList = t418.toList then (laws_FnAlertOrder.j2 kj18 l0 l1 t407 t408 t409 t410 false) else (laws_FnAlertOrder.j2 kj18 l0 l1 t407 t408 t409 t410 (t407 != (Op.bytesLess t414.toList t418.toList)))) else (laws_FnAlertOrder.j2 kj18 l0 l1 t407 t408 t409 t410 false)))) else (laws_FnAlertOrder.j2 kj18 l0 l1 t407 t408 t409 t410 false))))))) = some r := H
                have A37 := Aside0.mk A370
                clear A370
                replace H := Option.bind_eq_some_iff.mp H
                obtain ⟨t414, A380, H⟩ := H
                replace H : ((laws_pairs.f kj18 l1).bind fun t415 => ((spec_Value.f kj18 t415 (⟨#[106, 111, 98]⟩ : ByteArray)).bind fun t418 => ((laws_pairs.f kj18 l0).bind fun t419 => ((spec_Has.f kj18 t419 (⟨#[106, 111, 98]⟩ : ByteArray)).bind fun t422 => (if t422 = true then ((laws_pairs.f kj18 l1).bind fun t423 => ((spec_Has.f kj18 t423 (⟨#[106, 111, 98]⟩ : ByteArray)).bind fun t426 => (if t426 = true then (if t414.toList = t418.toList then (laws_FnAlertOrder.j2 kj18 l0 l1 t407 t408 t409 t410 false) else (laws_FnAlertOrder.j2 kj18 l0 l1 t407 t408 t409 t410 (t407 != (Op.bytesLess t414.toList t418.toList)))) else (laws_FnAlertOrder.j2 kj18 l0 l1 t407 t408 t409 t410 false)))) else (laws_FnAlertOrder.j2 kj18 l0 l1 t407 t408 t409 t410 false)))))) = some r := H
                have A38 := Aside0.mk A380
                clear A380
                replace H := Option.bind_eq_some_iff.mp H
                obtain ⟨t415, A390, H⟩ := H
                replace H : ((spec_Value.f kj18 t415 (⟨#[106, 111, 98]⟩ : ByteArray)).bind fun t418 => ((laws_pairs.f kj18 l0).bind fun t419 => ((spec_Has.f kj18 t419 (⟨#[106, 111, 98]⟩ : ByteArray)).bind fun t422 => (if t422 = true then ((laws_pairs.f kj18 l1).bind fun t423 => ((spec_Has.f kj18 t423 (⟨#[106, 111, 98]⟩ : ByteArray)).bind fun t426 => (if t426 = true then (if t414.toList = t418.toList then (laws_FnAlertOrder.j2 kj18 l0 l1 t407 t408 t409 t410 false) else (laws_FnAlertOrder.j2 kj18 l0 l1 t407 t408 t409 t410 (t407 != (Op.bytesLess t414.toList t418.toList)))) else (laws_FnAlertOrder.j2 kj18 l0 l1 t407 t408 t409 t410 false)))) else (laws_FnAlertOrder.j2 kj18 l0 l1 t407 t408 t409 t410 false))))) = some r := H
                have A39 := Aside0.mk A390
                clear A390
                replace H := Option.bind_eq_some_iff.mp H
                obtain ⟨t418, A400, H⟩ := H
                replace H : ((laws_pairs.f kj18 l0).bind fun t419 => ((spec_Has.f kj18 t419 (⟨#[106, 111, 98]⟩ : ByteArray)).bind fun t422 => (if t422 = true then ((laws_pairs.f kj18 l1).bind fun t423 => ((spec_Has.f kj18 t423 (⟨#[106, 111, 98]⟩ : ByteArray)).bind fun t426 => (if t426 = true then (if t414.toList = t418.toList then (laws_FnAlertOrder.j2 kj18 l0 l1 t407 t408 t409 t410 false) else (laws_FnAlertOrder.j2 kj18 l0 l1 t407 t408 t409 t410 (t407 != (Op.bytesLess t414.toList t418.toList)))) else (laws_FnAlertOrder.j2 kj18 l0 l1 t407 t408 t409 t410 false)))) else (laws_FnAlertOrder.j2 kj18 l0 l1 t407 t408 t409 t410 false)))) = some r := H
                have A40 := Aside0.mk A400
                clear A400
                have HC41 := Aside0.mk H
                clear H
                go_upto_region 9 with (first | ((with_reducible refine gate_callee (f := 25) rfl ?_); refine goesL_ (some 44) rfl rfl Try.func25 (by kernel_rfl) rfl #[.slice A0 l0.length c0, .slice A1 l1.length c1] rfl (by (try simp only [List.map_toArray, List.map_cons, List.map_nil]); first | done | rfl | (simp only [List.length_drop, List.length_take]; rfl)) ?_; (with_reducible refine (impl_AlertBefore.calls _ _ l0 _ _ l1 t407 _ ?side1 ?side2 ?side3 ?side4 A33.out).mono ?_); (case side1 => repeat (first | exact (Kd.C_below HR0.out HB.out) | (with_reducible refine Kd.C_alloc ?_ _) | (with_reducible refine Kd.C_drewN ?_ _) | (with_reducible refine Kd.C_drew ?_))); (case side2 => exact HC0.out); (case side3 => repeat (first | exact (Kd.C_below HR1.out HB.out) | (with_reducible refine Kd.C_alloc ?_ _) | (with_reducible refine Kd.C_drewN ?_ _) | (with_reducible refine Kd.C_drew ?_))); (case side4 => exact HC1.out); rintro e w42 ⟨rfl, hb⟩; refine ⟨_, rfl, ?_⟩; have n0_ := Aside0.mk (below_step (by repeat (first | (with_reducible first | exact HB.out | apply below_alloc | apply pw_below_drewN | apply below_drew1) | exact HB.out)) hb); clear HB; have HB := n0_; clear n0_; (try clear hb); (try clear hb2); (try clear hk); (try clear hi)) | ((with_reducible refine gate_callee (f := 25) rfl ?_); refine goesL_ (some 47) rfl rfl Try.func25 (by kernel_rfl) rfl #[.slice A1 l1.length c1, .slice A0 l0.length c0] rfl (by (try simp only [List.map_toArray, List.map_cons, List.map_nil]); first | done | rfl | (simp only [List.length_drop, List.length_take]; rfl)) ?_; (with_reducible refine (impl_AlertBefore.calls _ _ l1 _ _ l0 t408 _ ?side1 ?side2 ?side3 ?side4 A34.out).mono ?_); (case side1 => repeat (first | exact (Kd.C_below HR1.out HB.out) | (with_reducible refine Kd.C_alloc ?_ _) | (with_reducible refine Kd.C_drewN ?_ _) | (with_reducible refine Kd.C_drew ?_))); (case side2 => exact HC1.out); (case side3 => repeat (first | exact (Kd.C_below HR0.out HB.out) | (with_reducible refine Kd.C_alloc ?_ _) | (with_reducible refine Kd.C_drewN ?_ _) | (with_reducible refine Kd.C_drew ?_))); (case side4 => exact HC0.out); rintro e w43 ⟨rfl, hb⟩; refine ⟨_, rfl, ?_⟩; have n0_ := Aside0.mk (below_step (by repeat (first | (with_reducible first | exact HB.out | apply below_alloc | apply pw_below_drewN | apply below_drew1) | exact HB.out)) hb); clear HB; have HB := n0_; clear n0_; (try clear hb); (try clear hb2); (try clear hk); (try clear hi)) | ((with_reducible refine gate_callee (f := 25) rfl ?_); refine goesL_ (some 50) rfl rfl Try.func25 (by kernel_rfl) rfl #[.slice A1 l1.length c1, .slice A2 l2.length c2] rfl (by (try simp only [List.map_toArray, List.map_cons, List.map_nil]); first | done | rfl | (simp only [List.length_drop, List.length_take]; rfl)) ?_; (with_reducible refine (impl_AlertBefore.calls _ _ l1 _ _ l2 t409 _ ?side1 ?side2 ?side3 ?side4 A35.out).mono ?_); (case side1 => repeat (first | exact (Kd.C_below HR1.out HB.out) | (with_reducible refine Kd.C_alloc ?_ _) | (with_reducible refine Kd.C_drewN ?_ _) | (with_reducible refine Kd.C_drew ?_))); (case side2 => exact HC1.out); (case side3 => repeat (first | exact (Kd.C_below HR2.out HB.out) | (with_reducible refine Kd.C_alloc ?_ _) | (with_reducible refine Kd.C_drewN ?_ _) | (with_reducible refine Kd.C_drew ?_))); (case side4 => exact HC2.out); rintro e w44 ⟨rfl, hb⟩; refine ⟨_, rfl, ?_⟩; have n0_ := Aside0.mk (below_step (by repeat (first | (with_reducible first | exact HB.out | apply below_alloc | apply pw_below_drewN | apply below_drew1) | exact HB.out)) hb); clear HB; have HB := n0_; clear n0_; (try clear hb); (try clear hb2); (try clear hk); (try clear hi)) | ((with_reducible refine gate_callee (f := 25) rfl ?_); refine goesL_ (some 53) rfl rfl Try.func25 (by kernel_rfl) rfl #[.slice A0 l0.length c0, .slice A2 l2.length c2] rfl (by (try simp only [List.map_toArray, List.map_cons, List.map_nil]); first | done | rfl | (simp only [List.length_drop, List.length_take]; rfl)) ?_; (with_reducible refine (impl_AlertBefore.calls _ _ l0 _ _ l2 t410 _ ?side1 ?side2 ?side3 ?side4 A36.out).mono ?_); (case side1 => repeat (first | exact (Kd.C_below HR0.out HB.out) | (with_reducible refine Kd.C_alloc ?_ _) | (with_reducible refine Kd.C_drewN ?_ _) | (with_reducible refine Kd.C_drew ?_))); (case side2 => exact HC0.out); (case side3 => repeat (first | exact (Kd.C_below HR2.out HB.out) | (with_reducible refine Kd.C_alloc ?_ _) | (with_reducible refine Kd.C_drewN ?_ _) | (with_reducible refine Kd.C_drew ?_))); (case side4 => exact HC2.out); rintro e w45 ⟨rfl, hb⟩; refine ⟨_, rfl, ?_⟩; have n0_ := Aside0.mk (below_step (by repeat (first | (with_reducible first | exact HB.out | apply below_alloc | apply pw_below_drewN | apply below_drew1) | exact HB.out)) hb); clear HB; have HB := n0_; clear n0_; (try clear hb); (try clear hb2); (try clear hk); (try clear hi)) | ((with_reducible refine gate_callee (f := 20) rfl ?_); refine goesL_ (some 55) rfl rfl Try.func20 (by kernel_rfl) rfl #[.slice A0 l0.length c0] rfl (by (try simp only [List.map_toArray, List.map_cons, List.map_nil]); first | done | rfl | (simp only [List.length_drop, List.length_take]; rfl)) ?_; (with_reducible refine (laws_pairs.calls kj18 _ _ l0 t411 _ ?side1 ?side2 A37.out).mono ?_); (case side1 => repeat (first | exact (Kd.C_below HR0.out HB.out) | (with_reducible refine Kd.C_alloc ?_ _) | (with_reducible refine Kd.C_drewN ?_ _) | (with_reducible refine Kd.C_drew ?_))); (case side2 => exact HC0.out); rintro e w46 ⟨v412, rfl, ho0, hb⟩; refine ⟨_, rfl, ?_⟩; have n0_ := Aside0.mk (Kd.R_lower ho0 (below_size (by repeat (first | (with_reducible first | exact HB.out | apply below_alloc | apply pw_below_drewN | apply below_drew1) | exact HB.out)))); have n1_ := Aside0.mk (below_step (by repeat (first | (with_reducible first | exact HB.out | apply below_alloc | apply pw_below_drewN | apply below_drew1) | exact HB.out)) hb); clear HB; have HO413 := n0_; have HB := n1_; clear n0_ n1_; (try clear hb); (try clear hb2); (try clear hk); (try clear hi); (try clear ho0); obtain ⟨Ao47, co47, eo47⟩ := Kd.R_slice HO413.out; subst eo47) | ((with_reducible refine gate_callee (f := 26) rfl ?_); refine goesL_ (some 56) rfl rfl Try.func26 (by kernel_rfl) rfl #[.slice Ao47 t411.length co47, .string (⟨#[106, 111, 98]⟩ : ByteArray)] rfl (by (try simp only [List.map_toArray, List.map_cons, List.map_nil]); first | done | rfl | (simp only [List.length_drop, List.length_take]; rfl)) ?_; (with_reducible refine (spec_Value.calls kj18 _ _ t411 (⟨#[106, 111, 98]⟩ : ByteArray) t414 _ ?side1 ?side2 A38.out).mono ?_); (case side1 => repeat (first | exact (Kd.R_reads' HO413.out).2.2 | (with_reducible refine Kd.C_alloc ?_ _) | (with_reducible refine Kd.C_drewN ?_ _) | (with_reducible refine Kd.C_drew ?_))); (case side2 => exact (Kd.R_reads' HO413.out).2.1); rintro e w' ⟨rfl, ⟨nd, rfl⟩⟩; refine ⟨_, rfl, ?_⟩) | ((with_reducible refine gate_callee (f := 20) rfl ?_); refine goesL_ (some 58) rfl rfl Try.func20 (by kernel_rfl) rfl #[.slice A1 l1.length c1] rfl (by (try simp only [List.map_toArray, List.map_cons, List.map_nil]); first | done | rfl | (simp only [List.length_drop, List.length_take]; rfl)) ?_; (with_reducible refine (laws_pairs.calls kj18 _ _ l1 t415 _ ?side1 ?side2 A39.out).mono ?_); (case side1 => repeat (first | exact (Kd.C_below HR1.out (by repeat (first | (with_reducible first | exact HB.out | apply below_alloc | apply pw_below_drewN | apply below_drew1) | exact HB.out))) | (with_reducible refine Kd.C_alloc ?_ _) | (with_reducible refine Kd.C_drewN ?_ _) | (with_reducible refine Kd.C_drew ?_))); (case side2 => exact HC1.out); rintro e w48 ⟨v416, rfl, ho0, hb⟩; refine ⟨_, rfl, ?_⟩; have n0_ := Aside0.mk (Kd.R_elder' (by (with_reducible repeat (first | apply Kd.R_alloc | apply Kd.R_drewN | apply Kd.R_drew)); exact HO413.out) (Kd.R_base ho0) hb); have n1_ := Aside0.mk (Kd.R_lower (Kd.R_new' ho0 (Kd.R_lt (by (with_reducible repeat (first | apply Kd.R_alloc | apply Kd.R_drewN | apply Kd.R_drew)); exact HO413.out))) (below_size (by repeat (first | (with_reducible first | exact HB.out | apply below_alloc | apply pw_below_drewN | apply below_drew1) | exact HB.out)))); have n2_ := Aside0.mk (below_step (by repeat (first | (with_reducible first | exact HB.out | apply below_alloc | apply pw_below_drewN | apply below_drew1) | exact HB.out)) hb); clear HO413; clear HB; have HO413 := n0_; have HO417 := n1_; have HB := n2_; clear n0_ n1_ n2_; (try clear hb); (try clear hb2); (try clear hk); (try clear hi); (try clear ho0); obtain ⟨Ao49, co49, eo49⟩ := Kd.R_slice HO417.out; subst eo49) | ((with_reducible refine gate_callee (f := 26) rfl ?_); refine goesL_ (some 59) rfl rfl Try.func26 (by kernel_rfl) rfl #[.slice Ao49 t415.length co49, .string (⟨#[106, 111, 98]⟩ : ByteArray)] rfl (by (try simp only [List.map_toArray, List.map_cons, List.map_nil]); first | done | rfl | (simp only [List.length_drop, List.length_take]; rfl)) ?_; (with_reducible refine (spec_Value.calls kj18 _ _ t415 (⟨#[106, 111, 98]⟩ : ByteArray) t418 _ ?side1 ?side2 A40.out).mono ?_); (case side1 => repeat (first | exact (Kd.R_reads' HO417.out).2.2 | (with_reducible refine Kd.C_alloc ?_ _) | (with_reducible refine Kd.C_drewN ?_ _) | (with_reducible refine Kd.C_drew ?_))); (case side2 => exact (Kd.R_reads' HO417.out).2.1); rintro e w' ⟨rfl, ⟨nd, rfl⟩⟩; refine ⟨_, rfl, ?_⟩))
                (try simp only [Act.put, List.setIfInBounds_toArray, List.set_cons_zero, List.set_cons_succ])
                go_cut [79] (fun v79 wc => ∃ (kq : Nat) (x79_40 : Bool), v79 = .bool x79_40 ∧ Aside0 (laws_FnAlertOrder.j2 kq l0 l1 t407 t408 t409 t410 x79_40 = some r) ∧ Aside0 (kq ≤ kj18) ∧ Aside0 (Below w.heap.size w wc))
                case first =>
                  have H := HC41.out
                  clear HC41
                  replace H := Option.bind_eq_some_iff.mp H
                  obtain ⟨t419, A500, H⟩ := H
                  replace H : ((spec_Has.f kj18 t419 (⟨#[106, 111, 98]⟩ : ByteArray)).bind fun t422 => (if t422 = true then ((laws_pairs.f kj18 l1).bind fun t423 => ((spec_Has.f kj18 t423 (⟨#[106, 111, 98]⟩ : ByteArray)).bind fun t426 => (if t426 = true then (if t414.toList = t418.toList then (laws_FnAlertOrder.j2 kj18 l0 l1 t407 t408 t409 t410 false) else (laws_FnAlertOrder.j2 kj18 l0 l1 t407 t408 t409 t410 (t407 != (Op.bytesLess t414.toList t418.toList)))) else (laws_FnAlertOrder.j2 kj18 l0 l1 t407 t408 t409 t410 false)))) else (laws_FnAlertOrder.j2 kj18 l0 l1 t407 t408 t409 t410 false))) = some r := H
                  have A50 := Aside0.mk A500
                  clear A500
                  replace H := Option.bind_eq_some_iff.mp H
                  obtain ⟨t422, A510, H⟩ := H
                  replace H : (if t422 = true then ((laws_pairs.f kj18 l1).bind fun t423 => ((spec_Has.f kj18 t423 (⟨#[106, 111, 98]⟩ : ByteArray)).bind fun t426 => (if t426 = true then (if t414.toList = t418.toList then (laws_FnAlertOrder.j2 kj18 l0 l1 t407 t408 t409 t410 false) else (laws_FnAlertOrder.j2 kj18 l0 l1 t407 t408 t409 t410 (t407 != (Op.bytesLess t414.toList t418.toList)))) else (laws_FnAlertOrder.j2 kj18 l0 l1 t407 t408 t409 t410 false)))) else (laws_FnAlertOrder.j2 kj18 l0 l1 t407 t408 t409 t410 false)) = some r := H
                  have A51 := Aside0.mk A510
                  clear A510
                  by_cases c52 : t422 = true
                  · subst c52
                    have H1 : ((laws_pairs.f kj18 l1).bind fun t423 => ((spec_Has.f kj18 t423 (⟨#[106, 111, 98]⟩ : ByteArray)).bind fun t426 => (if t426 = true then (if t414.toList = t418.toList then (laws_FnAlertOrder.j2 kj18 l0 l1 t407 t408 t409 t410 false) else (laws_FnAlertOrder.j2 kj18 l0 l1 t407 t408 t409 t410 (t407 != (Op.bytesLess t414.toList t418.toList)))) else (laws_FnAlertOrder.j2 kj18 l0 l1 t407 t408 t409 t410 false)))) = some r := by rw [if_pos rfl] at H; exact H
                    clear H
                    have H := H1
                    clear H1
                    replace H := Option.bind_eq_some_iff.mp H
                    obtain ⟨t423, A530, H⟩ := H
                    replace H : ((spec_Has.f kj18 t423 (⟨#[106, 111, 98]⟩ : ByteArray)).bind fun t426 => (if t426 = true then (if t414.toList = t418.toList then (laws_FnAlertOrder.j2 kj18 l0 l1 t407 t408 t409 t410 false) else (laws_FnAlertOrder.j2 kj18 l0 l1 t407 t408 t409 t410 (t407 != (Op.bytesLess t414.toList t418.toList)))) else (laws_FnAlertOrder.j2 kj18 l0 l1 t407 t408 t409 t410 false))) = some r := H
                    have A53 := Aside0.mk A530
                    clear A530
                    replace H := Option.bind_eq_some_iff.mp H
                    obtain ⟨t426, A540, H⟩ := H
                    replace H : (if t426 = true then (if t414.toList = t418.toList then (laws_FnAlertOrder.j2 kj18 l0 l1 t407 t408 t409 t410 false) else (laws_FnAlertOrder.j2 kj18 l0 l1 t407 t408 t409 t410 (t407 != (Op.bytesLess t414.toList t418.toList)))) else (laws_FnAlertOrder.j2 kj18 l0 l1 t407 t408 t409 t410 false)) = some r := H
                    have A54 := Aside0.mk A540
                    clear A540
                    by_cases c55 : t426 = true
                    · subst c55
                      have H1 : (if t414.toList = t418.toList then (laws_FnAlertOrder.j2 kj18 l0 l1 t407 t408 t409 t410 false) else (laws_FnAlertOrder.j2 kj18 l0 l1 t407 t408 t409 t410 (t407 != (Op.bytesLess t414.toList t418.toList)))) = some r := by rw [if_pos rfl] at H; exact H
                      clear H
                      have H := H1
                      clear H1
                      by_cases c56 : t414.toList = t418.toList
                      · rw [if_pos c56] at H
                        have c56b0 : (t414.toList == t418.toList) = true := beq_iff_eq.mpr c56
                        have c56b1 : (t414.toList != t418.toList) = false := bne_eq_false_iff_eq.mpr c56
                        clear c56
                        (first | rw [c56b0] | (simp only [i64_w, i32_w]; rw [c56b0]) | skip)
                        have H' := Aside0.mk H
                        clear H
                        go_wp2_with (first | ((with_reducible refine gate_callee (f := 20) rfl ?_); refine goesL_ (some 61) rfl rfl Try.func20 (by kernel_rfl) rfl #[.slice A0 l0.length c0] rfl (by (try simp only [List.map_toArray, List.map_cons, List.map_nil]); first | done | rfl | (simp only [List.length_drop, List.length_take]; rfl)) ?_; (with_reducible refine (laws_pairs.calls kj18 _ _ l0 t419 _ ?side1 ?side2 A50.out).mono ?_); (case side1 => repeat (first | exact (Kd.C_below HR0.out HB.out) | (with_reducible refine Kd.C_alloc ?_ _) | (with_reducible refine Kd.C_drewN ?_ _) | (with_reducible refine Kd.C_drew ?_))); (case side2 => exact HC0.out); rintro e w57 ⟨v420, rfl, ho0, hb⟩; refine ⟨_, rfl, ?_⟩; have n0_ := Aside0.mk (Kd.R_elder' (by (with_reducible repeat (first | apply Kd.R_alloc | apply Kd.R_drewN | apply Kd.R_drew)); exact HO413.out) (Kd.R_base ho0) hb); have n1_ := Aside0.mk (Kd.R_elder' (by (with_reducible repeat (first | apply Kd.R_alloc | apply Kd.R_drewN | apply Kd.R_drew)); exact HO417.out) (Kd.R_base ho0) hb); have n2_ := Aside0.mk (Kd.R_lower (Kd.R_new' (Kd.R_new' ho0 (Kd.R_lt (by (with_reducible repeat (first | apply Kd.R_alloc | apply Kd.R_drewN | apply Kd.R_drew)); exact HO413.out))) (Kd.R_lt (by (with_reducible repeat (first | apply Kd.R_alloc | apply Kd.R_drewN | apply Kd.R_drew)); exact HO417.out))) (below_size (by repeat (first | (with_reducible first | exact HB.out | apply below_alloc | apply pw_below_drewN | apply below_drew1) | exact HB.out)))); have n3_ := Aside0.mk (below_step (by repeat (first | (with_reducible first | exact HB.out | apply below_alloc | apply pw_below_drewN | apply below_drew1) | exact HB.out)) hb); clear HO413; clear HO417; clear HB; have HO413 := n0_; have HO417 := n1_; have HO421 := n2_; have HB := n3_; clear n0_ n1_ n2_ n3_; (try clear hb); (try clear hb2); (try clear hk); (try clear hi); (try clear ho0); obtain ⟨Ao58, co58, eo58⟩ := Kd.R_slice HO421.out; subst eo58; clear A50) | ((with_reducible refine gate_callee (f := 27) rfl ?_); refine goesL_ (some 62) rfl rfl Try.func27 (by kernel_rfl) rfl #[.slice Ao58 t419.length co58, .string (⟨#[106, 111, 98]⟩ : ByteArray)] rfl (by (try simp only [List.map_toArray, List.map_cons, List.map_nil]); first | done | rfl | (simp only [List.length_drop, List.length_take]; rfl)) ?_; (with_reducible refine (spec_Has.calls kj18 _ _ t419 (⟨#[106, 111, 98]⟩ : ByteArray) true _ ?side1 ?side2 A51.out).mono ?_); (case side1 => repeat (first | exact (Kd.R_reads' HO421.out).2.2 | (with_reducible refine Kd.C_alloc ?_ _) | (with_reducible refine Kd.C_drewN ?_ _) | (with_reducible refine Kd.C_drew ?_))); (case side2 => exact (Kd.R_reads' HO421.out).2.1); rintro e w' ⟨rfl, ⟨nd, rfl⟩⟩; refine ⟨_, rfl, ?_⟩) | (go_at_call 20; (with_reducible refine (laws_pairs.calls kj18 _ _ l1 t423 _ ?side1 ?side2 A53.out).mono ?_); (case side1 => repeat (first | exact (Kd.C_below HR1.out (by repeat (first | (with_reducible first | exact HB.out | apply below_alloc | apply pw_below_drewN | apply below_drew1) | exact HB.out))) | (with_reducible refine Kd.C_alloc ?_ _) | (with_reducible refine Kd.C_drewN ?_ _) | (with_reducible refine Kd.C_drew ?_))); (case side2 => exact HC1.out); rintro e w59 ⟨v424, rfl, ho0, hb⟩; have n0_ := Aside0.mk (Kd.R_elder' (by (with_reducible repeat (first | apply Kd.R_alloc | apply Kd.R_drewN | apply Kd.R_drew)); exact HO413.out) (Kd.R_base ho0) hb); have n1_ := Aside0.mk (Kd.R_elder' (by (with_reducible repeat (first | apply Kd.R_alloc | apply Kd.R_drewN | apply Kd.R_drew)); exact HO417.out) (Kd.R_base ho0) hb); have n2_ := Aside0.mk (Kd.R_elder' (by (with_reducible repeat (first | apply Kd.R_alloc | apply Kd.R_drewN | apply Kd.R_drew)); exact HO421.out) (Kd.R_base ho0) hb); have n3_ := Aside0.mk (Kd.R_lower (Kd.R_new' (Kd.R_new' (Kd.R_new' ho0 (Kd.R_lt (by (with_reducible repeat (first | apply Kd.R_alloc | apply Kd.R_drewN | apply Kd.R_drew)); exact HO413.out))) (Kd.R_lt (by (with_reducible repeat (first | apply Kd.R_alloc | apply Kd.R_drewN | apply Kd.R_drew)); exact HO417.out))) (Kd.R_lt (by (with_reducible repeat (first | apply Kd.R_alloc | apply Kd.R_drewN | apply Kd.R_drew)); exact HO421.out))) (below_size (by repeat (first | (with_reducible first | exact HB.out | apply below_alloc | apply pw_below_drewN | apply below_drew1) | exact HB.out)))); have n4_ := Aside0.mk (below_step (by repeat (first | (with_reducible first | exact HB.out | apply below_alloc | apply pw_below_drewN | apply below_drew1) | exact HB.out)) hb); clear HO413; clear HO417; clear HO421; clear HB; have HO413 := n0_; have HO417 := n1_; have HO421 := n2_; have HO425 := n3_; have HB := n4_; clear n0_ n1_ n2_ n3_ n4_; (try clear hb); (try clear hb2); (try clear hk); (try clear hi); (try clear ho0); obtain ⟨Ao60, co60, eo60⟩ := Kd.R_slice HO425.out; subst eo60) | (go_at_call 27; (with_reducible refine (spec_Has.calls kj18 _ _ t423 (⟨#[106, 111, 98]⟩ : ByteArray) true _ ?side1 ?side2 A54.out).mono ?_); (case side1 => repeat (first | exact (Kd.R_reads' HO425.out).2.2 | (with_reducible refine Kd.C_alloc ?_ _) | (with_reducible refine Kd.C_drewN ?_ _) | (with_reducible refine Kd.C_drew ?_))); (case side2 => exact (Kd.R_reads' HO425.out).2.1); rintro e w' ⟨rfl, ⟨nd, rfl⟩⟩))
                        go_meet
                        case rel => exact ⟨_, (false), (by first | rfl | (simp; done) | (simp [*]; done) | (simp [*, q_isEmpty]; done) | (simp [*]; exact q_gt _ _ (by assumption))), H', ⟨by have := HJ3.out; have := HJ18.out; first | omega | exact Nat.le_refl _⟩, ⟨by repeat (first | (with_reducible first | exact HB.out | apply below_alloc | apply pw_below_drewN | apply below_drew1) | exact HB.out)⟩⟩
                      · rw [if_neg c56] at H
                        have c56b0 : (t414.toList == t418.toList) = false := beq_eq_false_iff_ne.mpr c56
                        have c56b1 : (t414.toList != t418.toList) = true := bne_iff_ne.mpr c56
                        (first | rw [c56b0] | (simp only [i64_w, i32_w]; rw [c56b0]) | skip)
                        have H' := Aside0.mk H
                        clear H
                        go_wp2_with (first | ((with_reducible refine gate_callee (f := 20) rfl ?_); refine goesL_ (some 61) rfl rfl Try.func20 (by kernel_rfl) rfl #[.slice A0 l0.length c0] rfl (by (try simp only [List.map_toArray, List.map_cons, List.map_nil]); first | done | rfl | (simp only [List.length_drop, List.length_take]; rfl)) ?_; (with_reducible refine (laws_pairs.calls kj18 _ _ l0 t419 _ ?side1 ?side2 A50.out).mono ?_); (case side1 => repeat (first | exact (Kd.C_below HR0.out HB.out) | (with_reducible refine Kd.C_alloc ?_ _) | (with_reducible refine Kd.C_drewN ?_ _) | (with_reducible refine Kd.C_drew ?_))); (case side2 => exact HC0.out); rintro e w61 ⟨v420, rfl, ho0, hb⟩; refine ⟨_, rfl, ?_⟩; have n0_ := Aside0.mk (Kd.R_elder' (by (with_reducible repeat (first | apply Kd.R_alloc | apply Kd.R_drewN | apply Kd.R_drew)); exact HO413.out) (Kd.R_base ho0) hb); have n1_ := Aside0.mk (Kd.R_elder' (by (with_reducible repeat (first | apply Kd.R_alloc | apply Kd.R_drewN | apply Kd.R_drew)); exact HO417.out) (Kd.R_base ho0) hb); have n2_ := Aside0.mk (Kd.R_lower (Kd.R_new' (Kd.R_new' ho0 (Kd.R_lt (by (with_reducible repeat (first | apply Kd.R_alloc | apply Kd.R_drewN | apply Kd.R_drew)); exact HO413.out))) (Kd.R_lt (by (with_reducible repeat (first | apply Kd.R_alloc | apply Kd.R_drewN | apply Kd.R_drew)); exact HO417.out))) (below_size (by repeat (first | (with_reducible first | exact HB.out | apply below_alloc | apply pw_below_drewN | apply below_drew1) | exact HB.out)))); have n3_ := Aside0.mk (below_step (by repeat (first | (with_reducible first | exact HB.out | apply below_alloc | apply pw_below_drewN | apply below_drew1) | exact HB.out)) hb); clear HO413; clear HO417; clear HB; have HO413 := n0_; have HO417 := n1_; have HO421 := n2_; have HB := n3_; clear n0_ n1_ n2_ n3_; (try clear hb); (try clear hb2); (try clear hk); (try clear hi); (try clear ho0); obtain ⟨Ao62, co62, eo62⟩ := Kd.R_slice HO421.out; subst eo62; clear A50) | ((with_reducible refine gate_callee (f := 27) rfl ?_); refine goesL_ (some 62) rfl rfl Try.func27 (by kernel_rfl) rfl #[.slice Ao62 t419.length co62, .string (⟨#[106, 111, 98]⟩ : ByteArray)] rfl (by (try simp only [List.map_toArray, List.map_cons, List.map_nil]); first | done | rfl | (simp only [List.length_drop, List.length_take]; rfl)) ?_; (with_reducible refine (spec_Has.calls kj18 _ _ t419 (⟨#[106, 111, 98]⟩ : ByteArray) true _ ?side1 ?side2 A51.out).mono ?_); (case side1 => repeat (first | exact (Kd.R_reads' HO421.out).2.2 | (with_reducible refine Kd.C_alloc ?_ _) | (with_reducible refine Kd.C_drewN ?_ _) | (with_reducible refine Kd.C_drew ?_))); (case side2 => exact (Kd.R_reads' HO421.out).2.1); rintro e w' ⟨rfl, ⟨nd, rfl⟩⟩; refine ⟨_, rfl, ?_⟩) | (go_at_call 20; (with_reducible refine (laws_pairs.calls kj18 _ _ l1 t423 _ ?side1 ?side2 A53.out).mono ?_); (case side1 => repeat (first | exact (Kd.C_below HR1.out (by repeat (first | (with_reducible first | exact HB.out | apply below_alloc | apply pw_below_drewN | apply below_drew1) | exact HB.out))) | (with_reducible refine Kd.C_alloc ?_ _) | (with_reducible refine Kd.C_drewN ?_ _) | (with_reducible refine Kd.C_drew ?_))); (case side2 => exact HC1.out); rintro e w63 ⟨v424, rfl, ho0, hb⟩; have n0_ := Aside0.mk (Kd.R_elder' (by (with_reducible repeat (first | apply Kd.R_alloc | apply Kd.R_drewN | apply Kd.R_drew)); exact HO413.out) (Kd.R_base ho0) hb); have n1_ := Aside0.mk (Kd.R_elder' (by (with_reducible repeat (first | apply Kd.R_alloc | apply Kd.R_drewN | apply Kd.R_drew)); exact HO417.out) (Kd.R_base ho0) hb); have n2_ := Aside0.mk (Kd.R_elder' (by (with_reducible repeat (first | apply Kd.R_alloc | apply Kd.R_drewN | apply Kd.R_drew)); exact HO421.out) (Kd.R_base ho0) hb); have n3_ := Aside0.mk (Kd.R_lower (Kd.R_new' (Kd.R_new' (Kd.R_new' ho0 (Kd.R_lt (by (with_reducible repeat (first | apply Kd.R_alloc | apply Kd.R_drewN | apply Kd.R_drew)); exact HO413.out))) (Kd.R_lt (by (with_reducible repeat (first | apply Kd.R_alloc | apply Kd.R_drewN | apply Kd.R_drew)); exact HO417.out))) (Kd.R_lt (by (with_reducible repeat (first | apply Kd.R_alloc | apply Kd.R_drewN | apply Kd.R_drew)); exact HO421.out))) (below_size (by repeat (first | (with_reducible first | exact HB.out | apply below_alloc | apply pw_below_drewN | apply below_drew1) | exact HB.out)))); have n4_ := Aside0.mk (below_step (by repeat (first | (with_reducible first | exact HB.out | apply below_alloc | apply pw_below_drewN | apply below_drew1) | exact HB.out)) hb); clear HO413; clear HO417; clear HO421; clear HB; have HO413 := n0_; have HO417 := n1_; have HO421 := n2_; have HO425 := n3_; have HB := n4_; clear n0_ n1_ n2_ n3_ n4_; (try clear hb); (try clear hb2); (try clear hk); (try clear hi); (try clear ho0); obtain ⟨Ao64, co64, eo64⟩ := Kd.R_slice HO425.out; subst eo64) | (go_at_call 27; (with_reducible refine (spec_Has.calls kj18 _ _ t423 (⟨#[106, 111, 98]⟩ : ByteArray) true _ ?side1 ?side2 A54.out).mono ?_); (case side1 => repeat (first | exact (Kd.R_reads' HO425.out).2.2 | (with_reducible refine Kd.C_alloc ?_ _) | (with_reducible refine Kd.C_drewN ?_ _) | (with_reducible refine Kd.C_drew ?_))); (case side2 => exact (Kd.R_reads' HO425.out).2.1); rintro e w' ⟨rfl, ⟨nd, rfl⟩⟩))
                        go_meet
                        case rel => exact ⟨_, ((t407 != (Op.bytesLess t414.toList t418.toList))), (by first | rfl | (simp; done) | (simp [*]; done) | (simp [*, q_isEmpty]; done) | (simp [*]; exact q_gt _ _ (by assumption))), H', ⟨by have := HJ3.out; have := HJ18.out; first | omega | exact Nat.le_refl _⟩, ⟨by repeat (first | (with_reducible first | exact HB.out | apply below_alloc | apply pw_below_drewN | apply below_drew1) | exact HB.out)⟩⟩
                    · replace c55 := Bool.eq_false_iff.mpr c55
                      subst c55
                      have H1 : (laws_FnAlertOrder.j2 kj18 l0 l1 t407 t408 t409 t410 false) = some r := by rw [if_neg (show ¬ (false = true) by decide)] at H; exact H
                      clear H
                      have H := H1
                      clear H1
                      have H' := Aside0.mk H
                      clear H
                      go_wp2_with (first | ((with_reducible refine gate_callee (f := 20) rfl ?_); refine goesL_ (some 61) rfl rfl Try.func20 (by kernel_rfl) rfl #[.slice A0 l0.length c0] rfl (by (try simp only [List.map_toArray, List.map_cons, List.map_nil]); first | done | rfl | (simp only [List.length_drop, List.length_take]; rfl)) ?_; (with_reducible refine (laws_pairs.calls kj18 _ _ l0 t419 _ ?side1 ?side2 A50.out).mono ?_); (case side1 => repeat (first | exact (Kd.C_below HR0.out HB.out) | (with_reducible refine Kd.C_alloc ?_ _) | (with_reducible refine Kd.C_drewN ?_ _) | (with_reducible refine Kd.C_drew ?_))); (case side2 => exact HC0.out); rintro e w65 ⟨v420, rfl, ho0, hb⟩; refine ⟨_, rfl, ?_⟩; have n0_ := Aside0.mk (Kd.R_elder' (by (with_reducible repeat (first | apply Kd.R_alloc | apply Kd.R_drewN | apply Kd.R_drew)); exact HO413.out) (Kd.R_base ho0) hb); have n1_ := Aside0.mk (Kd.R_elder' (by (with_reducible repeat (first | apply Kd.R_alloc | apply Kd.R_drewN | apply Kd.R_drew)); exact HO417.out) (Kd.R_base ho0) hb); have n2_ := Aside0.mk (Kd.R_lower (Kd.R_new' (Kd.R_new' ho0 (Kd.R_lt (by (with_reducible repeat (first | apply Kd.R_alloc | apply Kd.R_drewN | apply Kd.R_drew)); exact HO413.out))) (Kd.R_lt (by (with_reducible repeat (first | apply Kd.R_alloc | apply Kd.R_drewN | apply Kd.R_drew)); exact HO417.out))) (below_size (by repeat (first | (with_reducible first | exact HB.out | apply below_alloc | apply pw_below_drewN | apply below_drew1) | exact HB.out)))); have n3_ := Aside0.mk (below_step (by repeat (first | (with_reducible first | exact HB.out | apply below_alloc | apply pw_below_drewN | apply below_drew1) | exact HB.out)) hb); clear HO413; clear HO417; clear HB; have HO413 := n0_; have HO417 := n1_; have HO421 := n2_; have HB := n3_; clear n0_ n1_ n2_ n3_; (try clear hb); (try clear hb2); (try clear hk); (try clear hi); (try clear ho0); obtain ⟨Ao66, co66, eo66⟩ := Kd.R_slice HO421.out; subst eo66; clear A50) | ((with_reducible refine gate_callee (f := 27) rfl ?_); refine goesL_ (some 62) rfl rfl Try.func27 (by kernel_rfl) rfl #[.slice Ao66 t419.length co66, .string (⟨#[106, 111, 98]⟩ : ByteArray)] rfl (by (try simp only [List.map_toArray, List.map_cons, List.map_nil]); first | done | rfl | (simp only [List.length_drop, List.length_take]; rfl)) ?_; (with_reducible refine (spec_Has.calls kj18 _ _ t419 (⟨#[106, 111, 98]⟩ : ByteArray) true _ ?side1 ?side2 A51.out).mono ?_); (case side1 => repeat (first | exact (Kd.R_reads' HO421.out).2.2 | (with_reducible refine Kd.C_alloc ?_ _) | (with_reducible refine Kd.C_drewN ?_ _) | (with_reducible refine Kd.C_drew ?_))); (case side2 => exact (Kd.R_reads' HO421.out).2.1); rintro e w' ⟨rfl, ⟨nd, rfl⟩⟩; refine ⟨_, rfl, ?_⟩) | (go_at_call 20; (with_reducible refine (laws_pairs.calls kj18 _ _ l1 t423 _ ?side1 ?side2 A53.out).mono ?_); (case side1 => repeat (first | exact (Kd.C_below HR1.out (by repeat (first | (with_reducible first | exact HB.out | apply below_alloc | apply pw_below_drewN | apply below_drew1) | exact HB.out))) | (with_reducible refine Kd.C_alloc ?_ _) | (with_reducible refine Kd.C_drewN ?_ _) | (with_reducible refine Kd.C_drew ?_))); (case side2 => exact HC1.out); rintro e w67 ⟨v424, rfl, ho0, hb⟩; have n0_ := Aside0.mk (Kd.R_elder' (by (with_reducible repeat (first | apply Kd.R_alloc | apply Kd.R_drewN | apply Kd.R_drew)); exact HO413.out) (Kd.R_base ho0) hb); have n1_ := Aside0.mk (Kd.R_elder' (by (with_reducible repeat (first | apply Kd.R_alloc | apply Kd.R_drewN | apply Kd.R_drew)); exact HO417.out) (Kd.R_base ho0) hb); have n2_ := Aside0.mk (Kd.R_elder' (by (with_reducible repeat (first | apply Kd.R_alloc | apply Kd.R_drewN | apply Kd.R_drew)); exact HO421.out) (Kd.R_base ho0) hb); have n3_ := Aside0.mk (Kd.R_lower (Kd.R_new' (Kd.R_new' (Kd.R_new' ho0 (Kd.R_lt (by (with_reducible repeat (first | apply Kd.R_alloc | apply Kd.R_drewN | apply Kd.R_drew)); exact HO413.out))) (Kd.R_lt (by (with_reducible repeat (first | apply Kd.R_alloc | apply Kd.R_drewN | apply Kd.R_drew)); exact HO417.out))) (Kd.R_lt (by (with_reducible repeat (first | apply Kd.R_alloc | apply Kd.R_drewN | apply Kd.R_drew)); exact HO421.out))) (below_size (by repeat (first | (with_reducible first | exact HB.out | apply below_alloc | apply pw_below_drewN | apply below_drew1) | exact HB.out)))); have n4_ := Aside0.mk (below_step (by repeat (first | (with_reducible first | exact HB.out | apply below_alloc | apply pw_below_drewN | apply below_drew1) | exact HB.out)) hb); clear HO413; clear HO417; clear HO421; clear HB; have HO413 := n0_; have HO417 := n1_; have HO421 := n2_; have HO425 := n3_; have HB := n4_; clear n0_ n1_ n2_ n3_ n4_; (try clear hb); (try clear hb2); (try clear hk); (try clear hi); (try clear ho0); obtain ⟨Ao68, co68, eo68⟩ := Kd.R_slice HO425.out; subst eo68) | (go_at_call 27; (with_reducible refine (spec_Has.calls kj18 _ _ t423 (⟨#[106, 111, 98]⟩ : ByteArray) false _ ?side1 ?side2 A54.out).mono ?_); (case side1 => repeat (first | exact (Kd.R_reads' HO425.out).2.2 | (with_reducible refine Kd.C_alloc ?_ _) | (with_reducible refine Kd.C_drewN ?_ _) | (with_reducible refine Kd.C_drew ?_))); (case side2 => exact (Kd.R_reads' HO425.out).2.1); rintro e w' ⟨rfl, ⟨nd, rfl⟩⟩))
                      go_meet
                      case rel => exact ⟨_, (false), (by first | rfl | (simp; done) | (simp [*]; done) | (simp [*, q_isEmpty]; done) | (simp [*]; exact q_gt _ _ (by assumption))), H', ⟨by have := HJ3.out; have := HJ18.out; first | omega | exact Nat.le_refl _⟩, ⟨by repeat (first | (with_reducible first | exact HB.out | apply below_alloc | apply pw_below_drewN | apply below_drew1) | exact HB.out)⟩⟩
                  · replace c52 := Bool.eq_false_iff.mpr c52
                    subst c52
                    have H1 : (laws_FnAlertOrder.j2 kj18 l0 l1 t407 t408 t409 t410 false) = some r := by rw [if_neg (show ¬ (false = true) by decide)] at H; exact H
                    clear H
                    have H := H1
                    clear H1
                    have H' := Aside0.mk H
                    clear H
                    go_wp2_with (first | ((with_reducible refine gate_callee (f := 20) rfl ?_); refine goesL_ (some 61) rfl rfl Try.func20 (by kernel_rfl) rfl #[.slice A0 l0.length c0] rfl (by (try simp only [List.map_toArray, List.map_cons, List.map_nil]); first | done | rfl | (simp only [List.length_drop, List.length_take]; rfl)) ?_; (with_reducible refine (laws_pairs.calls kj18 _ _ l0 t419 _ ?side1 ?side2 A50.out).mono ?_); (case side1 => repeat (first | exact (Kd.C_below HR0.out HB.out) | (with_reducible refine Kd.C_alloc ?_ _) | (with_reducible refine Kd.C_drewN ?_ _) | (with_reducible refine Kd.C_drew ?_))); (case side2 => exact HC0.out); rintro e w69 ⟨v420, rfl, ho0, hb⟩; refine ⟨_, rfl, ?_⟩; have n0_ := Aside0.mk (Kd.R_elder' (by (with_reducible repeat (first | apply Kd.R_alloc | apply Kd.R_drewN | apply Kd.R_drew)); exact HO413.out) (Kd.R_base ho0) hb); have n1_ := Aside0.mk (Kd.R_elder' (by (with_reducible repeat (first | apply Kd.R_alloc | apply Kd.R_drewN | apply Kd.R_drew)); exact HO417.out) (Kd.R_base ho0) hb); have n2_ := Aside0.mk (Kd.R_lower (Kd.R_new' (Kd.R_new' ho0 (Kd.R_lt (by (with_reducible repeat (first | apply Kd.R_alloc | apply Kd.R_drewN | apply Kd.R_drew)); exact HO413.out))) (Kd.R_lt (by (with_reducible repeat (first | apply Kd.R_alloc | apply Kd.R_drewN | apply Kd.R_drew)); exact HO417.out))) (below_size (by repeat (first | (with_reducible first | exact HB.out | apply below_alloc | apply pw_below_drewN | apply below_drew1) | exact HB.out)))); have n3_ := Aside0.mk (below_step (by repeat (first | (with_reducible first | exact HB.out | apply below_alloc | apply pw_below_drewN | apply below_drew1) | exact HB.out)) hb); clear HO413; clear HO417; clear HB; have HO413 := n0_; have HO417 := n1_; have HO421 := n2_; have HB := n3_; clear n0_ n1_ n2_ n3_; (try clear hb); (try clear hb2); (try clear hk); (try clear hi); (try clear ho0); obtain ⟨Ao70, co70, eo70⟩ := Kd.R_slice HO421.out; subst eo70) | ((with_reducible refine gate_callee (f := 27) rfl ?_); refine goesL_ (some 62) rfl rfl Try.func27 (by kernel_rfl) rfl #[.slice Ao70 t419.length co70, .string (⟨#[106, 111, 98]⟩ : ByteArray)] rfl (by (try simp only [List.map_toArray, List.map_cons, List.map_nil]); first | done | rfl | (simp only [List.length_drop, List.length_take]; rfl)) ?_; (with_reducible refine (spec_Has.calls kj18 _ _ t419 (⟨#[106, 111, 98]⟩ : ByteArray) false _ ?side1 ?side2 A51.out).mono ?_); (case side1 => repeat (first | exact (Kd.R_reads' HO421.out).2.2 | (with_reducible refine Kd.C_alloc ?_ _) | (with_reducible refine Kd.C_drewN ?_ _) | (with_reducible refine Kd.C_drew ?_))); (case side2 => exact (Kd.R_reads' HO421.out).2.1); rintro e w' ⟨rfl, ⟨nd, rfl⟩⟩; refine ⟨_, rfl, ?_⟩))
                    go_meet
                    case rel => exact ⟨_, (false), (by first | rfl | (simp; done) | (simp [*]; done) | (simp [*, q_isEmpty]; done) | (simp [*]; exact q_gt _ _ (by assumption))), H', ⟨by have := HJ3.out; have := HJ18.out; first | omega | exact Nat.le_refl _⟩, ⟨by repeat (first | (with_reducible first | exact HB.out | apply below_alloc | apply pw_below_drewN | apply below_drew1) | exact HB.out)⟩⟩
                case rest =>
                  clear HC41
                  try clear c1
                  try clear c2
                  try clear p2
                  try clear c3
                  try clear c5
                  try clear c6
                  try clear c8
                  try clear c14
                  try clear c16
                  try clear c18
                  try clear c20
                  try clear c25
                  try clear c26
                  try clear c27
                  try clear c28
                  try clear c30
                  try clear c32
                  try clear c52
                  try clear c55
                  try clear c56
                  try clear c56b0
                  try clear c56b1
                  try clear p2
                  obtain ⟨kq, x79_40, rfl, HA, HJ40, HB⟩ := hcut
                  cases kq with
                  | zero => exact absurd HA.out (by simp [laws_FnAlertOrder.j2])
                  | succ kj40 =>
                    have H := HA.out
                    clear HA
                    simp only [laws_FnAlertOrder.j2] at H
                    by_cases c71 : x79_40 = true
                    · subst c71
                      have H1 : (some false) = some r := by rw [if_pos rfl] at H; exact H
                      clear H
                      have H := H1
                      clear H1
                      obtain rfl := Option.some.inj H
                      go_wp2
                      go_ret
                      exact ⟨by first | rfl | (simp [errW_none, errW_some] <;> rfl) | (simp [*, errW_none, errW_some] <;> rfl) | (simp [*, q_isEmpty]; done) | (simp [*]; exact q_gt _ _ (by assumption)), by repeat (first | (with_reducible first | exact HB.out | apply below_alloc | apply pw_below_drewN | apply below_drew1) | exact HB.out)⟩
                    · replace c71 := Bool.eq_false_iff.mpr c71
                      subst c71
                      have H1 : ((impl_AlertBefore.f l0 l0).bind fun t427 => (if t427 = true then (some false) else (if t407 = true then (if t408 = true then (some false) else ((impl_SetEqual.f l0 l1).bind fun t428 => (if (true == (!t428)) = true then (if t409 = true then (some t410) else (some true)) else (some false)))) else ((impl_SetEqual.f l0 l1).bind fun t429 => (if (t408 == (!t429)) = true then (some true) else (some false)))))) = some r := by rw [if_neg (show ¬ (false = true) by decide)] at H; exact H
                      clear H
                      have H := H1
                      clear H1
                      replace H := Option.bind_eq_some_iff.mp H
                      obtain ⟨t427, A720, H⟩ := H
                      replace H : (if t427 = true then (some false) else (if t407 = true then (if t408 = true then (some false) else ((impl_SetEqual.f l0 l1).bind fun t428 => (if (true == (!t428)) = true then (if t409 = true then (some t410) else (some true)) else (some false)))) else ((impl_SetEqual.f l0 l1).bind fun t429 => (if (t408 == (!t429)) = true then (some true) else (some false))))) = some r := H
                      have A72 := Aside0.mk A720
                      clear A720
                      by_cases c73 : t427 = true
                      · subst c73
                        have H1 : (some false) = some r := by rw [if_pos rfl] at H; exact H
                        clear H
                        have H := H1
                        clear H1
                        obtain rfl := Option.some.inj H
                        go_wp2_with (first | ((with_reducible refine gate_callee (f := 25) rfl ?_); refine goesL_ (some 82) rfl rfl Try.func25 (by kernel_rfl) rfl #[.slice A0 l0.length c0, .slice A0 l0.length c0] rfl (by (try simp only [List.map_toArray, List.map_cons, List.map_nil]); first | done | rfl | (simp only [List.length_drop, List.length_take]; rfl)) ?_; (with_reducible refine (impl_AlertBefore.calls _ _ l0 _ _ l0 true _ ?side1 ?side2 ?side3 ?side4 A72.out).mono ?_); (case side1 => repeat (first | exact (Kd.C_below HR0.out HB.out) | (with_reducible refine Kd.C_alloc ?_ _) | (with_reducible refine Kd.C_drewN ?_ _) | (with_reducible refine Kd.C_drew ?_))); (case side2 => exact HC0.out); (case side3 => repeat (first | exact (Kd.C_below HR0.out HB.out) | (with_reducible refine Kd.C_alloc ?_ _) | (with_reducible refine Kd.C_drewN ?_ _) | (with_reducible refine Kd.C_drew ?_))); (case side4 => exact HC0.out); rintro e w74 ⟨rfl, hb⟩; refine ⟨_, rfl, ?_⟩; have n0_ := Aside0.mk (below_step (by repeat (first | (with_reducible first | exact HB.out | apply below_alloc | apply pw_below_drewN | apply below_drew1) | exact HB.out)) hb); clear HB; have HB := n0_; clear n0_; (try clear hb); (try clear hb2); (try clear hk); (try clear hi)))
                        go_ret
                        exact ⟨by first | rfl | (simp [errW_none, errW_some] <;> rfl) | (simp [*, errW_none, errW_some] <;> rfl) | (simp [*, q_isEmpty]; done) | (simp [*]; exact q_gt _ _ (by assumption)), by repeat (first | (with_reducible first | exact HB.out | apply below_alloc | apply pw_below_drewN | apply below_drew1) | exact HB.out)⟩
                      · replace c73 := Bool.eq_false_iff.mpr c73
                        subst c73
                        have H1 : (if t407 = true then (if t408 = true then (some false) else ((impl_SetEqual.f l0 l1).bind fun t428 => (if (true == (!t428)) = true then (if t409 = true then (some t410) else (some true)) else (some false)))) else ((impl_SetEqual.f l0 l1).bind fun t429 => (if (t408 == (!t429)) = true then (some true) else (some false)))) = some r := by rw [if_neg (show ¬ (false = true) by decide)] at H; exact H
                        clear H
                        have H := H1
                        clear H1
                        by_cases c75 : t407 = true
                        · subst c75
                          have H1 : (if t408 = true then (some false) else ((impl_SetEqual.f l0 l1).bind fun t428 => (if (true == (!t428)) = true then (if t409 = true then (some t410) else (some true)) else (some false)))) = some r := by rw [if_pos rfl] at H; exact H
                          clear H
                          have H := H1
                          clear H1
                          by_cases c76 : t408 = true
                          · subst c76
                            have H1 : (some false) = some r := by rw [if_pos rfl] at H; exact H
                            clear H
                            have H := H1
                            clear H1
                            obtain rfl := Option.some.inj H
                            go_wp2_with (first | ((with_reducible refine gate_callee (f := 25) rfl ?_); refine goesL_ (some 82) rfl rfl Try.func25 (by kernel_rfl) rfl #[.slice A0 l0.length c0, .slice A0 l0.length c0] rfl (by (try simp only [List.map_toArray, List.map_cons, List.map_nil]); first | done | rfl | (simp only [List.length_drop, List.length_take]; rfl)) ?_; (with_reducible refine (impl_AlertBefore.calls _ _ l0 _ _ l0 false _ ?side1 ?side2 ?side3 ?side4 A72.out).mono ?_); (case side1 => repeat (first | exact (Kd.C_below HR0.out HB.out) | (with_reducible refine Kd.C_alloc ?_ _) | (with_reducible refine Kd.C_drewN ?_ _) | (with_reducible refine Kd.C_drew ?_))); (case side2 => exact HC0.out); (case side3 => repeat (first | exact (Kd.C_below HR0.out HB.out) | (with_reducible refine Kd.C_alloc ?_ _) | (with_reducible refine Kd.C_drewN ?_ _) | (with_reducible refine Kd.C_drew ?_))); (case side4 => exact HC0.out); rintro e w77 ⟨rfl, hb⟩; refine ⟨_, rfl, ?_⟩; have n0_ := Aside0.mk (below_step (by repeat (first | (with_reducible first | exact HB.out | apply below_alloc | apply pw_below_drewN | apply below_drew1) | exact HB.out)) hb); clear HB; have HB := n0_; clear n0_; (try clear hb); (try clear hb2); (try clear hk); (try clear hi)))
                            go_ret
                            exact ⟨by first | rfl | (simp [errW_none, errW_some] <;> rfl) | (simp [*, errW_none, errW_some] <;> rfl) | (simp [*, q_isEmpty]; done) | (simp [*]; exact q_gt _ _ (by assumption)), by repeat (first | (with_reducible first | exact HB.out | apply below_alloc | apply pw_below_drewN | apply below_drew1) | exact HB.out)⟩
                          · replace c76 := Bool.eq_false_iff.mpr c76
                            subst c76
                            have H1 : ((impl_SetEqual.f l0 l1).bind fun t428 => (if (true == (!t428)) = true then (if t409 = true then (some t410) else (some true)) else (some false))) = some r := by rw [if_neg (show ¬ (false = true) by decide)] at H; exact H
                            clear H
                            have H := H1
                            clear H1
                            replace H := Option.bind_eq_some_iff.mp H
                            obtain ⟨t428, A780, H⟩ := H
                            replace H : (if (true == (!t428)) = true then (if t409 = true then (some t410) else (some true)) else (some false)) = some r := H
                            have A78 := Aside0.mk A780
                            clear A780
                            by_cases c79 : (true == (!t428)) = true
                            · rw [if_pos c79] at H
                              have c79b0 : (true == (!t428)) = true := c79
                              (try (have c79b1 : decide (true = (!t428)) = true := by simpa using c79))
                              (try (have c79b2 : (true == (!t428)) = true := by simpa using c79))
                              clear c79
                              by_cases c80 : t409 = true
                              · subst c80
                                have H1 : (some t410) = some r := by rw [if_pos rfl] at H; exact H
                                clear H
                                have H := H1
                                clear H1
                                obtain rfl := Option.some.inj H
                                go_wp2_with (first | ((with_reducible refine gate_callee (f := 25) rfl ?_); refine goesL_ (some 82) rfl rfl Try.func25 (by kernel_rfl) rfl #[.slice A0 l0.length c0, .slice A0 l0.length c0] rfl (by (try simp only [List.map_toArray, List.map_cons, List.map_nil]); first | done | rfl | (simp only [List.length_drop, List.length_take]; rfl)) ?_; (with_reducible refine (impl_AlertBefore.calls _ _ l0 _ _ l0 false _ ?side1 ?side2 ?side3 ?side4 A72.out).mono ?_); (case side1 => repeat (first | exact (Kd.C_below HR0.out HB.out) | (with_reducible refine Kd.C_alloc ?_ _) | (with_reducible refine Kd.C_drewN ?_ _) | (with_reducible refine Kd.C_drew ?_))); (case side2 => exact HC0.out); (case side3 => repeat (first | exact (Kd.C_below HR0.out HB.out) | (with_reducible refine Kd.C_alloc ?_ _) | (with_reducible refine Kd.C_drewN ?_ _) | (with_reducible refine Kd.C_drew ?_))); (case side4 => exact HC0.out); rintro e w81 ⟨rfl, hb⟩; refine ⟨_, rfl, ?_⟩; have n0_ := Aside0.mk (below_step (by repeat (first | (with_reducible first | exact HB.out | apply below_alloc | apply pw_below_drewN | apply below_drew1) | exact HB.out)) hb); clear HB; have HB := n0_; clear n0_; (try clear hb); (try clear hb2); (try clear hk); (try clear hi)) | (go_at_call 28; (with_reducible refine (impl_SetEqual.calls _ _ l0 _ _ l1 t428 _ ?side1 ?side2 ?side3 ?side4 A78.out).mono ?_); (case side1 => repeat (first | exact (Kd.C_below HR0.out HB.out) | (with_reducible refine Kd.C_alloc ?_ _) | (with_reducible refine Kd.C_drewN ?_ _) | (with_reducible refine Kd.C_drew ?_))); (case side2 => exact HC0.out); (case side3 => repeat (first | exact (Kd.C_below HR1.out HB.out) | (with_reducible refine Kd.C_alloc ?_ _) | (with_reducible refine Kd.C_drewN ?_ _) | (with_reducible refine Kd.C_drew ?_))); (case side4 => exact HC1.out); rintro e w82 ⟨rfl, hb⟩; have n0_ := Aside0.mk (below_step (by repeat (first | (with_reducible first | exact HB.out | apply below_alloc | apply pw_below_drewN | apply below_drew1) | exact HB.out)) hb); clear HB; have HB := n0_; clear n0_; (try clear hb); (try clear hb2); (try clear hk); (try clear hi)))
                                go_ret
                                exact ⟨by first | rfl | (simp [errW_none, errW_some] <;> rfl) | (simp [*, errW_none, errW_some] <;> rfl) | (simp [*, q_isEmpty]; done) | (simp [*]; exact q_gt _ _ (by assumption)), by repeat (first | (with_reducible first | exact HB.out | apply below_alloc | apply pw_below_drewN | apply below_drew1) | exact HB.out)⟩
                              · replace c80 := Bool.eq_false_iff.mpr c80
                                subst c80
                                have H1 : (some true) = some r := by rw [if_neg (show ¬ (false = true) by decide)] at H; exact H
                                clear H
                                have H := H1
                                clear H1
                                obtain rfl := Option.some.inj H
                                go_wp2_with (first | ((with_reducible refine gate_callee (f := 25) rfl ?_); refine goesL_ (some 82) rfl rfl Try.func25 (by kernel_rfl) rfl #[.slice A0 l0.length c0, .slice A0 l0.length c0] rfl (by (try simp only [List.map_toArray, List.map_cons, List.map_nil]); first | done | rfl | (simp only [List.length_drop, List.length_take]; rfl)) ?_; (with_reducible refine (impl_AlertBefore.calls _ _ l0 _ _ l0 false _ ?side1 ?side2 ?side3 ?side4 A72.out).mono ?_); (case side1 => repeat (first | exact (Kd.C_below HR0.out HB.out) | (with_reducible refine Kd.C_alloc ?_ _) | (with_reducible refine Kd.C_drewN ?_ _) | (with_reducible refine Kd.C_drew ?_))); (case side2 => exact HC0.out); (case side3 => repeat (first | exact (Kd.C_below HR0.out HB.out) | (with_reducible refine Kd.C_alloc ?_ _) | (with_reducible refine Kd.C_drewN ?_ _) | (with_reducible refine Kd.C_drew ?_))); (case side4 => exact HC0.out); rintro e w83 ⟨rfl, hb⟩; refine ⟨_, rfl, ?_⟩; have n0_ := Aside0.mk (below_step (by repeat (first | (with_reducible first | exact HB.out | apply below_alloc | apply pw_below_drewN | apply below_drew1) | exact HB.out)) hb); clear HB; have HB := n0_; clear n0_; (try clear hb); (try clear hb2); (try clear hk); (try clear hi)) | (go_at_call 28; (with_reducible refine (impl_SetEqual.calls _ _ l0 _ _ l1 t428 _ ?side1 ?side2 ?side3 ?side4 A78.out).mono ?_); (case side1 => repeat (first | exact (Kd.C_below HR0.out HB.out) | (with_reducible refine Kd.C_alloc ?_ _) | (with_reducible refine Kd.C_drewN ?_ _) | (with_reducible refine Kd.C_drew ?_))); (case side2 => exact HC0.out); (case side3 => repeat (first | exact (Kd.C_below HR1.out HB.out) | (with_reducible refine Kd.C_alloc ?_ _) | (with_reducible refine Kd.C_drewN ?_ _) | (with_reducible refine Kd.C_drew ?_))); (case side4 => exact HC1.out); rintro e w84 ⟨rfl, hb⟩; have n0_ := Aside0.mk (below_step (by repeat (first | (with_reducible first | exact HB.out | apply below_alloc | apply pw_below_drewN | apply below_drew1) | exact HB.out)) hb); clear HB; have HB := n0_; clear n0_; (try clear hb); (try clear hb2); (try clear hk); (try clear hi)))
                                go_ret
                                exact ⟨by first | rfl | (simp [errW_none, errW_some] <;> rfl) | (simp [*, errW_none, errW_some] <;> rfl) | (simp [*, q_isEmpty]; done) | (simp [*]; exact q_gt _ _ (by assumption)), by repeat (first | (with_reducible first | exact HB.out | apply below_alloc | apply pw_below_drewN | apply below_drew1) | exact HB.out)⟩
                            · rw [if_neg c79] at H
                              have c79b0 : (true == (!t428)) = false := by simpa using c79
                              (try (have c79b1 : decide (true = (!t428)) = false := by simpa using c79))
                              (try (have c79b2 : (true == (!t428)) = false := by simpa using c79))
                              (try (have c79b3 : ¬ (true = (!t428)) := by simpa using c79))
                              clear c79
                              obtain rfl := Option.some.inj H
                              go_wp2_with (first | ((with_reducible refine gate_callee (f := 25) rfl ?_); refine goesL_ (some 82) rfl rfl Try.func25 (by kernel_rfl) rfl #[.slice A0 l0.length c0, .slice A0 l0.length c0] rfl (by (try simp only [List.map_toArray, List.map_cons, List.map_nil]); first | done | rfl | (simp only [List.length_drop, List.length_take]; rfl)) ?_; (with_reducible refine (impl_AlertBefore.calls _ _ l0 _ _ l0 false _ ?side1 ?side2 ?side3 ?side4 A72.out).mono ?_); (case side1 => repeat (first | exact (Kd.C_below HR0.out HB.out) | (with_reducible refine Kd.C_alloc ?_ _) | (with_reducible refine Kd.C_drewN ?_ _) | (with_reducible refine Kd.C_drew ?_))); (case side2 => exact HC0.out); (case side3 => repeat (first | exact (Kd.C_below HR0.out HB.out) | (with_reducible refine Kd.C_alloc ?_ _) | (with_reducible refine Kd.C_drewN ?_ _) | (with_reducible refine Kd.C_drew ?_))); (case side4 => exact HC0.out); rintro e w85 ⟨rfl, hb⟩; refine ⟨_, rfl, ?_⟩; have n0_ := Aside0.mk (below_step (by repeat (first | (with_reducible first | exact HB.out | apply below_alloc | apply pw_below_drewN | apply below_drew1) | exact HB.out)) hb); clear HB; have HB := n0_; clear n0_; (try clear hb); (try clear hb2); (try clear hk); (try clear hi)) | (go_at_call 28; (with_reducible refine (impl_SetEqual.calls _ _ l0 _ _ l1 t428 _ ?side1 ?side2 ?side3 ?side4 A78.out).mono ?_); (case side1 => repeat (first | exact (Kd.C_below HR0.out HB.out) | (with_reducible refine Kd.C_alloc ?_ _) | (with_reducible refine Kd.C_drewN ?_ _) | (with_reducible refine Kd.C_drew ?_))); (case side2 => exact HC0.out); (case side3 => repeat (first | exact (Kd.C_below HR1.out HB.out) | (with_reducible refine Kd.C_alloc ?_ _) | (with_reducible refine Kd.C_drewN ?_ _) | (with_reducible refine Kd.C_drew ?_))); (case side4 => exact HC1.out); rintro e w86 ⟨rfl, hb⟩; have n0_ := Aside0.mk (below_step (by repeat (first | (with_reducible first | exact HB.out | apply below_alloc | apply pw_below_drewN | apply below_drew1) | exact HB.out)) hb); clear HB; have HB := n0_; clear n0_; (try clear hb); (try clear hb2); (try clear hk); (try clear hi)))
                              go_ret
                              exact ⟨by first | rfl | (simp [errW_none, errW_some] <;> rfl) | (simp [*, errW_none, errW_some] <;> rfl) | (simp [*, q_isEmpty]; done) | (simp [*]; exact q_gt _ _ (by assumption)), by repeat (first | (with_reducible first | exact HB.out | apply below_alloc | apply pw_below_drewN | apply below_drew1) | exact HB.out)⟩
                        · replace c75 := Bool.eq_false_iff.mpr c75
                          subst c75
                          have H1 : ((impl_SetEqual.f l0 l1).bind fun t429 => (if (t408 == (!t429)) = true then (some true) else (some false))) = some r := by rw [if_neg (show ¬ (false = true) by decide)] at H; exact H
                          clear H
                          have H := H1
                          clear H1
                          replace H := Option.bind_eq_some_iff.mp H
                          obtain ⟨t429, A870, H⟩ := H
                          replace H : (if (t408 == (!t429)) = true then (some true) else (some false)) = some r := H
                          have A87 := Aside0.mk A870
                          clear A870
                          by_cases c88 : (t408 == (!t429)) = true
                          · rw [if_pos c88] at H
                            have c88b0 : (t408 == (!t429)) = true := c88
                            (try (have c88b1 : decide (t408 = (!t429)) = true := by simpa using c88))
                            (try (have c88b2 : (t408 == (!t429)) = true := by simpa using c88))
                            clear c88
                            obtain rfl := Option.some.inj H
                            go_wp2_with (first | ((with_reducible refine gate_callee (f := 25) rfl ?_); refine goesL_ (some 82) rfl rfl Try.func25 (by kernel_rfl) rfl #[.slice A0 l0.length c0, .slice A0 l0.length c0] rfl (by (try simp only [List.map_toArray, List.map_cons, List.map_nil]); first | done | rfl | (simp only [List.length_drop, List.length_take]; rfl)) ?_; (with_reducible refine (impl_AlertBefore.calls _ _ l0 _ _ l0 false _ ?side1 ?side2 ?side3 ?side4 A72.out).mono ?_); (case side1 => repeat (first | exact (Kd.C_below HR0.out HB.out) | (with_reducible refine Kd.C_alloc ?_ _) | (with_reducible refine Kd.C_drewN ?_ _) | (with_reducible refine Kd.C_drew ?_))); (case side2 => exact HC0.out); (case side3 => repeat (first | exact (Kd.C_below HR0.out HB.out) | (with_reducible refine Kd.C_alloc ?_ _) | (with_reducible refine Kd.C_drewN ?_ _) | (with_reducible refine Kd.C_drew ?_))); (case side4 => exact HC0.out); rintro e w89 ⟨rfl, hb⟩; refine ⟨_, rfl, ?_⟩; have n0_ := Aside0.mk (below_step (by repeat (first | (with_reducible first | exact HB.out | apply below_alloc | apply pw_below_drewN | apply below_drew1) | exact HB.out)) hb); clear HB; have HB := n0_; clear n0_; (try clear hb); (try clear hb2); (try clear hk); (try clear hi)) | (go_at_call 28; (with_reducible refine (impl_SetEqual.calls _ _ l0 _ _ l1 t429 _ ?side1 ?side2 ?side3 ?side4 A87.out).mono ?_); (case side1 => repeat (first | exact (Kd.C_below HR0.out HB.out) | (with_reducible refine Kd.C_alloc ?_ _) | (with_reducible refine Kd.C_drewN ?_ _) | (with_reducible refine Kd.C_drew ?_))); (case side2 => exact HC0.out); (case side3 => repeat (first | exact (Kd.C_below HR1.out HB.out) | (with_reducible refine Kd.C_alloc ?_ _) | (with_reducible refine Kd.C_drewN ?_ _) | (with_reducible refine Kd.C_drew ?_))); (case side4 => exact HC1.out); rintro e w90 ⟨rfl, hb⟩; have n0_ := Aside0.mk (below_step (by repeat (first | (with_reducible first | exact HB.out | apply below_alloc | apply pw_below_drewN | apply below_drew1) | exact HB.out)) hb); clear HB; have HB := n0_; clear n0_; (try clear hb); (try clear hb2); (try clear hk); (try clear hi)))
                            go_ret
                            exact ⟨by first | rfl | (simp [errW_none, errW_some] <;> rfl) | (simp [*, errW_none, errW_some] <;> rfl) | (simp [*, q_isEmpty]; done) | (simp [*]; exact q_gt _ _ (by assumption)), by repeat (first | (with_reducible first | exact HB.out | apply below_alloc | apply pw_below_drewN | apply below_drew1) | exact HB.out)⟩
                          · rw [if_neg c88] at H
                            have c88b0 : (t408 == (!t429)) = false := by simpa using c88
                            (try (have c88b1 : decide (t408 = (!t429)) = false := by simpa using c88))
                            (try (have c88b2 : (t408 == (!t429)) = false := by simpa using c88))
                            (try (have c88b3 : ¬ (t408 = (!t429)) := by simpa using c88))
                            clear c88
                            obtain rfl := Option.some.inj H
                            go_wp2_with (first | ((with_reducible refine gate_callee (f := 25) rfl ?_); refine goesL_ (some 82) rfl rfl Try.func25 (by kernel_rfl) rfl #[.slice A0 l0.length c0, .slice A0 l0.length c0] rfl (by (try simp only [List.map_toArray, List.map_cons, List.map_nil]); first | done | rfl | (simp only [List.length_drop, List.length_take]; rfl)) ?_; (with_reducible refine (impl_AlertBefore.calls _ _ l0 _ _ l0 false _ ?side1 ?side2 ?side3 ?side4 A72.out).mono ?_); (case side1 => repeat (first | exact (Kd.C_below HR0.out HB.out) | (with_reducible refine Kd.C_alloc ?_ _) | (with_reducible refine Kd.C_drewN ?_ _) | (with_reducible refine Kd.C_drew ?_))); (case side2 => exact HC0.out); (case side3 => repeat (first | exact (Kd.C_below HR0.out HB.out) | (with_reducible refine Kd.C_alloc ?_ _) | (with_reducible refine Kd.C_drewN ?_ _) | (with_reducible refine Kd.C_drew ?_))); (case side4 => exact HC0.out); rintro e w91 ⟨rfl, hb⟩; refine ⟨_, rfl, ?_⟩; have n0_ := Aside0.mk (below_step (by repeat (first | (with_reducible first | exact HB.out | apply below_alloc | apply pw_below_drewN | apply below_drew1) | exact HB.out)) hb); clear HB; have HB := n0_; clear n0_; (try clear hb); (try clear hb2); (try clear hk); (try clear hi)) | (go_at_call 28; (with_reducible refine (impl_SetEqual.calls _ _ l0 _ _ l1 t429 _ ?side1 ?side2 ?side3 ?side4 A87.out).mono ?_); (case side1 => repeat (first | exact (Kd.C_below HR0.out HB.out) | (with_reducible refine Kd.C_alloc ?_ _) | (with_reducible refine Kd.C_drewN ?_ _) | (with_reducible refine Kd.C_drew ?_))); (case side2 => exact HC0.out); (case side3 => repeat (first | exact (Kd.C_below HR1.out HB.out) | (with_reducible refine Kd.C_alloc ?_ _) | (with_reducible refine Kd.C_drewN ?_ _) | (with_reducible refine Kd.C_drew ?_))); (case side4 => exact HC1.out); rintro e w92 ⟨rfl, hb⟩; have n0_ := Aside0.mk (below_step (by repeat (first | (with_reducible first | exact HB.out | apply below_alloc | apply pw_below_drewN | apply below_drew1) | exact HB.out)) hb); clear HB; have HB := n0_; clear n0_; (try clear hb); (try clear hb2); (try clear hk); (try clear hi)))
                            go_ret
                            exact ⟨by first | rfl | (simp [errW_none, errW_some] <;> rfl) | (simp [*, errW_none, errW_some] <;> rfl) | (simp [*, q_isEmpty]; done) | (simp [*]; exact q_gt _ _ (by assumption)), by repeat (first | (with_reducible first | exact HB.out | apply below_alloc | apply pw_below_drewN | apply below_drew1) | exact HB.out)⟩
        · replace c18 := Bool.eq_false_iff.mpr c18
          subst c18
          have H1 : (some false) = some r := by rw [if_neg (show ¬ (false = true) by decide)] at H; exact H
          clear H
          have H := H1
          clear H1
          obtain rfl := Option.some.inj H
          go_wp2_with (first | ((with_reducible refine gate_dst (N := 27) rfl ?_); refine Kd.R_lit k26 _ 26 ?hg (N := 27) ?hd (xs := ([(⟨(⟨#[106, 111, 98]⟩ : ByteArray), (⟨#[97]⟩ : ByteArray)⟩ : S26)] : List (S26))) (inner := [.string (⟨#[106, 111, 98]⟩ : ByteArray), .string (⟨#[97]⟩ : ByteArray)]) (ok := fun _ => True) (okp := fun _ => True) ?hr ?hp (fun _ hk => hk) trivial (Below.refl _ _) (Nat.le_refl _) (by simp) ?_; (case hd => rfl); (case hg => rfl); (case hr => first | (go_simp; done) | (go_simp; rfl)); (case hp => exact (Reps.c2 (show Kd.M k26 _ _ _ (⟨(⟨#[106, 111, 98]⟩ : ByteArray), (⟨#[97]⟩ : ByteArray)⟩ : S26) [.string (⟨#[106, 111, 98]⟩ : ByteArray), .string (⟨#[97]⟩ : ByteArray)] from (k26_mkM _ _ _ (⟨(⟨#[106, 111, 98]⟩ : ByteArray), (⟨#[97]⟩ : ByteArray)⟩ : S26) )) (Reps.none _ _))); intro v398 w93 ho94 hb hg_ hnew_; clear hg_ hnew_; (first | rw [← Ny397.out] at ho94 | (simp only [Int.reduceToNat] at ho94; rw [← Ny397.out] at ho94)); have n0_ := Aside0.mk (Kd.R_lower ho94 (below_size (by repeat (first | (with_reducible first | exact HB.out | apply below_alloc | apply pw_below_drewN | apply below_drew1) | exact HB.out)))); have n1_ := Aside0.mk (below_step (by repeat (first | (with_reducible first | exact HB.out | apply below_alloc | apply pw_below_drewN | apply below_drew1) | exact HB.out)) hb); clear HB; have HO399 := n0_; have HB := n1_; clear n0_ n1_; clear hb ho94) | ((with_reducible refine gate_dst (N := 29) rfl ?_); refine Kd.R_lit k26 _ 26 ?hg (N := 29) ?hd (xs := ([(⟨(⟨#[106, 111, 98]⟩ : ByteArray), (⟨#[98]⟩ : ByteArray)⟩ : S26)] : List (S26))) (inner := [.string (⟨#[106, 111, 98]⟩ : ByteArray), .string (⟨#[98]⟩ : ByteArray)]) (ok := fun _ => True) (okp := fun _ => True) ?hr ?hp (fun _ hk => hk) trivial (Below.refl _ _) (Nat.le_refl _) (by simp) ?_; (case hd => rfl); (case hg => rfl); (case hr => first | (go_simp; done) | (go_simp; rfl)); (case hp => exact (Reps.c2 (show Kd.M k26 _ _ _ (⟨(⟨#[106, 111, 98]⟩ : ByteArray), (⟨#[98]⟩ : ByteArray)⟩ : S26) [.string (⟨#[106, 111, 98]⟩ : ByteArray), .string (⟨#[98]⟩ : ByteArray)] from (k26_mkM _ _ _ (⟨(⟨#[106, 111, 98]⟩ : ByteArray), (⟨#[98]⟩ : ByteArray)⟩ : S26) )) (Reps.none _ _))); intro v401 w95 ho96 hb hg_ hnew_; clear hg_ hnew_; (first | rw [← Ny400.out] at ho96 | (simp only [Int.reduceToNat] at ho96; rw [← Ny400.out] at ho96)); have n0_ := Aside0.mk (Kd.R_elder' (by (with_reducible repeat (first | apply Kd.R_alloc | apply Kd.R_drewN | apply Kd.R_drew)); exact HO399.out) (Kd.R_base ho96) hb); have n1_ := Aside0.mk (Kd.R_lower (Kd.R_new' ho96 (Kd.R_lt (by (with_reducible repeat (first | apply Kd.R_alloc | apply Kd.R_drewN | apply Kd.R_drew)); exact HO399.out))) (below_size (by repeat (first | (with_reducible first | exact HB.out | apply below_alloc | apply pw_below_drewN | apply below_drew1) | exact HB.out)))); have n2_ := Aside0.mk (below_step (by repeat (first | (with_reducible first | exact HB.out | apply below_alloc | apply pw_below_drewN | apply below_drew1) | exact HB.out)) hb); clear HO399; clear HB; have HO399 := n0_; have HO402 := n1_; have HB := n2_; clear n0_ n1_ n2_; clear hb ho96; obtain ⟨Ao97, co97, eo97⟩ := Kd.R_slice HO399.out; subst eo97; obtain ⟨Ao98, co98, eo98⟩ := Kd.R_slice HO402.out; subst eo98) | ((with_reducible refine gate_callee (f := 25) rfl ?_); refine goesL_ (some 30) rfl rfl Try.func25 (by kernel_rfl) rfl #[.slice Ao97 y397.length co97, .slice Ao98 y400.length co98] rfl (by (try simp only [List.map_toArray, List.map_cons, List.map_nil]); first | done | rfl | (simp only [List.length_drop, List.length_take]; rfl)) ?_; (with_reducible refine (impl_AlertBefore.calls _ _ y397 _ _ y400 false _ ?side1 ?side2 ?side3 ?side4 A17.out).mono ?_); (case side1 => repeat (first | exact (Kd.R_reads' HO399.out).2.2 | (with_reducible refine Kd.C_alloc ?_ _) | (with_reducible refine Kd.C_drewN ?_ _) | (with_reducible refine Kd.C_drew ?_))); (case side2 => exact (Kd.R_reads' HO399.out).2.1); (case side3 => repeat (first | exact (Kd.R_reads' HO402.out).2.2 | (with_reducible refine Kd.C_alloc ?_ _) | (with_reducible refine Kd.C_drewN ?_ _) | (with_reducible refine Kd.C_drew ?_))); (case side4 => exact (Kd.R_reads' HO402.out).2.1); rintro e w99 ⟨rfl, hb⟩; refine ⟨_, rfl, ?_⟩; have n0_ := Aside0.mk (Kd.R_below (by (with_reducible repeat (first | apply Kd.R_alloc | apply Kd.R_drewN | apply Kd.R_drew)); exact HO399.out) hb); have n1_ := Aside0.mk (Kd.R_below (by (with_reducible repeat (first | apply Kd.R_alloc | apply Kd.R_drewN | apply Kd.R_drew)); exact HO402.out) hb); have n2_ := Aside0.mk (below_step (by repeat (first | (with_reducible first | exact HB.out | apply below_alloc | apply pw_below_drewN | apply below_drew1) | exact HB.out)) hb); clear HO399; clear HO402; clear HB; have HO399 := n0_; have HO402 := n1_; have HB := n2_; clear n0_ n1_ n2_; (try clear hb); (try clear hb2); (try clear hk); (try clear hi)))
          go_ret
          exact ⟨by first | rfl | (simp [errW_none, errW_some] <;> rfl) | (simp [*, errW_none, errW_some] <;> rfl) | (simp [*, q_isEmpty]; done) | (simp [*]; exact q_gt _ _ (by assumption)), by repeat (first | (with_reducible first | exact HB.out | apply below_alloc | apply pw_below_drewN | apply below_drew1) | exact HB.out)⟩

end Go.Proofs.Ytikhlolhodgegaa.Q
