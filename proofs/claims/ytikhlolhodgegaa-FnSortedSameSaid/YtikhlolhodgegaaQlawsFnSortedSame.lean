-- Printed for this seat by wip/pp.py of this repo; nothing here is trusted: Lean checks it.
import Derived.Test.YtikhlolhodgegaaQ0
import Derived.Test.YtikhlolhodgegaaHMatchAll
import Derived.Test.YtikhlolhodgegaaHSorted
import Derived.Test.YtikhlolhodgegaaQlawseqMatchers
import Derived.Test.YtikhlolhodgegaaQlawstyped
import Derived.Test.YtikhlolhodgegaaQlawszzFits1
import Derived.Test.YtikhlolhodgegaaQlawszzFits3
namespace Go.Proofs.Ytikhlolhodgegaa.Q
open Go.RowKit Go.Proofs.YtikhlolhodgegaaW.PrintWords Go.Proofs.YtikhlolhodgegaaW.PrintLast Go.Proofs.YtikhlolhodgegaaW.PrintMore
attribute [local go_sem] max2_int min2_int max_two min_two max_three min_three max_four min_four   -- for this text's walks alone
set_option linter.unusedVariables false
set_option linter.unusedSimpArgs false

/-! ### laws_FnSortedSame: function 11 -/
mutual
def laws_FnSortedSame.j0 : Nat → List (S52) → List Int → List (S26) → Bool → Option (Bool)
  | 0, _, _, _, _ => none
  | k + 1, x0, x1, x2, x25 => if x25 = true then (some true) else ((impl_Sorted.f (([(⟨0, (⟨#[97]⟩ : ByteArray), (⟨#[]⟩ : ByteArray)⟩ : S52)] : List (S52)))).bind fun t288 => (if (t288.length : Int) = 1 then ((laws_typed.f k x0).bind fun t291 => (if t291 = true then (if (x0.length : Int) > 300 then (laws_FnSortedSame.j1 k x0 x1 x2 true) else (laws_FnSortedSame.j1 k x0 x1 x2 (decide ((x2.length : Int) > 1000)))) else (laws_FnSortedSame.j1 k x0 x1 x2 true))) else (some false)))
def laws_FnSortedSame.j1 : Nat → List (S52) → List Int → List (S26) → Bool → Option (Bool)
  | 0, _, _, _, _ => none
  | k + 1, x0, x1, x2, x43 => if x43 = true then (some true) else ((some (([] : List (S52)) : List (S52))).bind fun y292 => (if y292.length + x0.length < 3518437208883 then (laws_FnSortedSame.l0 k x0 x2 (y292 ++ x0) x1 (x1.length : Int) 0) else (none)))
def laws_FnSortedSame.l0 : Nat → List (S52) → List (S26) → List (S52) → List Int → Int → Int → Option (Bool)
  | 0, _, _, _, _, _, _ => none
  | k + 1, x0, x2, x7, x47, x48, x49 => if x49 < x48 then (if 0 ≤ x49 then (if x49 < (x47.length : Int) then (if (x7.length : Int) > 0 then (if (x7.length : Int) = 0 then (none) else (if 0 ≤ (Int.tmod (wrap64 (rd x47 x49)) (x7.length : Int)) then (if (Int.tmod (wrap64 (rd x47 x49)) (x7.length : Int)) < (x7.length : Int) then (if 0 ≤ (Int.tmod x49 (x7.length : Int)) then (if (Int.tmod x49 (x7.length : Int)) < (x7.length : Int) then (laws_FnSortedSame.l0 k x0 x2 ((x7.set ((Int.tmod x49 (x7.length : Int)) : Int).toNat (⟨(rd_T52 x7 (Int.tmod (wrap64 (rd x47 x49)) (x7.length : Int))).f0, (rd_T52 x7 (Int.tmod (wrap64 (rd x47 x49)) (x7.length : Int))).f1, (rd_T52 x7 (Int.tmod (wrap64 (rd x47 x49)) (x7.length : Int))).f2⟩ : S52)).set ((Int.tmod (wrap64 (rd x47 x49)) (x7.length : Int)) : Int).toNat (⟨(rd_T52 x7 (Int.tmod x49 (x7.length : Int))).f0, (rd_T52 x7 (Int.tmod x49 (x7.length : Int))).f1, (rd_T52 x7 (Int.tmod x49 (x7.length : Int))).f2⟩ : S52)) x47 x48 (wrap64 (x49 + 1))) else (none)) else (none)) else (none)) else (none))) else (laws_FnSortedSame.l0 k x0 x2 x7 x47 x48 (wrap64 (x49 + 1)))) else (none)) else (none)) else ((impl_Sorted.f x0).bind fun t303 => ((impl_Sorted.f x7).bind fun t306 => ((laws_eqMatchers.f k t306 t303).bind fun t309 => (if t309 = true then ((impl_Sorted.f t303).bind fun t310 => ((laws_eqMatchers.f k t310 t303).bind fun t313 => (if t313 = true then ((impl_MatchAll.f t303 x2).bind fun t314 => ((impl_MatchAll.f x0 x2).bind fun t315 => (some (t314 == t315)))) else (some false)))) else (some false)))))
end
def laws_FnSortedSame.f (k : Nat) (l0 : List (S52)) (l1 : List Int) (l2 : List (S26)) : Option (Bool) := (laws_zzFits3.f k l0).bind fun t283 => (if t283 = true then (if (l1.length : Int) > 2147483647 then (laws_FnSortedSame.j0 k l0 l1 l2 true) else ((laws_zzFits1.f k l2).bind fun t284 => (laws_FnSortedSame.j0 k l0 l1 l2 (!t284)))) else (laws_FnSortedSame.j0 k l0 l1 l2 true))
theorem laws_FnSortedSame.mono_l : ∀ k, (∀ y0 y1 y2 y3, LeO (laws_FnSortedSame.j0 k y0 y1 y2 y3) (laws_FnSortedSame.j0 (k + 1) y0 y1 y2 y3)) ∧ (∀ y0 y1 y2 y3, LeO (laws_FnSortedSame.j1 k y0 y1 y2 y3) (laws_FnSortedSame.j1 (k + 1) y0 y1 y2 y3)) ∧ (∀ y0 y1 y2 y3 y4 y5, LeO (laws_FnSortedSame.l0 k y0 y1 y2 y3 y4 y5) (laws_FnSortedSame.l0 (k + 1) y0 y1 y2 y3 y4 y5))
  | 0 => ⟨fun _ _ _ _ r h => by simp [laws_FnSortedSame.j0] at h, fun _ _ _ _ r h => by simp [laws_FnSortedSame.j1] at h, fun _ _ _ _ _ _ r h => by simp [laws_FnSortedSame.l0] at h⟩
  | k + 1 => by
    obtain ⟨ih0, ih1, ih2⟩ := laws_FnSortedSame.mono_l k
    refine ⟨?_, ?_, ?_⟩
    · intro y0 y1 y2 y3
      unfold laws_FnSortedSame.j0
      repeat' first
      | (with_reducible exact ih0 _ _ _ _)
      | (with_reducible exact ih1 _ _ _ _)
      | (with_reducible exact ih2 _ _ _ _ _ _)
      | (with_reducible exact laws_eqMatchers.mono _ _ _)
      | (with_reducible exact laws_typed.mono _ _)
      | (with_reducible exact laws_zzFits1.mono _ _)
      | (with_reducible exact laws_zzFits3.mono _ _)
      | (with_reducible exact LeO.refl _)
      | (with_reducible exact LeO.none _)
      | (with_reducible refine LeO.ite ?_ ?_)
      | (with_reducible refine LeO.bind ?_ (fun _ => ?_))
      | exact ih0 _ _ _ _
      | exact ih1 _ _ _ _
      | exact ih2 _ _ _ _ _ _
      | exact laws_eqMatchers.mono _ _ _
      | exact laws_typed.mono _ _
      | exact laws_zzFits1.mono _ _
      | exact laws_zzFits3.mono _ _
      | exact LeO.none _
      | refine LeO.ite ?_ ?_
      | refine LeO.bind ?_ (fun _ => ?_)
    · intro y0 y1 y2 y3
      unfold laws_FnSortedSame.j1
      repeat' first
      | (with_reducible exact ih0 _ _ _ _)
      | (with_reducible exact ih1 _ _ _ _)
      | (with_reducible exact ih2 _ _ _ _ _ _)
      | (with_reducible exact laws_eqMatchers.mono _ _ _)
      | (with_reducible exact laws_typed.mono _ _)
      | (with_reducible exact laws_zzFits1.mono _ _)
      | (with_reducible exact laws_zzFits3.mono _ _)
      | (with_reducible exact LeO.refl _)
      | (with_reducible exact LeO.none _)
      | (with_reducible refine LeO.ite ?_ ?_)
      | (with_reducible refine LeO.bind ?_ (fun _ => ?_))
      | exact ih0 _ _ _ _
      | exact ih1 _ _ _ _
      | exact ih2 _ _ _ _ _ _
      | exact laws_eqMatchers.mono _ _ _
      | exact laws_typed.mono _ _
      | exact laws_zzFits1.mono _ _
      | exact laws_zzFits3.mono _ _
      | exact LeO.none _
      | refine LeO.ite ?_ ?_
      | refine LeO.bind ?_ (fun _ => ?_)
    · intro y0 y1 y2 y3 y4 y5
      unfold laws_FnSortedSame.l0
      repeat' first
      | (with_reducible exact ih0 _ _ _ _)
      | (with_reducible exact ih1 _ _ _ _)
      | (with_reducible exact ih2 _ _ _ _ _ _)
      | (with_reducible exact laws_eqMatchers.mono _ _ _)
      | (with_reducible exact laws_typed.mono _ _)
      | (with_reducible exact laws_zzFits1.mono _ _)
      | (with_reducible exact laws_zzFits3.mono _ _)
      | (with_reducible exact LeO.refl _)
      | (with_reducible exact LeO.none _)
      | (with_reducible refine LeO.ite ?_ ?_)
      | (with_reducible refine LeO.bind ?_ (fun _ => ?_))
      | exact ih0 _ _ _ _
      | exact ih1 _ _ _ _
      | exact ih2 _ _ _ _ _ _
      | exact laws_eqMatchers.mono _ _ _
      | exact laws_typed.mono _ _
      | exact laws_zzFits1.mono _ _
      | exact laws_zzFits3.mono _ _
      | exact LeO.none _
      | refine LeO.ite ?_ ?_
      | refine LeO.bind ?_ (fun _ => ?_)
theorem laws_FnSortedSame.mono : ∀ a0 a1 a2 k, LeO (laws_FnSortedSame.f k a0 a1 a2) (laws_FnSortedSame.f (k + 1) a0 a1 a2) := by
  intro a0 a1 a2 k
  obtain ⟨ih0, ih1, ih2⟩ := laws_FnSortedSame.mono_l k
  unfold laws_FnSortedSame.f
  repeat' first
      | (with_reducible exact ih0 _ _ _ _)
      | (with_reducible exact ih1 _ _ _ _)
      | (with_reducible exact ih2 _ _ _ _ _ _)
      | (with_reducible exact laws_eqMatchers.mono _ _ _)
      | (with_reducible exact laws_typed.mono _ _)
      | (with_reducible exact laws_zzFits1.mono _ _)
      | (with_reducible exact laws_zzFits3.mono _ _)
      | (with_reducible exact LeO.refl _)
      | (with_reducible exact LeO.none _)
      | (with_reducible refine LeO.ite ?_ ?_)
      | (with_reducible refine LeO.bind ?_ (fun _ => ?_))
      | exact ih0 _ _ _ _
      | exact ih1 _ _ _ _
      | exact ih2 _ _ _ _ _ _
      | exact laws_eqMatchers.mono _ _ _
      | exact laws_typed.mono _ _
      | exact laws_zzFits1.mono _ _
      | exact laws_zzFits3.mono _ _
      | exact LeO.none _
      | refine LeO.ite ?_ ?_
      | refine LeO.bind ?_ (fun _ => ?_)
def laws_FnSortedSame.T12 : Bool × List (List Nat × List Nat) := (true, [([], []), ([], []), ([1], [1]), ([0, 2], [0, 2]), ([], []), ([4], [4]), ([], []), ([6], [6]), ([5, 7], [5, 7]), ([3, 0, 1, 2, 3], [3]), ([8, 9, 0, 1, 2, 3, 4, 5, 6, 7, 8, 9], [8])])
def laws_FnSortedSame.B12 : List Nat := [0, 0, 2, 7, 0, 16, 0, 64, 240, 15, 1023]
theorem laws_FnSortedSame.tab12 : rtab .any (opsOf Try.f11 12) = laws_FnSortedSame.T12 := by kernel_rfl
theorem laws_FnSortedSame.bits12 : waitsOk laws_FnSortedSame.T12.2 laws_FnSortedSame.B12 = true := by kernel_rfl
def laws_FnSortedSame.T13 : Bool × List (List Nat × List Nat) := (true, [([], []), ([], []), ([], []), ([], []), ([], []), ([], []), ([4, 5], [4, 5]), ([6], [6]), ([], []), ([], []), ([8, 9], [8, 9]), ([10], [10]), ([0, 1, 0, 1, 4, 5, 6, 7, 11], [0, 1]), ([12, 7, 0, 1, 4, 5, 6, 7, 11], [7, 12]), ([2, 3, 0, 1, 2, 3, 4, 5, 6, 7, 8, 9, 10, 11, 12, 13], [2, 3]), ([14, 11, 13, 0, 1, 2, 3, 4, 5, 6, 7, 8, 9, 10, 11, 12, 13], [11, 14])])
def laws_FnSortedSame.B13 : List Nat := [0, 0, 0, 0, 0, 0, 48, 112, 0, 0, 768, 1792, 4083, 8179, 16383, 32767]
theorem laws_FnSortedSame.tab13 : rtab .any (opsOf Try.f11 13) = laws_FnSortedSame.T13 := by kernel_rfl
theorem laws_FnSortedSame.bits13 : waitsOk laws_FnSortedSame.T13.2 laws_FnSortedSame.B13 = true := by kernel_rfl
set_option maxHeartbeats 8000000 in
set_option maxRecDepth 100000 in
theorem laws_FnSortedSame.calls (k : Nat) (A0 : Option Addr) (c0 : Nat) (l0 : List (S52)) (A1 : Option Addr) (c1 : Nat) (l1 : List Int) (A2 : Option Addr) (c2 : Nat) (l2 : List (S26)) (r : Bool) (w : World) (hr0 : Kd.C k52 w A0 l0.length l0) (hc0 : l0.length ≤ c0) (hr1 : Kd.C (Kd.int .u8) w A1 l1.length l1) (hc1 : l1.length ≤ c1) (hr2 : Kd.C k26 w A2 l2.length l2) (hc2 : l2.length ≤ c2) (h : laws_FnSortedSame.f k l0 l1 l2 = some r) :
    Calls Try.prog 11 #[.slice A0 l0.length c0, .slice A1 l1.length c1, .slice A2 l2.length c2] w fun e w' => e = .returned (.bool r) ∧ Below w.heap.size w w' := by
  have hu52 := Try.underlying52
  have HR0 := Aside0.mk hr0
  have HC0 := Aside0.mk hc0
  clear hr0 hc0
  have HR1 := Aside0.mk hr1
  have HC1 := Aside0.mk hc1
  clear hr1 hc1
  have HR2 := Aside0.mk hr2
  have HC2 := Aside0.mk hc2
  clear hr2 hc2
  have HB := Aside0.mk (Below.refl w.heap.size w)
  have H : ((laws_zzFits3.f k l0).bind fun t283 => (if t283 = true then (if (l1.length : Int) > 2147483647 then (laws_FnSortedSame.j0 k l0 l1 l2 true) else ((laws_zzFits1.f k l2).bind fun t284 => (laws_FnSortedSame.j0 k l0 l1 l2 (!t284)))) else (laws_FnSortedSame.j0 k l0 l1 l2 true))) = some r := h
  clear h
  have HC4 := Aside0.mk H
  clear H
  go_enter Try.func11, Try.ntmps11
  go_upto_region 1 with (fail)
  go_cut [25] (fun v25 wc => ∃ (kq : Nat) (x25_3 : Bool), v25 = .bool x25_3 ∧ Aside0 (laws_FnSortedSame.j0 kq l0 l1 l2 x25_3 = some r) ∧ Aside0 (kq ≤ k) ∧ Aside0 (Below w.heap.size w wc))
  case first =>
    have H := HC4.out
    clear HC4
    replace H := Option.bind_eq_some_iff.mp H
    obtain ⟨t283, A50, H⟩ := H
    replace H : (if t283 = true then (if (l1.length : Int) > 2147483647 then (laws_FnSortedSame.j0 k l0 l1 l2 true) else ((laws_zzFits1.f k l2).bind fun t284 => (laws_FnSortedSame.j0 k l0 l1 l2 (!t284)))) else (laws_FnSortedSame.j0 k l0 l1 l2 true)) = some r := H
    have A5 := Aside0.mk A50
    clear A50
    by_cases c6 : t283 = true
    · subst c6
      have H1 : (if (l1.length : Int) > 2147483647 then (laws_FnSortedSame.j0 k l0 l1 l2 true) else ((laws_zzFits1.f k l2).bind fun t284 => (laws_FnSortedSame.j0 k l0 l1 l2 (!t284)))) = some r := by rw [if_pos rfl] at H; exact H
      clear H
      have H := H1
      clear H1
      by_cases c7 : (l1.length : Int) > 2147483647
      · rw [if_pos c7] at H
        have c7b0 : decide (2147483647 < (l1.length : Int)) = true := decide_eq_true c7
        have c7b1 : decide (2147483647 < l1.length) = true := decide_eq_true (by omega)
        clear c7
        (first | rw [c7b0] | (simp only [i64_w, i32_w]; rw [c7b0]) | skip)
        have H' := Aside0.mk H
        clear H
        go_wp2_with (first | ((with_reducible refine gate_callee (f := 43) rfl ?_); refine goesL_ (some 14) rfl rfl Try.func43 (by kernel_rfl) rfl #[.slice A0 l0.length c0] rfl (by (try simp only [List.map_toArray, List.map_cons, List.map_nil]); first | done | rfl | (simp only [List.length_drop, List.length_take]; rfl)) ?_; (with_reducible refine (laws_zzFits3.calls k _ _ l0 true _ ?side1 ?side2 A5.out).mono ?_); (case side1 => repeat (first | exact (Kd.C_below HR0.out HB.out) | (with_reducible refine Kd.C_alloc ?_ _) | (with_reducible refine Kd.C_drewN ?_ _) | (with_reducible refine Kd.C_drew ?_))); (case side2 => exact HC0.out); rintro e w8 ⟨rfl, hb⟩; refine ⟨_, rfl, ?_⟩; have n0_ := Aside0.mk (below_step (by repeat (first | (with_reducible first | exact HB.out | apply below_alloc | apply pw_below_drewN | apply below_drew1) | exact HB.out)) hb); clear HB; have HB := n0_; clear n0_; (try clear hb); (try clear hb2); (try clear hk); (try clear hi)))
        go_meet
        case rel => exact ⟨_, (true), (by first | rfl | (simp; done) | (simp [*]; done) | (simp [*, q_isEmpty]; done) | (simp [*]; exact q_gt _ _ (by assumption))), H', ⟨by first | omega | exact Nat.le_refl _⟩, ⟨by repeat (first | (with_reducible first | exact HB.out | apply below_alloc | apply pw_below_drewN | apply below_drew1) | exact HB.out)⟩⟩
      · rw [if_neg c7] at H
        have c7b0 : decide (2147483647 < (l1.length : Int)) = false := decide_eq_false c7
        have c7b1 : decide (2147483647 < l1.length) = false := decide_eq_false (by omega)
        clear c7
        (first | rw [c7b0] | (simp only [i64_w, i32_w]; rw [c7b0]) | skip)
        replace H := Option.bind_eq_some_iff.mp H
        obtain ⟨t284, A90, H⟩ := H
        replace H : (laws_FnSortedSame.j0 k l0 l1 l2 (!t284)) = some r := H
        have A9 := Aside0.mk A90
        clear A90
        have H' := Aside0.mk H
        clear H
        go_wp2_with (first | ((with_reducible refine gate_callee (f := 43) rfl ?_); refine goesL_ (some 14) rfl rfl Try.func43 (by kernel_rfl) rfl #[.slice A0 l0.length c0] rfl (by (try simp only [List.map_toArray, List.map_cons, List.map_nil]); first | done | rfl | (simp only [List.length_drop, List.length_take]; rfl)) ?_; (with_reducible refine (laws_zzFits3.calls k _ _ l0 true _ ?side1 ?side2 A5.out).mono ?_); (case side1 => repeat (first | exact (Kd.C_below HR0.out HB.out) | (with_reducible refine Kd.C_alloc ?_ _) | (with_reducible refine Kd.C_drewN ?_ _) | (with_reducible refine Kd.C_drew ?_))); (case side2 => exact HC0.out); rintro e w10 ⟨rfl, hb⟩; refine ⟨_, rfl, ?_⟩; have n0_ := Aside0.mk (below_step (by repeat (first | (with_reducible first | exact HB.out | apply below_alloc | apply pw_below_drewN | apply below_drew1) | exact HB.out)) hb); clear HB; have HB := n0_; clear n0_; (try clear hb); (try clear hb2); (try clear hk); (try clear hi)) | (go_at_call 14; (with_reducible refine (laws_zzFits1.calls k _ _ l2 t284 _ ?side1 ?side2 A9.out).mono ?_); (case side1 => repeat (first | exact (Kd.C_below HR2.out HB.out) | (with_reducible refine Kd.C_alloc ?_ _) | (with_reducible refine Kd.C_drewN ?_ _) | (with_reducible refine Kd.C_drew ?_))); (case side2 => exact HC2.out); rintro e w11 ⟨rfl, hb⟩; have n0_ := Aside0.mk (below_step (by repeat (first | (with_reducible first | exact HB.out | apply below_alloc | apply pw_below_drewN | apply below_drew1) | exact HB.out)) hb); clear HB; have HB := n0_; clear n0_; (try clear hb); (try clear hb2); (try clear hk); (try clear hi)))
        go_meet
        case rel => exact ⟨_, (!t284), (by first | rfl | (simp; done) | (simp [*]; done) | (simp [*, q_isEmpty]; done) | (simp [*]; exact q_gt _ _ (by assumption))), H', ⟨by first | omega | exact Nat.le_refl _⟩, ⟨by repeat (first | (with_reducible first | exact HB.out | apply below_alloc | apply pw_below_drewN | apply below_drew1) | exact HB.out)⟩⟩
    · replace c6 := Bool.eq_false_iff.mpr c6
      subst c6
      have H1 : (laws_FnSortedSame.j0 k l0 l1 l2 true) = some r := by rw [if_neg (show ¬ (false = true) by decide)] at H; exact H
      clear H
      have H := H1
      clear H1
      have H' := Aside0.mk H
      clear H
      go_wp2_with (first | ((with_reducible refine gate_callee (f := 43) rfl ?_); refine goesL_ (some 14) rfl rfl Try.func43 (by kernel_rfl) rfl #[.slice A0 l0.length c0] rfl (by (try simp only [List.map_toArray, List.map_cons, List.map_nil]); first | done | rfl | (simp only [List.length_drop, List.length_take]; rfl)) ?_; (with_reducible refine (laws_zzFits3.calls k _ _ l0 false _ ?side1 ?side2 A5.out).mono ?_); (case side1 => repeat (first | exact (Kd.C_below HR0.out HB.out) | (with_reducible refine Kd.C_alloc ?_ _) | (with_reducible refine Kd.C_drewN ?_ _) | (with_reducible refine Kd.C_drew ?_))); (case side2 => exact HC0.out); rintro e w12 ⟨rfl, hb⟩; refine ⟨_, rfl, ?_⟩; have n0_ := Aside0.mk (below_step (by repeat (first | (with_reducible first | exact HB.out | apply below_alloc | apply pw_below_drewN | apply below_drew1) | exact HB.out)) hb); clear HB; have HB := n0_; clear n0_; (try clear hb); (try clear hb2); (try clear hk); (try clear hi)))
      go_meet
      case rel => exact ⟨_, (true), (by first | rfl | (simp; done) | (simp [*]; done) | (simp [*, q_isEmpty]; done) | (simp [*]; exact q_gt _ _ (by assumption))), H', ⟨by first | omega | exact Nat.le_refl _⟩, ⟨by repeat (first | (with_reducible first | exact HB.out | apply below_alloc | apply pw_below_drewN | apply below_drew1) | exact HB.out)⟩⟩
  case rest =>
    clear HC4
    try clear c1
    try clear c2
    try clear p2
    try clear c4
    try clear c6
    try clear c7
    try clear c7b0
    try clear c7b1
    try clear c11
    obtain ⟨kq, x25_3, rfl, HA, HJ3, HB⟩ := hcut
    cases kq with
    | zero => exact absurd HA.out (by simp [laws_FnSortedSame.j0])
    | succ kj3 =>
      have H := HA.out
      clear HA
      simp only [laws_FnSortedSame.j0] at H
      by_cases c13 : x25_3 = true
      · subst c13
        have H1 : (some true) = some r := by rw [if_pos rfl] at H; exact H
        clear H
        have H := H1
        clear H1
        obtain rfl := Option.some.inj H
        go_wp2
        go_ret
        exact ⟨by first | rfl | (simp [errW_none, errW_some] <;> rfl) | (simp [*, errW_none, errW_some] <;> rfl) | (simp [*, q_isEmpty]; done) | (simp [*]; exact q_gt _ _ (by assumption)), by repeat (first | (with_reducible first | exact HB.out | apply below_alloc | apply pw_below_drewN | apply below_drew1) | exact HB.out)⟩
      · replace c13 := Bool.eq_false_iff.mpr c13
        subst c13
        have H1 : ((impl_Sorted.f (([(⟨0, (⟨#[97]⟩ : ByteArray), (⟨#[]⟩ : ByteArray)⟩ : S52)] : List (S52)))).bind fun t288 => (if (t288.length : Int) = 1 then ((laws_typed.f kj3 l0).bind fun t291 => (if t291 = true then (if (l0.length : Int) > 300 then (laws_FnSortedSame.j1 kj3 l0 l1 l2 true) else (laws_FnSortedSame.j1 kj3 l0 l1 l2 (decide ((l2.length : Int) > 1000)))) else (laws_FnSortedSame.j1 kj3 l0 l1 l2 true))) else (some false))) = some r := by rw [if_neg (show ¬ (false = true) by decide)] at H; exact H
        clear H
        have H := H1
        clear H1
        obtain ⟨y285, hy285⟩ : ∃ y_ : List (S52), y_ = (([(⟨0, (⟨#[97]⟩ : ByteArray), (⟨#[]⟩ : ByteArray)⟩ : S52)] : List (S52))) := ⟨_, rfl⟩
        replace H : ((impl_Sorted.f y285).bind fun t288 => (if (t288.length : Int) = 1 then ((laws_typed.f kj3 l0).bind fun t291 => (if t291 = true then (if (l0.length : Int) > 300 then (laws_FnSortedSame.j1 kj3 l0 l1 l2 true) else (laws_FnSortedSame.j1 kj3 l0 l1 l2 (decide ((l2.length : Int) > 1000)))) else (laws_FnSortedSame.j1 kj3 l0 l1 l2 true))) else (some false))) = some r := by first | (rw [hy285]; with_reducible exact H) | (have H2_ := (Option.bind_some _ _).symm.trans H; rw [hy285]; with_reducible exact H2_) | (have H2_ := (Option.bind_some _ _).symm.trans H; with_reducible exact H2_) | with_reducible exact H | (rw [hy285]; exact H) | exact H
        have Ny285 := Aside0.mk hy285
        clear hy285
        replace H := Option.bind_eq_some_iff.mp H
        obtain ⟨t288, A140, H⟩ := H
        replace H : (if (t288.length : Int) = 1 then ((laws_typed.f kj3 l0).bind fun t291 => (if t291 = true then (if (l0.length : Int) > 300 then (laws_FnSortedSame.j1 kj3 l0 l1 l2 true) else (laws_FnSortedSame.j1 kj3 l0 l1 l2 (decide ((l2.length : Int) > 1000)))) else (laws_FnSortedSame.j1 kj3 l0 l1 l2 true))) else (some false)) = some r := H
        have A14 := Aside0.mk A140
        clear A140
        by_cases c15 : (t288.length : Int) = 1
        · rw [if_pos c15] at H
          have c15b0 : ((t288.length : Int) == 1) = true := beq_iff_eq.mpr c15
          have c15b1 : ((t288.length : Int) != 1) = false := bne_eq_false_iff_eq.mpr c15
          clear c15
          have HC16 := Aside0.mk H
          clear H
          go_upto_region 5 with (first | ((with_reducible refine gate_dst (N := 27) rfl ?_); (try (refine gate_guard (by rfl) ?_; dsimp only)); refine Kd.R_lit k52 _ 52 ?hg (N := 27) ?hd (xs := ([(⟨0, (⟨#[97]⟩ : ByteArray), (⟨#[]⟩ : ByteArray)⟩ : S52)] : List (S52))) (inner := [.int .i64 0, .string (⟨#[97]⟩ : ByteArray), .string (⟨#[]⟩ : ByteArray)]) (ok := fun _ => True) (okp := fun _ => True) ?hr ?hp (fun _ hk => hk) trivial (Below.refl _ _) (Nat.le_refl _) (by simp) ?_; (case hd => rfl); (case hg => rfl); (case hr => first | (go_simp; done) | (go_simp; rfl)); (case hp => exact (Reps.c3 (show Kd.M k52 _ _ _ (⟨0, (⟨#[97]⟩ : ByteArray), (⟨#[]⟩ : ByteArray)⟩ : S52) [.int .i64 0, .string (⟨#[97]⟩ : ByteArray), .string (⟨#[]⟩ : ByteArray)] from (k52_mkM _ _ _ (⟨0, (⟨#[97]⟩ : ByteArray), (⟨#[]⟩ : ByteArray)⟩ : S52) )) (Reps.none _ _))); intro v286 w17 ho18 hb hg_ hnew_; clear hg_ hnew_; (first | rw [← Ny285.out] at ho18 | (simp only [Int.reduceToNat] at ho18; rw [← Ny285.out] at ho18)); have n0_ := Aside0.mk (Kd.R_lower ho18 (below_size (by repeat (first | (with_reducible first | exact HB.out | apply below_alloc | apply pw_below_drewN | apply below_drew1) | exact HB.out)))); have n1_ := Aside0.mk (below_step (by repeat (first | (with_reducible first | exact HB.out | apply below_alloc | apply pw_below_drewN | apply below_drew1) | exact HB.out)) hb); clear HB; have HO287 := n0_; have HB := n1_; clear n0_ n1_; clear hb ho18; obtain ⟨Ao19, co19, eo19⟩ := Kd.R_slice HO287.out; subst eo19) | ((with_reducible refine gate_callee (f := 44) rfl ?_); refine goesL_ (some 28) rfl rfl Try.func44 (by kernel_rfl) rfl #[.slice Ao19 y285.length co19] rfl (by (try simp only [List.map_toArray, List.map_cons, List.map_nil]); first | done | rfl | (simp only [List.length_drop, List.length_take]; rfl)) ?_; (with_reducible refine (impl_Sorted.calls _ _ y285 t288 _ ?side1 ?side2 A14.out).mono ?_); (case side1 => repeat (first | exact (Kd.R_reads' HO287.out).2.2 | (with_reducible refine Kd.C_alloc ?_ _) | (with_reducible refine Kd.C_drewN ?_ _) | (with_reducible refine Kd.C_drew ?_))); (case side2 => exact (Kd.R_reads' HO287.out).2.1); rintro e w20 ⟨v289, rfl, ho0, hb⟩; refine ⟨_, rfl, ?_⟩; have n0_ := Aside0.mk (Kd.R_elder' (by (with_reducible repeat (first | apply Kd.R_alloc | apply Kd.R_drewN | apply Kd.R_drew)); exact HO287.out) (Kd.R_base ho0) hb); have n1_ := Aside0.mk (Kd.R_lower (Kd.R_new' ho0 (Kd.R_lt (by (with_reducible repeat (first | apply Kd.R_alloc | apply Kd.R_drewN | apply Kd.R_drew)); exact HO287.out))) (below_size (by repeat (first | (with_reducible first | exact HB.out | apply below_alloc | apply pw_below_drewN | apply below_drew1) | exact HB.out)))); have n2_ := Aside0.mk (below_step (by repeat (first | (with_reducible first | exact HB.out | apply below_alloc | apply pw_below_drewN | apply below_drew1) | exact HB.out)) hb); clear HO287; clear HB; have HO287 := n0_; have HO290 := n1_; have HB := n2_; clear n0_ n1_ n2_; (try clear hb); (try clear hb2); (try clear hk); (try clear hi); (try clear ho0); obtain ⟨Ao21, co21, eo21⟩ := Kd.R_slice HO290.out; subst eo21))
          (try simp only [Act.put, List.setIfInBounds_toArray, List.set_cons_zero, List.set_cons_succ])
          go_cut [43] (fun v43 wc => ∃ (kq : Nat) (x43_15 : Bool), v43 = .bool x43_15 ∧ Aside0 (laws_FnSortedSame.j1 kq l0 l1 l2 x43_15 = some r) ∧ Aside0 (kq ≤ kj3) ∧ Aside0 (Below w.heap.size w wc))
          case first =>
            have H := HC16.out
            clear HC16
            replace H := Option.bind_eq_some_iff.mp H
            obtain ⟨t291, A220, H⟩ := H
            replace H : (if t291 = true then (if (l0.length : Int) > 300 then (laws_FnSortedSame.j1 kj3 l0 l1 l2 true) else (laws_FnSortedSame.j1 kj3 l0 l1 l2 (decide ((l2.length : Int) > 1000)))) else (laws_FnSortedSame.j1 kj3 l0 l1 l2 true)) = some r := H
            have A22 := Aside0.mk A220
            clear A220
            by_cases c23 : t291 = true
            · subst c23
              have H1 : (if (l0.length : Int) > 300 then (laws_FnSortedSame.j1 kj3 l0 l1 l2 true) else (laws_FnSortedSame.j1 kj3 l0 l1 l2 (decide ((l2.length : Int) > 1000)))) = some r := by rw [if_pos rfl] at H; exact H
              clear H
              have H := H1
              clear H1
              by_cases c24 : (l0.length : Int) > 300
              · rw [if_pos c24] at H
                have c24b0 : decide (300 < (l0.length : Int)) = true := decide_eq_true c24
                have c24b1 : decide (300 < l0.length) = true := decide_eq_true (by omega)
                clear c24
                (first | rw [c24b0] | (simp only [i64_w, i32_w]; rw [c24b0]) | skip)
                have H' := Aside0.mk H
                clear H
                go_wp2_with (first | ((with_reducible refine gate_callee (f := 45) rfl ?_); refine goesL_ (some 32) rfl rfl Try.func45 (by kernel_rfl) rfl #[.slice A0 l0.length c0] rfl (by (try simp only [List.map_toArray, List.map_cons, List.map_nil]); first | done | rfl | (simp only [List.length_drop, List.length_take]; rfl)) ?_; (with_reducible refine (laws_typed.calls kj3 _ _ l0 true _ ?side1 ?side2 A22.out).mono ?_); (case side1 => repeat (first | exact (Kd.C_below HR0.out HB.out) | (with_reducible refine Kd.C_alloc ?_ _) | (with_reducible refine Kd.C_drewN ?_ _) | (with_reducible refine Kd.C_drew ?_))); (case side2 => exact HC0.out); rintro e w25 ⟨rfl, hb⟩; refine ⟨_, rfl, ?_⟩; have n0_ := Aside0.mk (Kd.R_below (by (with_reducible repeat (first | apply Kd.R_alloc | apply Kd.R_drewN | apply Kd.R_drew)); exact HO287.out) hb); have n1_ := Aside0.mk (Kd.R_below (by (with_reducible repeat (first | apply Kd.R_alloc | apply Kd.R_drewN | apply Kd.R_drew)); exact HO290.out) hb); have n2_ := Aside0.mk (below_step (by repeat (first | (with_reducible first | exact HB.out | apply below_alloc | apply pw_below_drewN | apply below_drew1) | exact HB.out)) hb); clear HO287; clear HO290; clear HB; have HO287 := n0_; have HO290 := n1_; have HB := n2_; clear n0_ n1_ n2_; (try clear hb); (try clear hb2); (try clear hk); (try clear hi)))
                go_meet
                case rel => exact ⟨_, (true), (by first | rfl | (simp; done) | (simp [*]; done) | (simp [*, q_isEmpty]; done) | (simp [*]; exact q_gt _ _ (by assumption))), H', ⟨by have := HJ3.out; first | omega | exact Nat.le_refl _⟩, ⟨by repeat (first | (with_reducible first | exact HB.out | apply below_alloc | apply pw_below_drewN | apply below_drew1) | exact HB.out)⟩⟩
              · rw [if_neg c24] at H
                have c24b0 : decide (300 < (l0.length : Int)) = false := decide_eq_false c24
                have c24b1 : decide (300 < l0.length) = false := decide_eq_false (by omega)
                clear c24
                (first | rw [c24b0] | (simp only [i64_w, i32_w]; rw [c24b0]) | skip)
                have H' := Aside0.mk H
                clear H
                go_wp2_with (first | ((with_reducible refine gate_callee (f := 45) rfl ?_); refine goesL_ (some 32) rfl rfl Try.func45 (by kernel_rfl) rfl #[.slice A0 l0.length c0] rfl (by (try simp only [List.map_toArray, List.map_cons, List.map_nil]); first | done | rfl | (simp only [List.length_drop, List.length_take]; rfl)) ?_; (with_reducible refine (laws_typed.calls kj3 _ _ l0 true _ ?side1 ?side2 A22.out).mono ?_); (case side1 => repeat (first | exact (Kd.C_below HR0.out HB.out) | (with_reducible refine Kd.C_alloc ?_ _) | (with_reducible refine Kd.C_drewN ?_ _) | (with_reducible refine Kd.C_drew ?_))); (case side2 => exact HC0.out); rintro e w26 ⟨rfl, hb⟩; refine ⟨_, rfl, ?_⟩; have n0_ := Aside0.mk (Kd.R_below (by (with_reducible repeat (first | apply Kd.R_alloc | apply Kd.R_drewN | apply Kd.R_drew)); exact HO287.out) hb); have n1_ := Aside0.mk (Kd.R_below (by (with_reducible repeat (first | apply Kd.R_alloc | apply Kd.R_drewN | apply Kd.R_drew)); exact HO290.out) hb); have n2_ := Aside0.mk (below_step (by repeat (first | (with_reducible first | exact HB.out | apply below_alloc | apply pw_below_drewN | apply below_drew1) | exact HB.out)) hb); clear HO287; clear HO290; clear HB; have HO287 := n0_; have HO290 := n1_; have HB := n2_; clear n0_ n1_ n2_; (try clear hb); (try clear hb2); (try clear hk); (try clear hi)))
                go_meet
                case rel => exact ⟨_, (decide ((l2.length : Int) > 1000)), (by first | rfl | (simp; done) | (simp [*]; done) | (simp [*, q_isEmpty]; done) | (simp [*]; exact q_gt _ _ (by assumption))), H', ⟨by have := HJ3.out; first | omega | exact Nat.le_refl _⟩, ⟨by repeat (first | (with_reducible first | exact HB.out | apply below_alloc | apply pw_below_drewN | apply below_drew1) | exact HB.out)⟩⟩
            · replace c23 := Bool.eq_false_iff.mpr c23
              subst c23
              have H1 : (laws_FnSortedSame.j1 kj3 l0 l1 l2 true) = some r := by rw [if_neg (show ¬ (false = true) by decide)] at H; exact H
              clear H
              have H := H1
              clear H1
              have H' := Aside0.mk H
              clear H
              go_wp2_with (first | ((with_reducible refine gate_callee (f := 45) rfl ?_); refine goesL_ (some 32) rfl rfl Try.func45 (by kernel_rfl) rfl #[.slice A0 l0.length c0] rfl (by (try simp only [List.map_toArray, List.map_cons, List.map_nil]); first | done | rfl | (simp only [List.length_drop, List.length_take]; rfl)) ?_; (with_reducible refine (laws_typed.calls kj3 _ _ l0 false _ ?side1 ?side2 A22.out).mono ?_); (case side1 => repeat (first | exact (Kd.C_below HR0.out HB.out) | (with_reducible refine Kd.C_alloc ?_ _) | (with_reducible refine Kd.C_drewN ?_ _) | (with_reducible refine Kd.C_drew ?_))); (case side2 => exact HC0.out); rintro e w27 ⟨rfl, hb⟩; refine ⟨_, rfl, ?_⟩; have n0_ := Aside0.mk (Kd.R_below (by (with_reducible repeat (first | apply Kd.R_alloc | apply Kd.R_drewN | apply Kd.R_drew)); exact HO287.out) hb); have n1_ := Aside0.mk (Kd.R_below (by (with_reducible repeat (first | apply Kd.R_alloc | apply Kd.R_drewN | apply Kd.R_drew)); exact HO290.out) hb); have n2_ := Aside0.mk (below_step (by repeat (first | (with_reducible first | exact HB.out | apply below_alloc | apply pw_below_drewN | apply below_drew1) | exact HB.out)) hb); clear HO287; clear HO290; clear HB; have HO287 := n0_; have HO290 := n1_; have HB := n2_; clear n0_ n1_ n2_; (try clear hb); (try clear hb2); (try clear hk); (try clear hi)))
              go_meet
              case rel => exact ⟨_, (true), (by first | rfl | (simp; done) | (simp [*]; done) | (simp [*, q_isEmpty]; done) | (simp [*]; exact q_gt _ _ (by assumption))), H', ⟨by have := HJ3.out; first | omega | exact Nat.le_refl _⟩, ⟨by repeat (first | (with_reducible first | exact HB.out | apply below_alloc | apply pw_below_drewN | apply below_drew1) | exact HB.out)⟩⟩
          case rest =>
            clear HC16
            try clear c1
            try clear c2
            try clear p2
            try clear c3
            try clear c4
            try clear c6
            try clear c7
            try clear c7b0
            try clear c7b1
            try clear c11
            try clear c13
            try clear c15
            try clear c15b0
            try clear c15b1
            try clear c23
            try clear c24
            try clear c24b0
            try clear c24b1
            try clear p2
            obtain ⟨kq, x43_15, rfl, HA, HJ15, HB⟩ := hcut
            cases kq with
            | zero => exact absurd HA.out (by simp [laws_FnSortedSame.j1])
            | succ kj15 =>
              have H := HA.out
              clear HA
              simp only [laws_FnSortedSame.j1] at H
              by_cases c28 : x43_15 = true
              · subst c28
                have H1 : (some true) = some r := by rw [if_pos rfl] at H; exact H
                clear H
                have H := H1
                clear H1
                obtain rfl := Option.some.inj H
                go_wp2
                go_ret
                exact ⟨by first | rfl | (simp [errW_none, errW_some] <;> rfl) | (simp [*, errW_none, errW_some] <;> rfl) | (simp [*, q_isEmpty]; done) | (simp [*]; exact q_gt _ _ (by assumption)), by repeat (first | (with_reducible first | exact HB.out | apply below_alloc | apply pw_below_drewN | apply below_drew1) | exact HB.out)⟩
              · replace c28 := Bool.eq_false_iff.mpr c28
                subst c28
                have H1 : ((some (([] : List (S52)) : List (S52))).bind fun y292 => (if y292.length + l0.length < 3518437208883 then (laws_FnSortedSame.l0 kj15 l0 l2 (y292 ++ l0) l1 (l1.length : Int) 0) else (none))) = some r := by rw [if_neg (show ¬ (false = true) by decide)] at H; exact H
                clear H
                have H := H1
                clear H1
                obtain ⟨y292, hy292⟩ : ∃ y_ : List (S52), y_ = (([] : List (S52))) := ⟨_, rfl⟩
                replace H : (if y292.length + l0.length < 3518437208883 then (laws_FnSortedSame.l0 kj15 l0 l2 (y292 ++ l0) l1 (l1.length : Int) 0) else (none)) = some r := by first | (rw [hy292]; with_reducible exact H) | (have H2_ := (Option.bind_some _ _).symm.trans H; rw [hy292]; with_reducible exact H2_) | (have H2_ := (Option.bind_some _ _).symm.trans H; with_reducible exact H2_) | with_reducible exact H | (rw [hy292]; exact H) | exact H
                have Ny292 := Aside0.mk hy292
                clear hy292
                by_cases c29 : y292.length + l0.length < 3518437208883
                · rw [if_pos c29] at H
                  have LMc29 := Aside0.mk c29
                  clear c29
                  obtain ⟨y295, hy295⟩ : ∃ y_ : List (S52), y_ = (y292 ++ l0) := ⟨_, rfl⟩
                  replace H : (laws_FnSortedSame.l0 kj15 l0 l2 y295 l1 (l1.length : Int) 0) = some r := by first | (rw [hy295]; with_reducible exact H) | (have H2_ := (Option.bind_some _ _).symm.trans H; rw [hy295]; with_reducible exact H2_) | (have H2_ := (Option.bind_some _ _).symm.trans H; with_reducible exact H2_) | with_reducible exact H | (rw [hy295]; exact H) | exact H
                  have Ny295 := Aside0.mk hy295
                  clear hy295
                  have H' := Aside0.mk H
                  clear H
                  go_wp2_with (first | ((with_reducible refine gate_dst (N := 44) rfl ?_); (try (refine gate_guard (by rfl) ?_; dsimp only)); refine Kd.R_lit k52 _ 52 ?hg (N := 44) ?hd (xs := ([] : List (S52))) (inner := []) (ok := fun _ => True) (okp := fun _ => True) ?hr ?hp (fun _ hk => hk) trivial (Below.refl _ _) (Nat.le_refl _) (by simp) ?_; (case hd => rfl); (case hg => rfl); (case hr => first | (go_simp; done) | (go_simp; rfl)); (case hp => exact (Reps.none _ _)); intro v293 w30 ho31 hb hg_ hnew_; clear hg_ hnew_; (first | rw [← Ny292.out] at ho31 | (simp only [Int.reduceToNat] at ho31; rw [← Ny292.out] at ho31)); have n0_ := Aside0.mk (Kd.R_lower ho31 (below_size (by repeat (first | (with_reducible first | exact HB.out | apply below_alloc | apply pw_below_drewN | apply below_drew1) | exact HB.out)))); have n1_ := Aside0.mk (below_step (by repeat (first | (with_reducible first | exact HB.out | apply below_alloc | apply pw_below_drewN | apply below_drew1) | exact HB.out)) hb); clear HB; have HO294 := n0_; have HB := n1_; clear n0_ n1_; clear hb ho31) | ((with_reducible refine gate_builtin (b := .append) (xs := #[.tmp 44, .tmp 45]) rfl ?_); (try (refine gate_guard (by rfl) ?_; dsimp only)); at_builtin; refine Kd.R_append_rows k52 (w0 := w) w.heap.size rfl (.tmp 44) (.tmp 45) 47 52 (.agg #[(.int .i64 0), (.string ⟨#[]⟩), (.string ⟨#[]⟩)]) 40 rfl Try.underlying47 info52 rfl (by decide) (by omega) v293 y292 l0 _ _ _ (fun _ => True) (fun _ => False) rfl rfl ?aO ?aR (fun _ _ h => h) (fun _ h => h.elim) ?aF ?aB ?aS ?aL ?_; (case aR => repeat (first | exact (Kd.C_below HR0.out HB.out) | (with_reducible refine Kd.C_alloc ?_ _) | (with_reducible refine Kd.C_drewN ?_ _) | (with_reducible refine Kd.C_drew ?_))); (case aB => exact (by repeat (first | (with_reducible first | exact HB.out | apply below_alloc | apply pw_below_drewN | apply below_drew1) | exact HB.out))); (case aF => exact (fun _ _ => trivial)); (case aO => exact (by (with_reducible repeat (first | apply Kd.R_alloc | apply Kd.R_drewN | apply Kd.R_drew)); exact HO294.out)); (case aS => exact (below_size (by repeat (first | (with_reducible first | exact HB.out | apply below_alloc | apply pw_below_drewN | apply below_drew1) | exact HB.out)))); (case aL => have := LMc29.out; omega); intro v296 w32 ho hb hg hat; rw [← Ny295.out] at ho; have n0_ := Aside0.mk (hb); have n1_ := Aside0.mk (ho); clear HB; clear HO294; have HB := n0_; have HO297 := n1_; clear n0_ n1_; clear ho hb hg hat))
                  go_loopg [49] kj15 (fun kq v49 w' => ∃ (x7_3 : List (S52)) (x49_3 : Int), v49 = .int .i64 x49_3 ∧ Aside0 (laws_FnSortedSame.l0 kq l0 l2 x7_3 l1 (l1.length : Int) x49_3 = some r) ∧ Aside0 (kq ≤ kj15) ∧ Aside0 (Kd.R k52 52 w' w.heap.size (fun _ => True) v296 x7_3) ∧ Aside0 (Below w.heap.size w w'))
                  case atStart => exact ⟨(y295), (0), (by first | rfl | (simp; done) | (simp [*]; done) | (simp [*, q_isEmpty]; done) | (simp [*]; exact q_gt _ _ (by assumption))), H', ⟨Nat.le_refl _⟩, ⟨by (with_reducible repeat (first | apply Kd.R_alloc | apply Kd.R_drewN | apply Kd.R_drew)); exact HO297.out⟩, ⟨by repeat (first | (with_reducible first | exact HB.out | apply below_alloc | apply pw_below_drewN | apply below_drew1) | exact HB.out)⟩⟩
                  case round =>
                    clear H'
                    try clear c1
                    try clear c2
                    try clear p2
                    try clear c3
                    try clear c4
                    try clear c6
                    try clear c7
                    try clear c7b0
                    try clear c7b1
                    try clear c11
                    try clear c13
                    try clear c15
                    try clear c15b0
                    try clear c15b1
                    try clear c23
                    try clear c24
                    try clear c24b0
                    try clear c24b1
                    try clear c28
                    try clear c29
                    try clear p2
                    obtain ⟨x7_3, x49_3, rfl, HA, HK3, HO_7, HB⟩ := hrel
                    cases gk with
                    | zero => exact absurd HA.out (by simp [laws_FnSortedSame.l0])
                    | succ k3 =>
                      have H := HA.out
                      clear HA
                      simp only [laws_FnSortedSame.l0] at H
                      by_cases c33 : x49_3 < (l1.length : Int)
                      · rw [if_pos c33] at H
                        have c33b0 : decide (x49_3 < (l1.length : Int)) = true := decide_eq_true c33
                        clear c33
                        by_cases c34 : 0 ≤ x49_3
                        · rw [if_pos c34] at H
                          have c34b0 : decide (0 ≤ x49_3) = true := decide_eq_true c34
                          clear c34
                          by_cases c35 : x49_3 < (l1.length : Int)
                          · rw [if_pos c35] at H
                            have c35b0 : decide (x49_3 < (l1.length : Int)) = true := decide_eq_true c35
                            clear c35
                            by_cases c36 : (x7_3.length : Int) > 0
                            · rw [if_pos c36] at H
                              have c36b0 : decide (0 < (x7_3.length : Int)) = true := decide_eq_true c36
                              have c36b1 : decide (0 < x7_3.length) = true := decide_eq_true (by omega)
                              clear c36
                              by_cases c37 : (x7_3.length : Int) = 0
                              · rw [if_pos c37] at H
                                exact absurd H (by simp)
                              · rw [if_neg c37] at H
                                have c37b0 : ((x7_3.length : Int) == 0) = false := beq_eq_false_iff_ne.mpr c37
                                have c37b1 : ((x7_3.length : Int) != 0) = true := bne_iff_ne.mpr c37
                                have c37b2 : ¬ (x7_3 = []) := fun h_ => c37 (by rw [h_]; rfl)
                                obtain ⟨ji38, hji38⟩ : ∃ j_ : Int, (Int.tmod (wrap64 (rd l1 x49_3)) (x7_3.length : Int)) = j_ := ⟨_, rfl⟩
                                replace H : (if 0 ≤ (ji38) then (if (ji38) < (x7_3.length : Int) then (if 0 ≤ (Int.tmod x49_3 (x7_3.length : Int)) then (if (Int.tmod x49_3 (x7_3.length : Int)) < (x7_3.length : Int) then (laws_FnSortedSame.l0 k3 l0 l2 ((x7_3.set ((Int.tmod x49_3 (x7_3.length : Int)) : Int).toNat (⟨(rd_T52 x7_3 (ji38)).f0, (rd_T52 x7_3 (ji38)).f1, (rd_T52 x7_3 (ji38)).f2⟩ : S52)).set ((ji38) : Int).toNat (⟨(rd_T52 x7_3 (Int.tmod x49_3 (x7_3.length : Int))).f0, (rd_T52 x7_3 (Int.tmod x49_3 (x7_3.length : Int))).f1, (rd_T52 x7_3 (Int.tmod x49_3 (x7_3.length : Int))).f2⟩ : S52)) l1 (l1.length : Int) (wrap64 (x49_3 + 1))) else (none)) else (none)) else (none)) else (none)) = some r := by first | (rw [hji38] at H; exact H) | (simp only [hji38] at H ⊢; exact H)
                                by_cases c39 : 0 ≤ (ji38)
                                · rw [if_pos c39] at H
                                  have c39b0 : decide (0 ≤ (ji38)) = true := decide_eq_true c39
                                  clear c39
                                  by_cases c40 : (ji38) < (x7_3.length : Int)
                                  · rw [if_pos c40] at H
                                    have c40b0 : decide ((ji38) < (x7_3.length : Int)) = true := decide_eq_true c40
                                    clear c40
                                    obtain ⟨ji41, hji41⟩ : ∃ j_ : Int, (Int.tmod x49_3 (x7_3.length : Int)) = j_ := ⟨_, rfl⟩
                                    replace H : (if 0 ≤ (ji41) then (if (ji41) < (x7_3.length : Int) then (laws_FnSortedSame.l0 k3 l0 l2 ((x7_3.set ((ji41) : Int).toNat (⟨(rd_T52 x7_3 (ji38)).f0, (rd_T52 x7_3 (ji38)).f1, (rd_T52 x7_3 (ji38)).f2⟩ : S52)).set ((ji38) : Int).toNat (⟨(rd_T52 x7_3 (ji41)).f0, (rd_T52 x7_3 (ji41)).f1, (rd_T52 x7_3 (ji41)).f2⟩ : S52)) l1 (l1.length : Int) (wrap64 (x49_3 + 1))) else (none)) else (none)) = some r := by first | (rw [hji41] at H; exact H) | (simp only [hji41] at H ⊢; exact H)
                                    by_cases c42 : 0 ≤ (ji41)
                                    · rw [if_pos c42] at H
                                      have c42b0 : decide (0 ≤ (ji41)) = true := decide_eq_true c42
                                      clear c42
                                      by_cases c43 : (ji41) < (x7_3.length : Int)
                                      · rw [if_pos c43] at H
                                        have c43b0 : decide ((ji41) < (x7_3.length : Int)) = true := decide_eq_true c43
                                        clear c43
                                        obtain ⟨y301, hy301⟩ : ∃ y_ : List (S52), y_ = (x7_3.set ((ji41) : Int).toNat (⟨(rd_T52 x7_3 (ji38)).f0, (rd_T52 x7_3 (ji38)).f1, (rd_T52 x7_3 (ji38)).f2⟩ : S52)) := ⟨_, rfl⟩
                                        replace H : (laws_FnSortedSame.l0 k3 l0 l2 (y301.set ((ji38) : Int).toNat (⟨(rd_T52 x7_3 (ji41)).f0, (rd_T52 x7_3 (ji41)).f1, (rd_T52 x7_3 (ji41)).f2⟩ : S52)) l1 (l1.length : Int) (wrap64 (x49_3 + 1))) = some r := by first | (rw [hy301]; with_reducible exact H) | (have H2_ := (Option.bind_some _ _).symm.trans H; rw [hy301]; with_reducible exact H2_) | (have H2_ := (Option.bind_some _ _).symm.trans H; with_reducible exact H2_) | with_reducible exact H | (rw [hy301]; exact H) | exact H
                                        have Ny301 := Aside0.mk hy301
                                        clear hy301
                                        obtain ⟨y302, hy302⟩ : ∃ y_ : List (S52), y_ = (y301.set ((ji38) : Int).toNat (⟨(rd_T52 x7_3 (ji41)).f0, (rd_T52 x7_3 (ji41)).f1, (rd_T52 x7_3 (ji41)).f2⟩ : S52)) := ⟨_, rfl⟩
                                        replace H : (laws_FnSortedSame.l0 k3 l0 l2 y302 l1 (l1.length : Int) (wrap64 (x49_3 + 1))) = some r := by first | (rw [hy302]; with_reducible exact H) | (have H2_ := (Option.bind_some _ _).symm.trans H; rw [hy302]; with_reducible exact H2_) | (have H2_ := (Option.bind_some _ _).symm.trans H; with_reducible exact H2_) | with_reducible exact H | (rw [hy302]; exact H) | exact H
                                        have Ny302 := Aside0.mk hy302
                                        clear hy302
                                        have H' := Aside0.mk H
                                        clear H
                                        have p298 : 0 ≤ (x49_3 : Int) := of_decide_eq_true (by first | (with_reducible assumption) | assumption)
                                        have q298 : x49_3 < (l1.length : Int) := of_decide_eq_true (by first | (with_reducible assumption) | assumption)
                                        obtain ⟨ad298, e298, hx298_0⟩ := Kd.at_int HR1.out x49_3 p298 q298
                                        cases e298
                                        replace hx298_0 := (HB.out.cell (World.block_lt_of_cell? w _ hx298_0)).trans hx298_0
                                        replace p298 := eq_true p298
                                        replace q298 := eq_true q298
                                        obtain ⟨Ao46, co46, eo46⟩ := Kd.R_slice HO_7.out
                                        subst eo46
                                        try go_wp2
                                        have n0_ := Aside0.mk (Kd.R_drew HO_7.out)
                                        have n1_ := Aside0.mk (below_drew1 HB.out)
                                        clear HO_7
                                        clear HB
                                        have HO_7 := n0_
                                        have HB := n1_
                                        clear n0_ n1_
                                        refine start_ (n := 11) (S := fun w' => True) (ds := []) #[false, false, false, false, false, false, false, false, false, false, false] (by kernel_rfl) rfl rfl trivial (fun hHeld => ?_); refine with_tabW laws_FnSortedSame.tab12 laws_FnSortedSame.bits12 (fun HT_ HW_ => ?_)
                                        generalize wr.drew = w47 at HO_7 HB hHeld ⊢
                                        refine pure_ (i := 0) (N := some 57) (v := ?_) (a' := ?_) #[true, false, false, false, false, false, false, false, false, false, false] rfl rfl (any_of HT_.out (by kernel_rfl)) (fun _ _ _ h => h) (Or.inl ⟨by rfl, ?_⟩) ?_ ?_
                                        rotate_left
                                        · intro w'
                                          go_simp
                                          with_reducible rfl
                                        rotate_left
                                        · simp only [Act.put, List.setIfInBounds_toArray, List.set_cons_zero, List.set_cons_succ, i64_w, i32_w]
                                          rfl
                                        refine pure_ (i := 1) (N := some 58) (v := ?_) (a' := ?_) #[true, true, false, false, false, false, false, false, false, false, false] rfl rfl (any_of HT_.out (by kernel_rfl)) (fun _ _ _ h => h) (Or.inl ⟨by rfl, ?_⟩) ?_ ?_
                                        rotate_left
                                        · intro w'
                                          go_simp
                                          with_reducible rfl
                                        rotate_left
                                        · simp only [Act.put, List.setIfInBounds_toArray, List.set_cons_zero, List.set_cons_succ, i64_w, i32_w]
                                          rfl
                                        refine pure_ (i := 2) (N := some 59) (v := ?_) (a' := ?_) #[true, true, true, false, false, false, false, false, false, false, false] rfl rfl (any_of HT_.out (by kernel_rfl)) (fun _ _ _ h => h) (Or.inl ⟨by rfl, ?_⟩) ?_ ?_
                                        rotate_left
                                        · intro w'
                                          go_simp
                                          with_reducible rfl
                                        rotate_left
                                        · simp only [Act.put, List.setIfInBounds_toArray, List.set_cons_zero, List.set_cons_succ, i64_w, i32_w]
                                          rfl
                                        refine pure_ (i := 3) (N := some 60) (v := ?_) (a' := ?_) #[true, true, true, true, false, false, false, false, false, false, false] rfl rfl (any_of HT_.out (by kernel_rfl)) (fun _ _ _ h => h) (Or.inl ⟨by rfl, ?_⟩) ?_ ?_
                                        rotate_left
                                        · intro w'
                                          go_simp
                                          with_reducible rfl
                                        rotate_left
                                        · simp only [Act.put, List.setIfInBounds_toArray, List.set_cons_zero, List.set_cons_succ, i64_w, i32_w]
                                          rfl
                                        refine pure_ (i := 4) (N := some 61) (v := ?_) (a' := ?_) #[true, true, true, true, true, false, false, false, false, false, false] rfl rfl (any_of HT_.out (by kernel_rfl)) (fun _ _ _ h => h) (Or.inl ⟨by rfl, ?_⟩) ?_ ?_
                                        rotate_left
                                        · intro w'
                                          go_simp
                                          with_reducible rfl
                                        rotate_left
                                        · simp only [Act.put, List.setIfInBounds_toArray, List.set_cons_zero, List.set_cons_succ, i64_w, i32_w]
                                          rfl
                                        refine pure_ (i := 5) (N := some 62) (v := ?_) (a' := ?_) #[true, true, true, true, true, true, false, false, false, false, false] rfl rfl (any_of HT_.out (by kernel_rfl)) (fun _ _ _ h => h) (Or.inl ⟨by rfl, ?_⟩) ?_ ?_
                                        rotate_left
                                        · intro w'
                                          go_simp
                                          with_reducible rfl
                                        rotate_left
                                        · simp only [Act.put, List.setIfInBounds_toArray, List.set_cons_zero, List.set_cons_succ, i64_w, i32_w]
                                          rfl
                                        refine pure_ (i := 6) (N := some 63) (v := ?_) (a' := ?_) #[true, true, true, true, true, true, true, false, false, false, false] rfl rfl (any_of HT_.out (by kernel_rfl)) (fun _ _ _ h => h) (Or.inl ⟨by rfl, ?_⟩) ?_ ?_
                                        rotate_left
                                        · intro w'
                                          go_simp
                                          with_reducible rfl
                                        rotate_left
                                        · simp only [Act.put, List.setIfInBounds_toArray, List.set_cons_zero, List.set_cons_succ, i64_w, i32_w]
                                          rfl
                                        refine pure_ (i := 7) (N := some 64) (v := ?_) (a' := ?_) #[true, true, true, true, true, true, true, true, false, false, false] rfl rfl (any_of HT_.out (by kernel_rfl)) (fun _ _ _ h => h) (Or.inl ⟨by rfl, ?_⟩) ?_ ?_
                                        rotate_left
                                        · intro w'
                                          go_simp
                                          with_reducible rfl
                                        rotate_left
                                        · simp only [Act.put, List.setIfInBounds_toArray, List.set_cons_zero, List.set_cons_succ, i64_w, i32_w]
                                          rfl
                                        refine pure_ (i := 8) (N := some 65) (v := ?_) (a' := ?_) #[true, true, true, true, true, true, true, true, true, false, false] rfl rfl (any_of HT_.out (by kernel_rfl)) (fun _ _ _ h => h) (Or.inl ⟨by rfl, ?_⟩) ?_ ?_
                                        rotate_left
                                        · intro w'
                                          go_simp
                                          with_reducible rfl
                                        rotate_left
                                        · simp only [Act.put, List.setIfInBounds_toArray, List.set_cons_zero, List.set_cons_succ, i64_w, i32_w]
                                          rfl
                                        refine pure_ (i := 9) (N := some 10) (v := ?_) (a' := ?_) #[true, true, true, true, true, true, true, true, true, true, false] rfl rfl (any_of HT_.out (by kernel_rfl)) (fun _ _ _ h => h) (Or.inl ⟨by rfl, ?_⟩) ?_ ?_
                                        rotate_left
                                        · intro w'
                                          go_simp
                                          with_reducible rfl
                                        rotate_left
                                        · simp only [Act.put, List.setIfInBounds_toArray, List.set_cons_zero, List.set_cons_succ, i64_w, i32_w]
                                          rfl
                                        refine pure_ (i := 10) (N := some 11) (v := ?_) (a' := ?_) #[true, true, true, true, true, true, true, true, true, true, true] rfl rfl (any_of HT_.out (by kernel_rfl)) (fun _ _ _ h => h) (Or.inl ⟨by rfl, ?_⟩) ?_ ?_
                                        rotate_left
                                        · intro w'
                                          go_simp
                                          with_reducible rfl
                                        rotate_left
                                        · simp only [Act.put, List.setIfInBounds_toArray, List.set_cons_zero, List.set_cons_succ, i64_w, i32_w]
                                          rfl
                                        refine done_ (done_of HT_.out (by kernel_rfl)) ?_
                                        try go_wp2
                                        have n0_ := Aside0.mk (Kd.R_drew HO_7.out)
                                        have n1_ := Aside0.mk (below_drew1 HB.out)
                                        clear HO_7
                                        clear HB
                                        have HO_7 := n0_
                                        have HB := n1_
                                        clear n0_ n1_
                                        have p299 : 0 ≤ ((ji38) : Int) := of_decide_eq_true (by first | (with_reducible assumption) | assumption)
                                        have q299 : (ji38) < (x7_3.length : Int) := of_decide_eq_true (by first | (with_reducible assumption) | assumption)
                                        obtain ⟨ad299, e299, hx299_0, hx299_1, hx299_2⟩ := at_T52 (Kd.R_reads' HO_7.out).2.2 (ji38) p299 q299
                                        cases e299
                                        replace p299 := eq_true p299
                                        replace q299 := eq_true q299
                                        have p300 : 0 ≤ ((ji41) : Int) := of_decide_eq_true (by first | (with_reducible assumption) | assumption)
                                        have q300 : (ji41) < (x7_3.length : Int) := of_decide_eq_true (by first | (with_reducible assumption) | assumption)
                                        obtain ⟨ad300, e300, hx300_0, hx300_1, hx300_2⟩ := at_T52 (Kd.R_reads' HO_7.out).2.2 (ji41) p300 q300
                                        obtain rfl : ad299 = ad300 := (by injection e300)
                                        replace p300 := eq_true p300
                                        replace q300 := eq_true q300
                                        have p44 : 0 ≤ ((ji41) : Int) := of_decide_eq_true (by first | (with_reducible assumption) | assumption)
                                        have q44 : ((ji41) : Int) < ((x7_3.length : Int) : Int) := of_decide_eq_true (by first | (with_reducible assumption) | assumption)
                                        obtain ⟨go44, co44, eo44, gb44, gl44, cl44, HG44⟩ := Kd.R_form HO_7.out (by omega)
                                        (first | cases eo44 | (injection eo44 with ea_ en_ ec_; (first | subst ea_ | (injection ea_ with ea_; subst ea_)); subst ec_; clear en_))
                                        have GB44 := Aside0.mk gb44
                                        have GG44 := Aside0.mk HG44
                                        clear gb44 gl44 HG44
                                        (first | simp only [add_plain] at hx299_0 | skip)
                                        (first | simp only [add_plain] at hx299_1 | skip)
                                        (first | simp only [add_plain] at hx299_2 | skip)
                                        (first | simp only [add_plain] at hx300_0 | skip)
                                        (first | simp only [add_plain] at hx300_1 | skip)
                                        (first | simp only [add_plain] at hx300_2 | skip)
                                        obtain ⟨ce44, hcl44, hM44, hcc44, hfr44⟩ := Kd.R_elem HO_7.out z52 ((ji41) : Int) p44 q44
                                        obtain rfl := k52_openM hM44
                                        have hx44_0 : World.cell? _ ⟨go44, ((ji41) : Int).toNat * 3, none⟩ = some (.int .i64 ((rd_T52 x7_3 (ji41)).f0)) := hcc44 0 _ rfl
                                        have hx44_1 : World.cell? _ ⟨go44, ((ji41) : Int).toNat * 3 + 1, none⟩ = some (.string ((rd_T52 x7_3 (ji41)).f1)) := hcc44 1 _ rfl
                                        have hx44_2 : World.cell? _ ⟨go44, ((ji41) : Int).toNat * 3 + 2, none⟩ = some (.string ((rd_T52 x7_3 (ji41)).f2)) := hcc44 2 _ rfl
                                        have hf44_0 : World.frozen? _ ⟨go44, ((ji41) : Int).toNat * 3, none⟩ = false := hfr44 0
                                        have hf44_1 : World.frozen? _ ⟨go44, ((ji41) : Int).toNat * 3 + 1, none⟩ = false := hfr44 1
                                        have hf44_2 : World.frozen? _ ⟨go44, ((ji41) : Int).toNat * 3 + 2, none⟩ = false := hfr44 2
                                        clear hcl44 hcc44 hfr44 hM44
                                        replace p44 := eq_true p44
                                        replace q44 := eq_true q44
                                        obtain ⟨ce49, hcl49, hM49, hcc49, hfr49⟩ := Kd.R_elem HO_7.out z52 ((ji41) : Int) (of_decide_eq_true (by first | (with_reducible assumption) | assumption)) (by have h_ : ((ji41) : Int) < ((x7_3.length : Int) : Int) := of_decide_eq_true (by first | (with_reducible assumption) | assumption); first | exact h_ | (have e_ := (Kd.R_reads' HO_7.out).1; omega) | simpa using h_)
                                        obtain rfl := k52_openM hM49
                                        have HP49 := (Kd.R_seg HO_7.out ((ji41) : Int) (of_decide_eq_true (by first | (with_reducible assumption) | assumption)) (by have h_ : ((ji41) : Int) < ((x7_3.length : Int) : Int) := of_decide_eq_true (by first | (with_reducible assumption) | assumption); first | exact h_ | (have e_ := (Kd.R_reads' HO_7.out).1; omega) | simpa using h_) (seg := [.int .i64 ((rd_T52 x7_3 (ji38)).f0), .string ((rd_T52 x7_3 (ji38)).f1), .string ((rd_T52 x7_3 (ji38)).f2)]) (j := 0) hcl49 hcc49 (show 3 ≤ 3 from by decide) (x' := (⟨(rd_T52 x7_3 (ji38)).f0, (rd_T52 x7_3 (ji38)).f1, (rd_T52 x7_3 (ji38)).f2⟩ : S52)) (k52_mkM _ _ _ (⟨(rd_T52 x7_3 (ji38)).f0, (rd_T52 x7_3 (ji38)).f1, (rd_T52 x7_3 (ji38)).f2⟩ : S52) ) (fun _ hk => hk)).1
                                        rw [← Ny301.out] at HP49
                                        have HQ49 := Aside0.mk HP49
                                        clear hcl49 hcc49 hfr49 hM49 HP49
                                        have p45 : 0 ≤ ((ji38) : Int) := of_decide_eq_true (by first | (with_reducible assumption) | assumption)
                                        have q45 : ((ji38) : Int) < ((x7_3.length : Int) : Int) := of_decide_eq_true (by first | (with_reducible assumption) | assumption)
                                        obtain ⟨ce45, hcl45, hM45, hcc45, hfr45⟩ := Kd.R_elem HQ49.out z52 ((ji38) : Int) p45 q45
                                        obtain rfl := k52_openM hM45
                                        have hx45_0 : World.cell? _ ⟨go44, ((ji38) : Int).toNat * 3, none⟩ = some (.int .i64 ((rd_T52 y301 (ji38)).f0)) := hcc45 0 _ rfl
                                        have hx45_1 : World.cell? _ ⟨go44, ((ji38) : Int).toNat * 3 + 1, none⟩ = some (.string ((rd_T52 y301 (ji38)).f1)) := hcc45 1 _ rfl
                                        have hx45_2 : World.cell? _ ⟨go44, ((ji38) : Int).toNat * 3 + 2, none⟩ = some (.string ((rd_T52 y301 (ji38)).f2)) := hcc45 2 _ rfl
                                        have hf45_0 : World.frozen? _ ⟨go44, ((ji38) : Int).toNat * 3, none⟩ = false := hfr45 0
                                        have hf45_1 : World.frozen? _ ⟨go44, ((ji38) : Int).toNat * 3 + 1, none⟩ = false := hfr45 1
                                        have hf45_2 : World.frozen? _ ⟨go44, ((ji38) : Int).toNat * 3 + 2, none⟩ = false := hfr45 2
                                        clear hcl45 hcc45 hfr45 hM45
                                        replace p45 := eq_true p45
                                        replace q45 := eq_true q45
                                        obtain ⟨ce50, hcl50, hM50, hcc50, hfr50⟩ := Kd.R_elem HQ49.out z52 ((ji38) : Int) (of_decide_eq_true (by first | (with_reducible assumption) | assumption)) (by have h_ : ((ji38) : Int) < ((x7_3.length : Int) : Int) := of_decide_eq_true (by first | (with_reducible assumption) | assumption); first | exact h_ | (have e_ := (Kd.R_reads' HO_7.out).1; omega) | simpa using h_)
                                        obtain rfl := k52_openM hM50
                                        have HP50 := (Kd.R_seg HQ49.out ((ji38) : Int) (of_decide_eq_true (by first | (with_reducible assumption) | assumption)) (by have h_ : ((ji38) : Int) < ((x7_3.length : Int) : Int) := of_decide_eq_true (by first | (with_reducible assumption) | assumption); first | exact h_ | (have e_ := (Kd.R_reads' HO_7.out).1; omega) | simpa using h_) (seg := [.int .i64 ((rd_T52 x7_3 (ji41)).f0), .string ((rd_T52 x7_3 (ji41)).f1), .string ((rd_T52 x7_3 (ji41)).f2)]) (j := 0) hcl50 hcc50 (show 3 ≤ 3 from by decide) (x' := (⟨(rd_T52 x7_3 (ji41)).f0, (rd_T52 x7_3 (ji41)).f1, (rd_T52 x7_3 (ji41)).f2⟩ : S52)) (k52_mkM _ _ _ (⟨(rd_T52 x7_3 (ji41)).f0, (rd_T52 x7_3 (ji41)).f1, (rd_T52 x7_3 (ji41)).f2⟩ : S52) ) (fun _ hk => hk)).1
                                        rw [← Ny302.out] at HP50
                                        have HQ50 := Aside0.mk HP50
                                        clear hcl50 hcc50 hfr50 hM50 HP50
                                        refine start_ (n := 16) (S := fun w' => w'.cell? ⟨go44, ((ji38) : Int).toNat * 3, none⟩ = some (.int .i64 ((rd_T52 x7_3 (ji38)).f0)) ∧ w'.cell? ⟨go44, ((ji38) : Int).toNat * 3 + 1, none⟩ = some (.string ((rd_T52 x7_3 (ji38)).f1)) ∧ w'.cell? ⟨go44, ((ji38) : Int).toNat * 3 + 2, none⟩ = some (.string ((rd_T52 x7_3 (ji38)).f2)) ∧ w'.cell? ⟨go44, ((ji41) : Int).toNat * 3, none⟩ = some (.int .i64 ((rd_T52 x7_3 (ji41)).f0)) ∧ w'.cell? ⟨go44, ((ji41) : Int).toNat * 3 + 1, none⟩ = some (.string ((rd_T52 x7_3 (ji41)).f1)) ∧ w'.cell? ⟨go44, ((ji41) : Int).toNat * 3 + 2, none⟩ = some (.string ((rd_T52 x7_3 (ji41)).f2))) (ds := [13, 15]) #[false, false, false, false, false, false, false, false, false, false, false, false, false, false, false, false] (by kernel_rfl) rfl rfl ⟨hx299_0, hx299_1, hx299_2, hx300_0, hx300_1, hx300_2⟩ (fun hHeld => ?_); refine with_tabW laws_FnSortedSame.tab13 laws_FnSortedSame.bits13 (fun HT_ HW_ => ?_)
                                        generalize w47.drew = w48 at HO_7 HB GG44 HQ49 HQ50 hf44_0 hf44_1 hf44_2 hf45_0 hf45_1 hf45_2 hx299_0 hx299_1 hx299_2 hx300_0 hx300_1 hx300_2 hx44_0 hx44_1 hx44_2 hx45_0 hx45_1 hx45_2 hHeld ⊢
                                        refine pure_ (i := 0) (N := some 66) (v := ?_) (a' := ?_) #[true, false, false, false, false, false, false, false, false, false, false, false, false, false, false, false] rfl rfl (any_of HT_.out (by kernel_rfl)) (fun _ _ _ h => h) (Or.inl ⟨by rfl, ?_⟩) ?_ ?_
                                        rotate_left
                                        · intro w'
                                          go_simp
                                          with_reducible rfl
                                        rotate_left
                                        · simp only [Act.put, List.setIfInBounds_toArray, List.set_cons_zero, List.set_cons_succ, i64_w, i32_w]
                                          rfl
                                        refine pure_ (i := 1) (N := some 67) (v := ?_) (a' := ?_) #[true, true, false, false, false, false, false, false, false, false, false, false, false, false, false, false] rfl rfl (any_of HT_.out (by kernel_rfl)) (fun _ _ _ h => h) (Or.inl ⟨by rfl, ?_⟩) ?_ ?_
                                        rotate_left
                                        · intro w'
                                          go_simp
                                          with_reducible rfl
                                        rotate_left
                                        · simp only [Act.put, List.setIfInBounds_toArray, List.set_cons_zero, List.set_cons_succ, i64_w, i32_w]
                                          rfl
                                        refine pure_ (i := 2) (N := some 68) (v := ?_) (a' := ?_) #[true, true, true, false, false, false, false, false, false, false, false, false, false, false, false, false] rfl rfl (any_of HT_.out (by kernel_rfl)) (fun _ _ _ h => h) (Or.inl ⟨by rfl, ?_⟩) ?_ ?_
                                        rotate_left
                                        · intro w'
                                          go_simp
                                          with_reducible rfl
                                        rotate_left
                                        · simp only [Act.put, List.setIfInBounds_toArray, List.set_cons_zero, List.set_cons_succ, i64_w, i32_w]
                                          rfl
                                        refine pure_ (i := 3) (N := some 69) (v := ?_) (a' := ?_) #[true, true, true, true, false, false, false, false, false, false, false, false, false, false, false, false] rfl rfl (any_of HT_.out (by kernel_rfl)) (fun _ _ _ h => h) (Or.inl ⟨by rfl, ?_⟩) ?_ ?_
                                        rotate_left
                                        · intro w'
                                          go_simp
                                          with_reducible rfl
                                        rotate_left
                                        · simp only [Act.put, List.setIfInBounds_toArray, List.set_cons_zero, List.set_cons_succ, i64_w, i32_w]
                                          rfl
                                        refine pure_ (i := 4) (N := some 70) (v := ?_) (a' := ?_) #[true, true, true, true, true, false, false, false, false, false, false, false, false, false, false, false] rfl rfl (any_of HT_.out (by kernel_rfl)) (fun _ _ _ h => h) (Or.inl ⟨by rfl, ?_⟩) ?_ ?_
                                        rotate_left
                                        · intro w'
                                          go_simp
                                          with_reducible rfl
                                        rotate_left
                                        · simp only [Act.put, List.setIfInBounds_toArray, List.set_cons_zero, List.set_cons_succ, i64_w, i32_w]
                                          rfl
                                        refine pure_ (i := 5) (N := some 71) (v := ?_) (a' := ?_) #[true, true, true, true, true, true, false, false, false, false, false, false, false, false, false, false] rfl rfl (any_of HT_.out (by kernel_rfl)) (fun _ _ _ h => h) (Or.inl ⟨by rfl, ?_⟩) ?_ ?_
                                        rotate_left
                                        · intro w'
                                          go_simp
                                          with_reducible rfl
                                        rotate_left
                                        · simp only [Act.put, List.setIfInBounds_toArray, List.set_cons_zero, List.set_cons_succ, i64_w, i32_w]
                                          rfl
                                        refine pure_ (i := 6) (N := some 72) (v := ?_) (a' := ?_) #[true, true, true, true, true, true, true, false, false, false, false, false, false, false, false, false] rfl rfl (any_of HT_.out (by kernel_rfl)) (fun _ _ _ h => h) (Or.inl ⟨by rfl, ?_⟩) ?_ ?_
                                        rotate_left
                                        · intro w'
                                          go_simp
                                          with_reducible rfl
                                        rotate_left
                                        · simp only [Act.put, List.setIfInBounds_toArray, List.set_cons_zero, List.set_cons_succ, i64_w, i32_w]
                                          rfl
                                        refine pure_ (i := 8) (N := some 74) (v := ?_) (a' := ?_) #[true, true, true, true, true, true, true, false, true, false, false, false, false, false, false, false] rfl rfl (any_of HT_.out (by kernel_rfl)) (fun _ _ _ h => h) (Or.inl ⟨by rfl, ?_⟩) ?_ ?_
                                        rotate_left
                                        · intro w'
                                          go_simp
                                          with_reducible rfl
                                        rotate_left
                                        · simp only [Act.put, List.setIfInBounds_toArray, List.set_cons_zero, List.set_cons_succ, i64_w, i32_w]
                                          rfl
                                        refine pure_ (i := 9) (N := some 75) (v := ?_) (a' := ?_) #[true, true, true, true, true, true, true, false, true, true, false, false, false, false, false, false] rfl rfl (any_of HT_.out (by kernel_rfl)) (fun _ _ _ h => h) (Or.inl ⟨by rfl, ?_⟩) ?_ ?_
                                        rotate_left
                                        · intro w'
                                          go_simp
                                          with_reducible rfl
                                        rotate_left
                                        · simp only [Act.put, List.setIfInBounds_toArray, List.set_cons_zero, List.set_cons_succ, i64_w, i32_w]
                                          rfl
                                        refine pure_ (i := 10) (N := some 76) (v := ?_) (a' := ?_) #[true, true, true, true, true, true, true, false, true, true, true, false, false, false, false, false] rfl rfl (any_of HT_.out (by kernel_rfl)) (fun _ _ _ h => h) (Or.inl ⟨by rfl, ?_⟩) ?_ ?_
                                        rotate_left
                                        · intro w'
                                          go_simp
                                          with_reducible rfl
                                        rotate_left
                                        · simp only [Act.put, List.setIfInBounds_toArray, List.set_cons_zero, List.set_cons_succ, i64_w, i32_w]
                                          rfl
                                        refine take_ (i := 7) (N := some 73) (v := ?_) (a' := ?_) #[true, true, true, true, true, true, true, true, true, true, true, false, false, false, false, false] rfl rfl (take_ofW HT_.out HW_.out (by kernel_rfl)) (fun _ _ _ h => h) (Or.inl ⟨by rfl, ?_⟩) hHeld ?_ ?_
                                        rotate_left
                                        · rintro w' ⟨s0, s1, s2, s3, s4, s5⟩
                                          go_simp
                                          with_reducible rfl
                                        rotate_left
                                        · simp only [Act.put, List.setIfInBounds_toArray, List.set_cons_zero, List.set_cons_succ, i64_w, i32_w]
                                          rfl
                                        refine take_ (i := 11) (N := some 77) (v := ?_) (a' := ?_) #[true, true, true, true, true, true, true, true, true, true, true, true, false, false, false, false] rfl rfl (take_ofW HT_.out HW_.out (by kernel_rfl)) (fun _ _ _ h => h) (Or.inl ⟨by rfl, ?_⟩) hHeld ?_ ?_
                                        rotate_left
                                        · rintro w' ⟨s0, s1, s2, s3, s4, s5⟩
                                          go_simp
                                          with_reducible rfl
                                        rotate_left
                                        · simp only [Act.put, List.setIfInBounds_toArray, List.set_cons_zero, List.set_cons_succ, i64_w, i32_w]
                                          rfl
                                        refine pure_ (i := 12) (N := some 78) (v := ?_) (a' := ?_) #[true, true, true, true, true, true, true, true, true, true, true, true, true, false, false, false] rfl rfl (any_of HT_.out (by kernel_rfl)) (fun _ _ _ h => h) (Or.inl ⟨by rfl, ?_⟩) ?_ ?_
                                        rotate_left
                                        · intro w'
                                          go_simp
                                          with_reducible rfl
                                        rotate_left
                                        · simp only [Act.put, List.setIfInBounds_toArray, List.set_cons_zero, List.set_cons_succ, i64_w, i32_w]
                                          rfl
                                        refine last_ (i := 13) (N := none) #[true, true, true, true, true, true, true, true, true, true, true, true, true, true, false, false] rfl rfl (one_of HT_.out (by kernel_rfl)) (by decide) (fun K hK => ?_)
                                        refine skip_ (w1 := ?_) (by rfl) rfl ?_ ?_
                                        rotate_left
                                        · go_simp
                                          rfl
                                        refine hK.out _ _ ?_
                                        clear hK K
                                        have HBW1 : Aside0 (Below w.heap.size w (w48.setCells go44 (ji41.toNat * k52.sz + 0) [.int .i64 (rd_T52 x7_3 ji38).f0, .string (rd_T52 x7_3 ji38).f1, .string (rd_T52 x7_3 ji38).f2])) := ⟨((HB.out.setCell (p := ⟨go44, ji41.toNat * 3, none⟩) GB44.out (.int .i64 (rd_T52 x7_3 ji38).f0)).setCell (p := ⟨go44, ji41.toNat * 3 + 1, none⟩) GB44.out (.string (rd_T52 x7_3 ji38).f1)).setCell (p := ⟨go44, ji41.toNat * 3 + 2, none⟩) GB44.out (.string (rd_T52 x7_3 ji38).f2)⟩
                                        have hgW : (((w48.setCell ⟨go44, ji41.toNat * 3, none⟩ (.int .i64 (rd_T52 x7_3 ji38).f0)).setCell ⟨go44, ji41.toNat * 3 + 1, none⟩ (.string (rd_T52 x7_3 ji38).f1)).setCell ⟨go44, ji41.toNat * 3 + 2, none⟩ (.string (rd_T52 x7_3 ji38).f2)) = w48.setCells go44 (ji41.toNat * k52.sz + 0) [.int .i64 (rd_T52 x7_3 ji38).f0, .string (rd_T52 x7_3 ji38).f1, .string (rd_T52 x7_3 ji38).f2] := rfl
                                        rw [hgW]
                                        clear hgW
                                        generalize w48.setCells go44 (ji41.toNat * k52.sz + 0) [.int .i64 (rd_T52 x7_3 ji38).f0, .string (rd_T52 x7_3 ji38).f1, .string (rd_T52 x7_3 ji38).f2] = W1 at HQ49 HQ50 hf45_0 hf45_1 hf45_2 hx45_0 hx45_1 hx45_2 HBW1 ⊢
                                        replace HB := HBW1
                                        clear HBW1
                                        refine pure_ (i := 14) (N := some 79) (v := ?_) (a' := ?_) #[true, true, true, true, true, true, true, true, true, true, true, true, true, true, true, false] rfl rfl (any_of HT_.out (by kernel_rfl)) (fun _ _ _ h => h) (Or.inl ⟨by rfl, ?_⟩) ?_ ?_
                                        rotate_left
                                        · intro w'
                                          go_simp
                                          with_reducible rfl
                                        rotate_left
                                        · simp only [Act.put, List.setIfInBounds_toArray, List.set_cons_zero, List.set_cons_succ, i64_w, i32_w]
                                          rfl
                                        refine last_ (i := 15) (N := none) #[true, true, true, true, true, true, true, true, true, true, true, true, true, true, true, true] rfl rfl (one_of HT_.out (by kernel_rfl)) (by decide) (fun K hK => ?_)
                                        refine skip_ (w1 := ?_) (by rfl) rfl ?_ ?_
                                        rotate_left
                                        · go_simp
                                          rfl
                                        refine hK.out _ _ ?_
                                        clear hK K
                                        refine done_ (done_of HT_.out (by kernel_rfl)) ?_
                                        try go_wp2
                                        go_roundg k3
                                        case measure => have := HJ3.out; have := HJ15.out; have := HK3.out; omega
                                        case rel => exact ⟨(y302), (wrap64 (x49_3 + 1)), (by first | rfl | (simp; done) | (simp [*]; done) | (simp [*, q_isEmpty]; done) | (simp [*]; exact q_gt _ _ (by assumption))), H', ⟨by have := HJ3.out; have := HJ15.out; have := HK3.out; omega⟩, ⟨by (with_reducible repeat (first | apply Kd.R_alloc | apply Kd.R_drewN | apply Kd.R_drew)); exact HQ50.out⟩, ⟨by repeat (first | (with_reducible first | exact HB.out | apply below_alloc | apply pw_below_drewN | apply below_drew1 | refine below_set ?_ GB44.out | refine below_set ?_ GB44.out | refine below_set ?_ GB44.out | refine below_set ?_ GB44.out | refine below_set ?_ GB44.out | refine below_set ?_ GB44.out) | exact HB.out)⟩⟩
                                      · rw [if_neg c43] at H
                                        exact absurd H (by simp)
                                    · rw [if_neg c42] at H
                                      exact absurd H (by simp)
                                  · rw [if_neg c40] at H
                                    exact absurd H (by simp)
                                · rw [if_neg c39] at H
                                  exact absurd H (by simp)
                            · rw [if_neg c36] at H
                              have c36b0 : decide (0 < (x7_3.length : Int)) = false := decide_eq_false c36
                              have c36b1 : decide (0 < x7_3.length) = false := decide_eq_false (by omega)
                              clear c36
                              have H' := Aside0.mk H
                              clear H
                              have p298 : 0 ≤ (x49_3 : Int) := of_decide_eq_true (by first | (with_reducible assumption) | assumption)
                              have q298 : x49_3 < (l1.length : Int) := of_decide_eq_true (by first | (with_reducible assumption) | assumption)
                              obtain ⟨ad298, e298, hx298_0⟩ := Kd.at_int HR1.out x49_3 p298 q298
                              cases e298
                              replace hx298_0 := (HB.out.cell (World.block_lt_of_cell? w _ hx298_0)).trans hx298_0
                              replace p298 := eq_true p298
                              replace q298 := eq_true q298
                              obtain ⟨Ao51, co51, eo51⟩ := Kd.R_slice HO_7.out
                              subst eo51
                              go_wp2
                              go_roundg k3
                              case measure => have := HJ3.out; have := HJ15.out; have := HK3.out; omega
                              case rel => exact ⟨(x7_3), (wrap64 (x49_3 + 1)), (by first | rfl | (simp; done) | (simp [*]; done) | (simp [*, q_isEmpty]; done) | (simp [*]; exact q_gt _ _ (by assumption))), H', ⟨by have := HJ3.out; have := HJ15.out; have := HK3.out; omega⟩, ⟨by (with_reducible repeat (first | apply Kd.R_alloc | apply Kd.R_drewN | apply Kd.R_drew)); exact HO_7.out⟩, ⟨by repeat (first | (with_reducible first | exact HB.out | apply below_alloc | apply pw_below_drewN | apply below_drew1) | exact HB.out)⟩⟩
                          · rw [if_neg c35] at H
                            exact absurd H (by simp)
                        · rw [if_neg c34] at H
                          exact absurd H (by simp)
                      · rw [if_neg c33] at H
                        have c33b0 : decide (x49_3 < (l1.length : Int)) = false := decide_eq_false c33
                        clear c33
                        replace H := Option.bind_eq_some_iff.mp H
                        obtain ⟨t303, A520, H⟩ := H
                        replace H : ((impl_Sorted.f x7_3).bind fun t306 => ((laws_eqMatchers.f k3 t306 t303).bind fun t309 => (if t309 = true then ((impl_Sorted.f t303).bind fun t310 => ((laws_eqMatchers.f k3 t310 t303).bind fun t313 => (if t313 = true then ((impl_MatchAll.f t303 l2).bind fun t314 => ((impl_MatchAll.f l0 l2).bind fun t315 => (some (t314 == t315)))) else (some false)))) else (some false)))) = some r := H
                        have A52 := Aside0.mk A520
                        clear A520
                        replace H := Option.bind_eq_some_iff.mp H
                        obtain ⟨t306, A530, H⟩ := H
                        replace H : ((laws_eqMatchers.f k3 t306 t303).bind fun t309 => (if t309 = true then ((impl_Sorted.f t303).bind fun t310 => ((laws_eqMatchers.f k3 t310 t303).bind fun t313 => (if t313 = true then ((impl_MatchAll.f t303 l2).bind fun t314 => ((impl_MatchAll.f l0 l2).bind fun t315 => (some (t314 == t315)))) else (some false)))) else (some false))) = some r := H
                        have A53 := Aside0.mk A530
                        clear A530
                        replace H := Option.bind_eq_some_iff.mp H
                        obtain ⟨t309, A540, H⟩ := H
                        replace H : (if t309 = true then ((impl_Sorted.f t303).bind fun t310 => ((laws_eqMatchers.f k3 t310 t303).bind fun t313 => (if t313 = true then ((impl_MatchAll.f t303 l2).bind fun t314 => ((impl_MatchAll.f l0 l2).bind fun t315 => (some (t314 == t315)))) else (some false)))) else (some false)) = some r := H
                        have A54 := Aside0.mk A540
                        clear A540
                        by_cases c55 : t309 = true
                        · subst c55
                          have H1 : ((impl_Sorted.f t303).bind fun t310 => ((laws_eqMatchers.f k3 t310 t303).bind fun t313 => (if t313 = true then ((impl_MatchAll.f t303 l2).bind fun t314 => ((impl_MatchAll.f l0 l2).bind fun t315 => (some (t314 == t315)))) else (some false)))) = some r := by rw [if_pos rfl] at H; exact H
                          clear H
                          have H := H1
                          clear H1
                          replace H := Option.bind_eq_some_iff.mp H
                          obtain ⟨t310, A560, H⟩ := H
                          replace H : ((laws_eqMatchers.f k3 t310 t303).bind fun t313 => (if t313 = true then ((impl_MatchAll.f t303 l2).bind fun t314 => ((impl_MatchAll.f l0 l2).bind fun t315 => (some (t314 == t315)))) else (some false))) = some r := H
                          have A56 := Aside0.mk A560
                          clear A560
                          replace H := Option.bind_eq_some_iff.mp H
                          obtain ⟨t313, A570, H⟩ := H
                          replace H : (if t313 = true then ((impl_MatchAll.f t303 l2).bind fun t314 => ((impl_MatchAll.f l0 l2).bind fun t315 => (some (t314 == t315)))) else (some false)) = some r := H
                          have A57 := Aside0.mk A570
                          clear A570
                          by_cases c58 : t313 = true
                          · subst c58
                            have H1 : ((impl_MatchAll.f t303 l2).bind fun t314 => ((impl_MatchAll.f l0 l2).bind fun t315 => (some (t314 == t315)))) = some r := by rw [if_pos rfl] at H; exact H
                            clear H
                            have H := H1
                            clear H1
                            replace H := Option.bind_eq_some_iff.mp H
                            obtain ⟨t314, A590, H⟩ := H
                            replace H : ((impl_MatchAll.f l0 l2).bind fun t315 => (some (t314 == t315))) = some r := H
                            have A59 := Aside0.mk A590
                            clear A590
                            replace H := Option.bind_eq_some_iff.mp H
                            obtain ⟨t315, A600, H⟩ := H
                            replace H : (some (t314 == t315)) = some r := H
                            have A60 := Aside0.mk A600
                            clear A600
                            obtain rfl := Option.some.inj H
                            go_wp2_with (first | ((with_reducible refine gate_callee (f := 44) rfl ?_); refine goesL_ (some 82) rfl rfl Try.func44 (by kernel_rfl) rfl #[.slice A0 l0.length c0] rfl (by (try simp only [List.map_toArray, List.map_cons, List.map_nil]); first | done | rfl | (simp only [List.length_drop, List.length_take]; rfl)) ?_; (with_reducible refine (impl_Sorted.calls _ _ l0 t303 _ ?side1 ?side2 A52.out).mono ?_); (case side1 => repeat (first | exact (Kd.C_below HR0.out HB.out) | (with_reducible refine Kd.C_alloc ?_ _) | (with_reducible refine Kd.C_drewN ?_ _) | (with_reducible refine Kd.C_drew ?_))); (case side2 => exact HC0.out); rintro e w61 ⟨v304, rfl, ho0, hb⟩; refine ⟨_, rfl, ?_⟩; have n0_ := Aside0.mk (Kd.R_elder' (by (with_reducible repeat (first | apply Kd.R_alloc | apply Kd.R_drewN | apply Kd.R_drew)); exact HO_7.out) (Kd.R_base ho0) hb); have n1_ := Aside0.mk (Kd.R_lower (Kd.R_new' ho0 (Kd.R_lt (by (with_reducible repeat (first | apply Kd.R_alloc | apply Kd.R_drewN | apply Kd.R_drew)); exact HO_7.out))) (below_size (by repeat (first | (with_reducible first | exact HB.out | apply below_alloc | apply pw_below_drewN | apply below_drew1) | exact HB.out)))); have n2_ := Aside0.mk (below_step (by repeat (first | (with_reducible first | exact HB.out | apply below_alloc | apply pw_below_drewN | apply below_drew1) | exact HB.out)) hb); clear HO_7; clear HB; have HO_7 := n0_; have HO305 := n1_; have HB := n2_; clear n0_ n1_ n2_; (try clear hb); (try clear hb2); (try clear hk); (try clear hi); (try clear ho0); obtain ⟨Ao62, co62, eo62⟩ := Kd.R_slice HO_7.out; subst eo62; clear A52) | ((with_reducible refine gate_callee (f := 44) rfl ?_); refine goesL_ (some 84) rfl rfl Try.func44 (by kernel_rfl) rfl #[.slice Ao62 x7_3.length co62] rfl (by (try simp only [List.map_toArray, List.map_cons, List.map_nil]); first | done | rfl | (simp only [List.length_drop, List.length_take]; rfl)) ?_; (with_reducible refine (impl_Sorted.calls _ _ x7_3 t306 _ ?side1 ?side2 A53.out).mono ?_); (case side1 => repeat (first | exact (Kd.R_reads' HO_7.out).2.2 | (with_reducible refine Kd.C_alloc ?_ _) | (with_reducible refine Kd.C_drewN ?_ _) | (with_reducible refine Kd.C_drew ?_))); (case side2 => exact (Kd.R_reads' HO_7.out).2.1); rintro e w63 ⟨v307, rfl, ho0, hb⟩; refine ⟨_, rfl, ?_⟩; have n0_ := Aside0.mk (Kd.R_elder' (by (with_reducible repeat (first | apply Kd.R_alloc | apply Kd.R_drewN | apply Kd.R_drew)); exact HO_7.out) (Kd.R_base ho0) hb); have n1_ := Aside0.mk (Kd.R_elder' (by (with_reducible repeat (first | apply Kd.R_alloc | apply Kd.R_drewN | apply Kd.R_drew)); exact HO305.out) (Kd.R_base ho0) hb); have n2_ := Aside0.mk (Kd.R_lower (Kd.R_new' (Kd.R_new' ho0 (Kd.R_lt (by (with_reducible repeat (first | apply Kd.R_alloc | apply Kd.R_drewN | apply Kd.R_drew)); exact HO_7.out))) (Kd.R_lt (by (with_reducible repeat (first | apply Kd.R_alloc | apply Kd.R_drewN | apply Kd.R_drew)); exact HO305.out))) (below_size (by repeat (first | (with_reducible first | exact HB.out | apply below_alloc | apply pw_below_drewN | apply below_drew1) | exact HB.out)))); have n3_ := Aside0.mk (below_step (by repeat (first | (with_reducible first | exact HB.out | apply below_alloc | apply pw_below_drewN | apply below_drew1) | exact HB.out)) hb); clear HO_7; clear HO305; clear HB; have HO_7 := n0_; have HO305 := n1_; have HO308 := n2_; have HB := n3_; clear n0_ n1_ n2_ n3_; (try clear hb); (try clear hb2); (try clear hk); (try clear hi); (try clear ho0); obtain ⟨Ao64, co64, eo64⟩ := Kd.R_slice HO308.out; subst eo64; obtain ⟨Ao65, co65, eo65⟩ := Kd.R_slice HO305.out; subst eo65; clear A53) | ((with_reducible refine gate_callee (f := 46) rfl ?_); refine goesL_ (some 86) rfl rfl Try.func46 (by kernel_rfl) rfl #[.slice Ao64 t306.length co64, .slice Ao65 t303.length co65] rfl (by (try simp only [List.map_toArray, List.map_cons, List.map_nil]); first | done | rfl | (simp only [List.length_drop, List.length_take]; rfl)) ?_; (with_reducible refine (laws_eqMatchers.calls k3 _ _ t306 _ _ t303 true _ ?side1 ?side2 ?side3 ?side4 A54.out).mono ?_); (case side1 => repeat (first | exact (Kd.R_reads' HO308.out).2.2 | (with_reducible refine Kd.C_alloc ?_ _) | (with_reducible refine Kd.C_drewN ?_ _) | (with_reducible refine Kd.C_drew ?_))); (case side2 => exact (Kd.R_reads' HO308.out).2.1); (case side3 => repeat (first | exact (Kd.R_reads' HO305.out).2.2 | (with_reducible refine Kd.C_alloc ?_ _) | (with_reducible refine Kd.C_drewN ?_ _) | (with_reducible refine Kd.C_drew ?_))); (case side4 => exact (Kd.R_reads' HO305.out).2.1); rintro e w' ⟨rfl, ⟨nd, rfl⟩⟩; refine ⟨_, rfl, ?_⟩) | (go_at_call 44; (with_reducible refine (impl_Sorted.calls _ _ t303 t310 _ ?side1 ?side2 A56.out).mono ?_); (case side1 => repeat (first | exact (Kd.R_reads' HO305.out).2.2 | (with_reducible refine Kd.C_alloc ?_ _) | (with_reducible refine Kd.C_drewN ?_ _) | (with_reducible refine Kd.C_drew ?_))); (case side2 => exact (Kd.R_reads' HO305.out).2.1); rintro e w66 ⟨v311, rfl, ho0, hb⟩; have n0_ := Aside0.mk (Kd.R_elder' (by (with_reducible repeat (first | apply Kd.R_alloc | apply Kd.R_drewN | apply Kd.R_drew)); exact HO_7.out) (Kd.R_base ho0) hb); have n1_ := Aside0.mk (Kd.R_elder' (by (with_reducible repeat (first | apply Kd.R_alloc | apply Kd.R_drewN | apply Kd.R_drew)); exact HO305.out) (Kd.R_base ho0) hb); have n2_ := Aside0.mk (Kd.R_elder' (by (with_reducible repeat (first | apply Kd.R_alloc | apply Kd.R_drewN | apply Kd.R_drew)); exact HO308.out) (Kd.R_base ho0) hb); have n3_ := Aside0.mk (Kd.R_lower (Kd.R_new' (Kd.R_new' (Kd.R_new' ho0 (Kd.R_lt (by (with_reducible repeat (first | apply Kd.R_alloc | apply Kd.R_drewN | apply Kd.R_drew)); exact HO_7.out))) (Kd.R_lt (by (with_reducible repeat (first | apply Kd.R_alloc | apply Kd.R_drewN | apply Kd.R_drew)); exact HO305.out))) (Kd.R_lt (by (with_reducible repeat (first | apply Kd.R_alloc | apply Kd.R_drewN | apply Kd.R_drew)); exact HO308.out))) (below_size (by repeat (first | (with_reducible first | exact HB.out | apply below_alloc | apply pw_below_drewN | apply below_drew1) | exact HB.out)))); have n4_ := Aside0.mk (below_step (by repeat (first | (with_reducible first | exact HB.out | apply below_alloc | apply pw_below_drewN | apply below_drew1) | exact HB.out)) hb); clear HO_7; clear HO305; clear HO308; clear HB; have HO_7 := n0_; have HO305 := n1_; have HO308 := n2_; have HO312 := n3_; have HB := n4_; clear n0_ n1_ n2_ n3_ n4_; (try clear hb); (try clear hb2); (try clear hk); (try clear hi); (try clear ho0); obtain ⟨Ao67, co67, eo67⟩ := Kd.R_slice HO312.out; subst eo67) | (go_at_call 46; (with_reducible refine (laws_eqMatchers.calls k3 _ _ t310 _ _ t303 true _ ?side1 ?side2 ?side3 ?side4 A57.out).mono ?_); (case side1 => repeat (first | exact (Kd.R_reads' HO312.out).2.2 | (with_reducible refine Kd.C_alloc ?_ _) | (with_reducible refine Kd.C_drewN ?_ _) | (with_reducible refine Kd.C_drew ?_))); (case side2 => exact (Kd.R_reads' HO312.out).2.1); (case side3 => repeat (first | exact (Kd.R_reads' HO305.out).2.2 | (with_reducible refine Kd.C_alloc ?_ _) | (with_reducible refine Kd.C_drewN ?_ _) | (with_reducible refine Kd.C_drew ?_))); (case side4 => exact (Kd.R_reads' HO305.out).2.1); rintro e w' ⟨rfl, ⟨nd, rfl⟩⟩) | (go_at_call 47; (with_reducible refine (impl_MatchAll.calls _ _ t303 _ _ l2 t314 _ ?side1 ?side2 ?side3 ?side4 A59.out).mono ?_); (case side1 => repeat (first | exact (Kd.R_reads' HO305.out).2.2 | (with_reducible refine Kd.C_alloc ?_ _) | (with_reducible refine Kd.C_drewN ?_ _) | (with_reducible refine Kd.C_drew ?_))); (case side2 => exact (Kd.R_reads' HO305.out).2.1); (case side3 => repeat (first | exact (Kd.C_below HR2.out (by repeat (first | (with_reducible first | exact HB.out | apply below_alloc | apply pw_below_drewN | apply below_drew1) | exact HB.out))) | (with_reducible refine Kd.C_alloc ?_ _) | (with_reducible refine Kd.C_drewN ?_ _) | (with_reducible refine Kd.C_drew ?_))); (case side4 => exact HC2.out); rintro e w68 ⟨rfl, hb⟩; have n0_ := Aside0.mk (Kd.R_below (by (with_reducible repeat (first | apply Kd.R_alloc | apply Kd.R_drewN | apply Kd.R_drew)); exact HO_7.out) hb); have n1_ := Aside0.mk (Kd.R_below (by (with_reducible repeat (first | apply Kd.R_alloc | apply Kd.R_drewN | apply Kd.R_drew)); exact HO305.out) hb); have n2_ := Aside0.mk (Kd.R_below (by (with_reducible repeat (first | apply Kd.R_alloc | apply Kd.R_drewN | apply Kd.R_drew)); exact HO308.out) hb); have n3_ := Aside0.mk (Kd.R_below (by (with_reducible repeat (first | apply Kd.R_alloc | apply Kd.R_drewN | apply Kd.R_drew)); exact HO312.out) hb); have n4_ := Aside0.mk (below_step (by repeat (first | (with_reducible first | exact HB.out | apply below_alloc | apply pw_below_drewN | apply below_drew1) | exact HB.out)) hb); clear HO_7; clear HO305; clear HO308; clear HO312; clear HB; have HO_7 := n0_; have HO305 := n1_; have HO308 := n2_; have HO312 := n3_; have HB := n4_; clear n0_ n1_ n2_ n3_ n4_; (try clear hb); (try clear hb2); (try clear hk); (try clear hi)) | (go_at_call 47; (with_reducible refine (impl_MatchAll.calls _ _ l0 _ _ l2 t315 _ ?side1 ?side2 ?side3 ?side4 A60.out).mono ?_); (case side1 => repeat (first | exact (Kd.C_below HR0.out HB.out) | (with_reducible refine Kd.C_alloc ?_ _) | (with_reducible refine Kd.C_drewN ?_ _) | (with_reducible refine Kd.C_drew ?_))); (case side2 => exact HC0.out); (case side3 => repeat (first | exact (Kd.C_below HR2.out HB.out) | (with_reducible refine Kd.C_alloc ?_ _) | (with_reducible refine Kd.C_drewN ?_ _) | (with_reducible refine Kd.C_drew ?_))); (case side4 => exact HC2.out); rintro e w69 ⟨rfl, hb⟩; have n0_ := Aside0.mk (Kd.R_below (by (with_reducible repeat (first | apply Kd.R_alloc | apply Kd.R_drewN | apply Kd.R_drew)); exact HO_7.out) hb); have n1_ := Aside0.mk (Kd.R_below (by (with_reducible repeat (first | apply Kd.R_alloc | apply Kd.R_drewN | apply Kd.R_drew)); exact HO305.out) hb); have n2_ := Aside0.mk (Kd.R_below (by (with_reducible repeat (first | apply Kd.R_alloc | apply Kd.R_drewN | apply Kd.R_drew)); exact HO308.out) hb); have n3_ := Aside0.mk (Kd.R_below (by (with_reducible repeat (first | apply Kd.R_alloc | apply Kd.R_drewN | apply Kd.R_drew)); exact HO312.out) hb); have n4_ := Aside0.mk (below_step (by repeat (first | (with_reducible first | exact HB.out | apply below_alloc | apply pw_below_drewN | apply below_drew1) | exact HB.out)) hb); clear HO_7; clear HO305; clear HO308; clear HO312; clear HB; have HO_7 := n0_; have HO305 := n1_; have HO308 := n2_; have HO312 := n3_; have HB := n4_; clear n0_ n1_ n2_ n3_ n4_; (try clear hb); (try clear hb2); (try clear hk); (try clear hi)))
                            go_ret
                            exact ⟨by first | rfl | (simp [errW_none, errW_some] <;> rfl) | (simp [*, errW_none, errW_some] <;> rfl) | (simp [*, q_isEmpty]; done) | (simp [*]; exact q_gt _ _ (by assumption)), by repeat (first | (with_reducible first | exact HB.out | apply below_alloc | apply pw_below_drewN | apply below_drew1) | exact HB.out)⟩
                          · replace c58 := Bool.eq_false_iff.mpr c58
                            subst c58
                            have H1 : (some false) = some r := by rw [if_neg (show ¬ (false = true) by decide)] at H; exact H
                            clear H
                            have H := H1
                            clear H1
                            obtain rfl := Option.some.inj H
                            go_wp2_with (first | ((with_reducible refine gate_callee (f := 44) rfl ?_); refine goesL_ (some 82) rfl rfl Try.func44 (by kernel_rfl) rfl #[.slice A0 l0.length c0] rfl (by (try simp only [List.map_toArray, List.map_cons, List.map_nil]); first | done | rfl | (simp only [List.length_drop, List.length_take]; rfl)) ?_; (with_reducible refine (impl_Sorted.calls _ _ l0 t303 _ ?side1 ?side2 A52.out).mono ?_); (case side1 => repeat (first | exact (Kd.C_below HR0.out HB.out) | (with_reducible refine Kd.C_alloc ?_ _) | (with_reducible refine Kd.C_drewN ?_ _) | (with_reducible refine Kd.C_drew ?_))); (case side2 => exact HC0.out); rintro e w70 ⟨v304, rfl, ho0, hb⟩; refine ⟨_, rfl, ?_⟩; have n0_ := Aside0.mk (Kd.R_elder' (by (with_reducible repeat (first | apply Kd.R_alloc | apply Kd.R_drewN | apply Kd.R_drew)); exact HO_7.out) (Kd.R_base ho0) hb); have n1_ := Aside0.mk (Kd.R_lower (Kd.R_new' ho0 (Kd.R_lt (by (with_reducible repeat (first | apply Kd.R_alloc | apply Kd.R_drewN | apply Kd.R_drew)); exact HO_7.out))) (below_size (by repeat (first | (with_reducible first | exact HB.out | apply below_alloc | apply pw_below_drewN | apply below_drew1) | exact HB.out)))); have n2_ := Aside0.mk (below_step (by repeat (first | (with_reducible first | exact HB.out | apply below_alloc | apply pw_below_drewN | apply below_drew1) | exact HB.out)) hb); clear HO_7; clear HB; have HO_7 := n0_; have HO305 := n1_; have HB := n2_; clear n0_ n1_ n2_; (try clear hb); (try clear hb2); (try clear hk); (try clear hi); (try clear ho0); obtain ⟨Ao71, co71, eo71⟩ := Kd.R_slice HO_7.out; subst eo71; clear A52) | ((with_reducible refine gate_callee (f := 44) rfl ?_); refine goesL_ (some 84) rfl rfl Try.func44 (by kernel_rfl) rfl #[.slice Ao71 x7_3.length co71] rfl (by (try simp only [List.map_toArray, List.map_cons, List.map_nil]); first | done | rfl | (simp only [List.length_drop, List.length_take]; rfl)) ?_; (with_reducible refine (impl_Sorted.calls _ _ x7_3 t306 _ ?side1 ?side2 A53.out).mono ?_); (case side1 => repeat (first | exact (Kd.R_reads' HO_7.out).2.2 | (with_reducible refine Kd.C_alloc ?_ _) | (with_reducible refine Kd.C_drewN ?_ _) | (with_reducible refine Kd.C_drew ?_))); (case side2 => exact (Kd.R_reads' HO_7.out).2.1); rintro e w72 ⟨v307, rfl, ho0, hb⟩; refine ⟨_, rfl, ?_⟩; have n0_ := Aside0.mk (Kd.R_elder' (by (with_reducible repeat (first | apply Kd.R_alloc | apply Kd.R_drewN | apply Kd.R_drew)); exact HO_7.out) (Kd.R_base ho0) hb); have n1_ := Aside0.mk (Kd.R_elder' (by (with_reducible repeat (first | apply Kd.R_alloc | apply Kd.R_drewN | apply Kd.R_drew)); exact HO305.out) (Kd.R_base ho0) hb); have n2_ := Aside0.mk (Kd.R_lower (Kd.R_new' (Kd.R_new' ho0 (Kd.R_lt (by (with_reducible repeat (first | apply Kd.R_alloc | apply Kd.R_drewN | apply Kd.R_drew)); exact HO_7.out))) (Kd.R_lt (by (with_reducible repeat (first | apply Kd.R_alloc | apply Kd.R_drewN | apply Kd.R_drew)); exact HO305.out))) (below_size (by repeat (first | (with_reducible first | exact HB.out | apply below_alloc | apply pw_below_drewN | apply below_drew1) | exact HB.out)))); have n3_ := Aside0.mk (below_step (by repeat (first | (with_reducible first | exact HB.out | apply below_alloc | apply pw_below_drewN | apply below_drew1) | exact HB.out)) hb); clear HO_7; clear HO305; clear HB; have HO_7 := n0_; have HO305 := n1_; have HO308 := n2_; have HB := n3_; clear n0_ n1_ n2_ n3_; (try clear hb); (try clear hb2); (try clear hk); (try clear hi); (try clear ho0); obtain ⟨Ao73, co73, eo73⟩ := Kd.R_slice HO308.out; subst eo73; obtain ⟨Ao74, co74, eo74⟩ := Kd.R_slice HO305.out; subst eo74; clear A53) | ((with_reducible refine gate_callee (f := 46) rfl ?_); refine goesL_ (some 86) rfl rfl Try.func46 (by kernel_rfl) rfl #[.slice Ao73 t306.length co73, .slice Ao74 t303.length co74] rfl (by (try simp only [List.map_toArray, List.map_cons, List.map_nil]); first | done | rfl | (simp only [List.length_drop, List.length_take]; rfl)) ?_; (with_reducible refine (laws_eqMatchers.calls k3 _ _ t306 _ _ t303 true _ ?side1 ?side2 ?side3 ?side4 A54.out).mono ?_); (case side1 => repeat (first | exact (Kd.R_reads' HO308.out).2.2 | (with_reducible refine Kd.C_alloc ?_ _) | (with_reducible refine Kd.C_drewN ?_ _) | (with_reducible refine Kd.C_drew ?_))); (case side2 => exact (Kd.R_reads' HO308.out).2.1); (case side3 => repeat (first | exact (Kd.R_reads' HO305.out).2.2 | (with_reducible refine Kd.C_alloc ?_ _) | (with_reducible refine Kd.C_drewN ?_ _) | (with_reducible refine Kd.C_drew ?_))); (case side4 => exact (Kd.R_reads' HO305.out).2.1); rintro e w' ⟨rfl, ⟨nd, rfl⟩⟩; refine ⟨_, rfl, ?_⟩) | (go_at_call 44; (with_reducible refine (impl_Sorted.calls _ _ t303 t310 _ ?side1 ?side2 A56.out).mono ?_); (case side1 => repeat (first | exact (Kd.R_reads' HO305.out).2.2 | (with_reducible refine Kd.C_alloc ?_ _) | (with_reducible refine Kd.C_drewN ?_ _) | (with_reducible refine Kd.C_drew ?_))); (case side2 => exact (Kd.R_reads' HO305.out).2.1); rintro e w75 ⟨v311, rfl, ho0, hb⟩; have n0_ := Aside0.mk (Kd.R_elder' (by (with_reducible repeat (first | apply Kd.R_alloc | apply Kd.R_drewN | apply Kd.R_drew)); exact HO_7.out) (Kd.R_base ho0) hb); have n1_ := Aside0.mk (Kd.R_elder' (by (with_reducible repeat (first | apply Kd.R_alloc | apply Kd.R_drewN | apply Kd.R_drew)); exact HO305.out) (Kd.R_base ho0) hb); have n2_ := Aside0.mk (Kd.R_elder' (by (with_reducible repeat (first | apply Kd.R_alloc | apply Kd.R_drewN | apply Kd.R_drew)); exact HO308.out) (Kd.R_base ho0) hb); have n3_ := Aside0.mk (Kd.R_lower (Kd.R_new' (Kd.R_new' (Kd.R_new' ho0 (Kd.R_lt (by (with_reducible repeat (first | apply Kd.R_alloc | apply Kd.R_drewN | apply Kd.R_drew)); exact HO_7.out))) (Kd.R_lt (by (with_reducible repeat (first | apply Kd.R_alloc | apply Kd.R_drewN | apply Kd.R_drew)); exact HO305.out))) (Kd.R_lt (by (with_reducible repeat (first | apply Kd.R_alloc | apply Kd.R_drewN | apply Kd.R_drew)); exact HO308.out))) (below_size (by repeat (first | (with_reducible first | exact HB.out | apply below_alloc | apply pw_below_drewN | apply below_drew1) | exact HB.out)))); have n4_ := Aside0.mk (below_step (by repeat (first | (with_reducible first | exact HB.out | apply below_alloc | apply pw_below_drewN | apply below_drew1) | exact HB.out)) hb); clear HO_7; clear HO305; clear HO308; clear HB; have HO_7 := n0_; have HO305 := n1_; have HO308 := n2_; have HO312 := n3_; have HB := n4_; clear n0_ n1_ n2_ n3_ n4_; (try clear hb); (try clear hb2); (try clear hk); (try clear hi); (try clear ho0); obtain ⟨Ao76, co76, eo76⟩ := Kd.R_slice HO312.out; subst eo76) | (go_at_call 46; (with_reducible refine (laws_eqMatchers.calls k3 _ _ t310 _ _ t303 false _ ?side1 ?side2 ?side3 ?side4 A57.out).mono ?_); (case side1 => repeat (first | exact (Kd.R_reads' HO312.out).2.2 | (with_reducible refine Kd.C_alloc ?_ _) | (with_reducible refine Kd.C_drewN ?_ _) | (with_reducible refine Kd.C_drew ?_))); (case side2 => exact (Kd.R_reads' HO312.out).2.1); (case side3 => repeat (first | exact (Kd.R_reads' HO305.out).2.2 | (with_reducible refine Kd.C_alloc ?_ _) | (with_reducible refine Kd.C_drewN ?_ _) | (with_reducible refine Kd.C_drew ?_))); (case side4 => exact (Kd.R_reads' HO305.out).2.1); rintro e w' ⟨rfl, ⟨nd, rfl⟩⟩))
                            go_ret
                            exact ⟨by first | rfl | (simp [errW_none, errW_some] <;> rfl) | (simp [*, errW_none, errW_some] <;> rfl) | (simp [*, q_isEmpty]; done) | (simp [*]; exact q_gt _ _ (by assumption)), by repeat (first | (with_reducible first | exact HB.out | apply below_alloc | apply pw_below_drewN | apply below_drew1) | exact HB.out)⟩
                        · replace c55 := Bool.eq_false_iff.mpr c55
                          subst c55
                          have H1 : (some false) = some r := by rw [if_neg (show ¬ (false = true) by decide)] at H; exact H
                          clear H
                          have H := H1
                          clear H1
                          obtain rfl := Option.some.inj H
                          go_wp2_with (first | ((with_reducible refine gate_callee (f := 44) rfl ?_); refine goesL_ (some 82) rfl rfl Try.func44 (by kernel_rfl) rfl #[.slice A0 l0.length c0] rfl (by (try simp only [List.map_toArray, List.map_cons, List.map_nil]); first | done | rfl | (simp only [List.length_drop, List.length_take]; rfl)) ?_; (with_reducible refine (impl_Sorted.calls _ _ l0 t303 _ ?side1 ?side2 A52.out).mono ?_); (case side1 => repeat (first | exact (Kd.C_below HR0.out HB.out) | (with_reducible refine Kd.C_alloc ?_ _) | (with_reducible refine Kd.C_drewN ?_ _) | (with_reducible refine Kd.C_drew ?_))); (case side2 => exact HC0.out); rintro e w77 ⟨v304, rfl, ho0, hb⟩; refine ⟨_, rfl, ?_⟩; have n0_ := Aside0.mk (Kd.R_elder' (by (with_reducible repeat (first | apply Kd.R_alloc | apply Kd.R_drewN | apply Kd.R_drew)); exact HO_7.out) (Kd.R_base ho0) hb); have n1_ := Aside0.mk (Kd.R_lower (Kd.R_new' ho0 (Kd.R_lt (by (with_reducible repeat (first | apply Kd.R_alloc | apply Kd.R_drewN | apply Kd.R_drew)); exact HO_7.out))) (below_size (by repeat (first | (with_reducible first | exact HB.out | apply below_alloc | apply pw_below_drewN | apply below_drew1) | exact HB.out)))); have n2_ := Aside0.mk (below_step (by repeat (first | (with_reducible first | exact HB.out | apply below_alloc | apply pw_below_drewN | apply below_drew1) | exact HB.out)) hb); clear HO_7; clear HB; have HO_7 := n0_; have HO305 := n1_; have HB := n2_; clear n0_ n1_ n2_; (try clear hb); (try clear hb2); (try clear hk); (try clear hi); (try clear ho0); obtain ⟨Ao78, co78, eo78⟩ := Kd.R_slice HO_7.out; subst eo78; clear A52) | ((with_reducible refine gate_callee (f := 44) rfl ?_); refine goesL_ (some 84) rfl rfl Try.func44 (by kernel_rfl) rfl #[.slice Ao78 x7_3.length co78] rfl (by (try simp only [List.map_toArray, List.map_cons, List.map_nil]); first | done | rfl | (simp only [List.length_drop, List.length_take]; rfl)) ?_; (with_reducible refine (impl_Sorted.calls _ _ x7_3 t306 _ ?side1 ?side2 A53.out).mono ?_); (case side1 => repeat (first | exact (Kd.R_reads' HO_7.out).2.2 | (with_reducible refine Kd.C_alloc ?_ _) | (with_reducible refine Kd.C_drewN ?_ _) | (with_reducible refine Kd.C_drew ?_))); (case side2 => exact (Kd.R_reads' HO_7.out).2.1); rintro e w79 ⟨v307, rfl, ho0, hb⟩; refine ⟨_, rfl, ?_⟩; have n0_ := Aside0.mk (Kd.R_elder' (by (with_reducible repeat (first | apply Kd.R_alloc | apply Kd.R_drewN | apply Kd.R_drew)); exact HO_7.out) (Kd.R_base ho0) hb); have n1_ := Aside0.mk (Kd.R_elder' (by (with_reducible repeat (first | apply Kd.R_alloc | apply Kd.R_drewN | apply Kd.R_drew)); exact HO305.out) (Kd.R_base ho0) hb); have n2_ := Aside0.mk (Kd.R_lower (Kd.R_new' (Kd.R_new' ho0 (Kd.R_lt (by (with_reducible repeat (first | apply Kd.R_alloc | apply Kd.R_drewN | apply Kd.R_drew)); exact HO_7.out))) (Kd.R_lt (by (with_reducible repeat (first | apply Kd.R_alloc | apply Kd.R_drewN | apply Kd.R_drew)); exact HO305.out))) (below_size (by repeat (first | (with_reducible first | exact HB.out | apply below_alloc | apply pw_below_drewN | apply below_drew1) | exact HB.out)))); have n3_ := Aside0.mk (below_step (by repeat (first | (with_reducible first | exact HB.out | apply below_alloc | apply pw_below_drewN | apply below_drew1) | exact HB.out)) hb); clear HO_7; clear HO305; clear HB; have HO_7 := n0_; have HO305 := n1_; have HO308 := n2_; have HB := n3_; clear n0_ n1_ n2_ n3_; (try clear hb); (try clear hb2); (try clear hk); (try clear hi); (try clear ho0); obtain ⟨Ao80, co80, eo80⟩ := Kd.R_slice HO308.out; subst eo80; obtain ⟨Ao81, co81, eo81⟩ := Kd.R_slice HO305.out; subst eo81) | ((with_reducible refine gate_callee (f := 46) rfl ?_); refine goesL_ (some 86) rfl rfl Try.func46 (by kernel_rfl) rfl #[.slice Ao80 t306.length co80, .slice Ao81 t303.length co81] rfl (by (try simp only [List.map_toArray, List.map_cons, List.map_nil]); first | done | rfl | (simp only [List.length_drop, List.length_take]; rfl)) ?_; (with_reducible refine (laws_eqMatchers.calls k3 _ _ t306 _ _ t303 false _ ?side1 ?side2 ?side3 ?side4 A54.out).mono ?_); (case side1 => repeat (first | exact (Kd.R_reads' HO308.out).2.2 | (with_reducible refine Kd.C_alloc ?_ _) | (with_reducible refine Kd.C_drewN ?_ _) | (with_reducible refine Kd.C_drew ?_))); (case side2 => exact (Kd.R_reads' HO308.out).2.1); (case side3 => repeat (first | exact (Kd.R_reads' HO305.out).2.2 | (with_reducible refine Kd.C_alloc ?_ _) | (with_reducible refine Kd.C_drewN ?_ _) | (with_reducible refine Kd.C_drew ?_))); (case side4 => exact (Kd.R_reads' HO305.out).2.1); rintro e w' ⟨rfl, ⟨nd, rfl⟩⟩; refine ⟨_, rfl, ?_⟩))
                          go_ret
                          exact ⟨by first | rfl | (simp [errW_none, errW_some] <;> rfl) | (simp [*, errW_none, errW_some] <;> rfl) | (simp [*, q_isEmpty]; done) | (simp [*]; exact q_gt _ _ (by assumption)), by repeat (first | (with_reducible first | exact HB.out | apply below_alloc | apply pw_below_drewN | apply below_drew1) | exact HB.out)⟩
                · rw [if_neg c29] at H
                  exact absurd H (by simp)
        · rw [if_neg c15] at H
          have c15b0 : ((t288.length : Int) == 1) = false := beq_eq_false_iff_ne.mpr c15
          have c15b1 : ((t288.length : Int) != 1) = true := bne_iff_ne.mpr c15
          obtain rfl := Option.some.inj H
          go_wp2_with (first | ((with_reducible refine gate_dst (N := 27) rfl ?_); (try (refine gate_guard (by rfl) ?_; dsimp only)); refine Kd.R_lit k52 _ 52 ?hg (N := 27) ?hd (xs := ([(⟨0, (⟨#[97]⟩ : ByteArray), (⟨#[]⟩ : ByteArray)⟩ : S52)] : List (S52))) (inner := [.int .i64 0, .string (⟨#[97]⟩ : ByteArray), .string (⟨#[]⟩ : ByteArray)]) (ok := fun _ => True) (okp := fun _ => True) ?hr ?hp (fun _ hk => hk) trivial (Below.refl _ _) (Nat.le_refl _) (by simp) ?_; (case hd => rfl); (case hg => rfl); (case hr => first | (go_simp; done) | (go_simp; rfl)); (case hp => exact (Reps.c3 (show Kd.M k52 _ _ _ (⟨0, (⟨#[97]⟩ : ByteArray), (⟨#[]⟩ : ByteArray)⟩ : S52) [.int .i64 0, .string (⟨#[97]⟩ : ByteArray), .string (⟨#[]⟩ : ByteArray)] from (k52_mkM _ _ _ (⟨0, (⟨#[97]⟩ : ByteArray), (⟨#[]⟩ : ByteArray)⟩ : S52) )) (Reps.none _ _))); intro v286 w82 ho83 hb hg_ hnew_; clear hg_ hnew_; (first | rw [← Ny285.out] at ho83 | (simp only [Int.reduceToNat] at ho83; rw [← Ny285.out] at ho83)); have n0_ := Aside0.mk (Kd.R_lower ho83 (below_size (by repeat (first | (with_reducible first | exact HB.out | apply below_alloc | apply pw_below_drewN | apply below_drew1) | exact HB.out)))); have n1_ := Aside0.mk (below_step (by repeat (first | (with_reducible first | exact HB.out | apply below_alloc | apply pw_below_drewN | apply below_drew1) | exact HB.out)) hb); clear HB; have HO287 := n0_; have HB := n1_; clear n0_ n1_; clear hb ho83; obtain ⟨Ao84, co84, eo84⟩ := Kd.R_slice HO287.out; subst eo84) | ((with_reducible refine gate_callee (f := 44) rfl ?_); refine goesL_ (some 28) rfl rfl Try.func44 (by kernel_rfl) rfl #[.slice Ao84 y285.length co84] rfl (by (try simp only [List.map_toArray, List.map_cons, List.map_nil]); first | done | rfl | (simp only [List.length_drop, List.length_take]; rfl)) ?_; (with_reducible refine (impl_Sorted.calls _ _ y285 t288 _ ?side1 ?side2 A14.out).mono ?_); (case side1 => repeat (first | exact (Kd.R_reads' HO287.out).2.2 | (with_reducible refine Kd.C_alloc ?_ _) | (with_reducible refine Kd.C_drewN ?_ _) | (with_reducible refine Kd.C_drew ?_))); (case side2 => exact (Kd.R_reads' HO287.out).2.1); rintro e w85 ⟨v289, rfl, ho0, hb⟩; refine ⟨_, rfl, ?_⟩; have n0_ := Aside0.mk (Kd.R_elder' (by (with_reducible repeat (first | apply Kd.R_alloc | apply Kd.R_drewN | apply Kd.R_drew)); exact HO287.out) (Kd.R_base ho0) hb); have n1_ := Aside0.mk (Kd.R_lower (Kd.R_new' ho0 (Kd.R_lt (by (with_reducible repeat (first | apply Kd.R_alloc | apply Kd.R_drewN | apply Kd.R_drew)); exact HO287.out))) (below_size (by repeat (first | (with_reducible first | exact HB.out | apply below_alloc | apply pw_below_drewN | apply below_drew1) | exact HB.out)))); have n2_ := Aside0.mk (below_step (by repeat (first | (with_reducible first | exact HB.out | apply below_alloc | apply pw_below_drewN | apply below_drew1) | exact HB.out)) hb); clear HO287; clear HB; have HO287 := n0_; have HO290 := n1_; have HB := n2_; clear n0_ n1_ n2_; (try clear hb); (try clear hb2); (try clear hk); (try clear hi); (try clear ho0); obtain ⟨Ao86, co86, eo86⟩ := Kd.R_slice HO290.out; subst eo86))
          go_ret
          exact ⟨by first | rfl | (simp [errW_none, errW_some] <;> rfl) | (simp [*, errW_none, errW_some] <;> rfl) | (simp [*, q_isEmpty]; done) | (simp [*]; exact q_gt _ _ (by assumption)), by repeat (first | (with_reducible first | exact HB.out | apply below_alloc | apply pw_below_drewN | apply below_drew1) | exact HB.out)⟩

end Go.Proofs.Ytikhlolhodgegaa.Q
