-- Printed for this seat by wip/pp.py of this repo; nothing here is trusted: Lean checks it.
import Derived.Test.YtkbaihcamimnjaaDoorHTabUZ
import Derived.Test.YtkbaihcamimnjaaDoorQ0
import Derived.Test.YtkbaihcamimnjaaDoorHEsc
import Derived.Test.YtkbaihcamimnjaaDoorHLegM
import Derived.Test.YtkbaihcamimnjaaDoorHValid
namespace Go.Proofs.YtkbaihcamimnjaaDoor.Q
open Go.RowKit Go.Proofs.YtkbaihcamimnjaaDoorW.PrintWords Go.Proofs.YtkbaihcamimnjaaDoorW.PrintLast Go.Proofs.YtkbaihcamimnjaaDoorW.PrintMore
attribute [local go_sem] max2_int min2_int max_two min_two max_three min_three max_four min_four   -- for this text's walks alone
set_option linter.unusedVariables false
set_option linter.unusedSimpArgs false

/-! ### laws_FnEscaped: function 6 -/
def laws_FnEscaped.j0 : Nat → ByteArray → Int → Bool → Option (Bool)
  | 0, _, _, _ => none
  | k + 1, x0, x1, x23 => if x23 = true then (some true) else ((impl_Escape.f x0 (wrap64 (Int.tmod x1 4))).bind fun t158 => (if (wrap64 (Int.tmod x1 4)) = 0 then (some (t158.toList == x0.toList)) else (if (wrap64 (Int.tmod x1 4)) = 2 then ((impl_LegacyMetric.f t158).bind fun t159 => (some t159)) else ((impl_LegacyMetric.f t158).bind fun t160 => (if t160 = true then ((impl_Escape.f t158 (wrap64 (Int.tmod x1 4))).bind fun t161 => (if t161.toList = t158.toList then ((impl_LegacyMetric.f x0).bind fun t162 => (if t162 = true then (some (t158.toList == x0.toList)) else (some true))) else (some false))) else (some false))))))
def laws_FnEscaped.f (k : Nat) (a0 : ByteArray) (a1 : Int) : Option (Bool) := if (a0.size : Int) > 2147483647 then (some true) else ((impl_Escape.f (⟨#[97, 46, 98]⟩ : ByteArray) 1).bind fun t156 => (if t156.toList = ([97, 95, 98] : List UInt8) then (if (a0.size : Int) > 5000 then (laws_FnEscaped.j0 k a0 a1 true) else ((utf8_ValidString.f a0).bind fun t157 => (if t157 = true then (laws_FnEscaped.j0 k a0 a1 (a0.toList == ([] : List UInt8))) else (laws_FnEscaped.j0 k a0 a1 true)))) else (some false)))
theorem laws_FnEscaped.mono_l : ∀ k, (∀ y0 y1 y2, LeO (laws_FnEscaped.j0 k y0 y1 y2) (laws_FnEscaped.j0 (k + 1) y0 y1 y2))
  | 0 => fun _ _ _ r h => by simp [laws_FnEscaped.j0] at h
  | k + 1 => by
    have ih0 := laws_FnEscaped.mono_l k
    · intro y0 y1 y2
      unfold laws_FnEscaped.j0
      repeat' first
      | (with_reducible exact ih0 _ _ _)
      | (with_reducible exact LeO.refl _)
      | (with_reducible exact LeO.none _)
      | (with_reducible refine LeO.ite ?_ ?_)
      | (with_reducible refine LeO.bind ?_ (fun _ => ?_))
      | exact ih0 _ _ _
      | exact LeO.none _
      | refine LeO.ite ?_ ?_
      | refine LeO.bind ?_ (fun _ => ?_)
theorem laws_FnEscaped.mono : ∀ a0 a1 k, LeO (laws_FnEscaped.f k a0 a1) (laws_FnEscaped.f (k + 1) a0 a1) := by
  intro a0 a1 k
  have ih0 := laws_FnEscaped.mono_l k
  unfold laws_FnEscaped.f
  repeat' first
      | (with_reducible exact ih0 _ _ _)
      | (with_reducible exact LeO.refl _)
      | (with_reducible exact LeO.none _)
      | (with_reducible refine LeO.ite ?_ ?_)
      | (with_reducible refine LeO.bind ?_ (fun _ => ?_))
      | exact ih0 _ _ _
      | exact LeO.none _
      | refine LeO.ite ?_ ?_
      | refine LeO.bind ?_ (fun _ => ?_)
set_option maxHeartbeats 8000000 in
set_option maxRecDepth 100000 in
theorem laws_FnEscaped.calls (k : Nat) (a0 : ByteArray) (a1 : Int) (r : Bool) (w : World) (tb : TBuz w) (h : laws_FnEscaped.f k a0 a1 = some r) :
    Calls Tryd.prog 6 #[.string a0, .int .u8 a1] w fun e w' => e = .returned (.bool r) ∧ Below w.heap.size w w' := by
  have HB := Aside0.mk (Below.refl w.heap.size w)
  have TB0 := Aside0.mk tb
  clear tb
  have H : (if (a0.size : Int) > 2147483647 then (some true) else ((impl_Escape.f (⟨#[97, 46, 98]⟩ : ByteArray) 1).bind fun t156 => (if t156.toList = ([97, 95, 98] : List UInt8) then (if (a0.size : Int) > 5000 then (laws_FnEscaped.j0 k a0 a1 true) else ((utf8_ValidString.f a0).bind fun t157 => (if t157 = true then (laws_FnEscaped.j0 k a0 a1 (a0.toList == ([] : List UInt8))) else (laws_FnEscaped.j0 k a0 a1 true)))) else (some false)))) = some r := h
  clear h
  by_cases c3 : (a0.size : Int) > 2147483647
  · rw [if_pos c3] at H
    have c3b0 : decide (2147483647 < (a0.size : Int)) = true := decide_eq_true c3
    have c3b1 : decide (2147483647 < a0.size) = true := decide_eq_true (by omega)
    clear c3
    obtain rfl := Option.some.inj H
    go_enter Tryd.func6, Tryd.ntmps6
    go_wp2
    go_ret
    exact ⟨by first | rfl | (simp [errW_none, errW_some] <;> rfl) | (simp [*, errW_none, errW_some] <;> rfl) | (simp [*, q_isEmpty]; done) | (simp [*]; exact q_gt _ _ (by assumption)), by repeat (first | (with_reducible first | exact HB.out | apply below_alloc | apply pw_below_drewN | apply below_drew1) | exact HB.out)⟩
  · rw [if_neg c3] at H
    have c3b0 : decide (2147483647 < (a0.size : Int)) = false := decide_eq_false c3
    have c3b1 : decide (2147483647 < a0.size) = false := decide_eq_false (by omega)
    clear c3
    replace H := Option.bind_eq_some_iff.mp H
    obtain ⟨t156, A40, H⟩ := H
    replace H : (if t156.toList = ([97, 95, 98] : List UInt8) then (if (a0.size : Int) > 5000 then (laws_FnEscaped.j0 k a0 a1 true) else ((utf8_ValidString.f a0).bind fun t157 => (if t157 = true then (laws_FnEscaped.j0 k a0 a1 (a0.toList == ([] : List UInt8))) else (laws_FnEscaped.j0 k a0 a1 true)))) else (some false)) = some r := H
    have A4 := Aside0.mk A40
    clear A40
    by_cases c5 : t156.toList = ([97, 95, 98] : List UInt8)
    · rw [if_pos c5] at H
      have c5b0 : (t156.toList == ([97, 95, 98] : List UInt8)) = true := beq_iff_eq.mpr c5
      have c5b1 : (t156.toList != ([97, 95, 98] : List UInt8)) = false := bne_eq_false_iff_eq.mpr c5
      clear c5
      have HC6 := Aside0.mk H
      clear H
      go_enter Tryd.func6, Tryd.ntmps6
      go_upto_region 5 with (first | ((with_reducible refine gate_callee (f := 14) rfl ?_); refine goesL_ (some 10) rfl rfl Tryd.func14 (by kernel_rfl) rfl #[.string (⟨#[97, 46, 98]⟩ : ByteArray), .int .i64 1] rfl (by (try simp only [List.map_toArray, List.map_cons, List.map_nil]); first | done | rfl | (simp only [List.length_drop, List.length_take]; rfl)) ?_; (with_reducible refine (impl_Escape.calls (⟨#[97, 46, 98]⟩ : ByteArray) 1 t156 _ ((TBuz.below TB0.out (by repeat (first | (with_reducible first | exact HB.out | apply below_alloc | apply pw_below_drewN | apply below_drew1) | exact HB.out))).2) A4.out).mono ?_); rintro e w7 ⟨rfl, hb⟩; refine ⟨_, rfl, ?_⟩; have n0_ := Aside0.mk (below_step (by repeat (first | (with_reducible first | exact HB.out | apply below_alloc | apply pw_below_drewN | apply below_drew1) | exact HB.out)) hb); clear HB; have HB := n0_; clear n0_; (try clear hb); (try clear hb2); (try clear hk); (try clear hi)))
      (try simp only [Act.put, List.setIfInBounds_toArray, List.set_cons_zero, List.set_cons_succ])
      go_cut [23] (fun v23 wc => ∃ (kq : Nat) (x23_5 : Bool), v23 = .bool x23_5 ∧ Aside0 (laws_FnEscaped.j0 kq a0 a1 x23_5 = some r) ∧ Aside0 (kq ≤ k) ∧ Aside0 (Below w.heap.size w wc))
      case first =>
        have H := HC6.out
        clear HC6
        by_cases c8 : (a0.size : Int) > 5000
        · rw [if_pos c8] at H
          have c8b0 : decide (5000 < (a0.size : Int)) = true := decide_eq_true c8
          have c8b1 : decide (5000 < a0.size) = true := decide_eq_true (by omega)
          clear c8
          (first | rw [c8b0] | (simp only [i64_w, i32_w]; rw [c8b0]) | skip)
          have H' := Aside0.mk H
          clear H
          go_wp2
          go_meet
          case rel => exact ⟨_, (true), (by first | rfl | (simp; done) | (simp [*]; done) | (simp [*, q_isEmpty]; done) | (simp [*]; exact q_gt _ _ (by assumption))), H', ⟨by first | omega | exact Nat.le_refl _⟩, ⟨by repeat (first | (with_reducible first | exact HB.out | apply below_alloc | apply pw_below_drewN | apply below_drew1) | exact HB.out)⟩⟩
        · rw [if_neg c8] at H
          have c8b0 : decide (5000 < (a0.size : Int)) = false := decide_eq_false c8
          have c8b1 : decide (5000 < a0.size) = false := decide_eq_false (by omega)
          clear c8
          (first | rw [c8b0] | (simp only [i64_w, i32_w]; rw [c8b0]) | skip)
          replace H := Option.bind_eq_some_iff.mp H
          obtain ⟨t157, A90, H⟩ := H
          replace H : (if t157 = true then (laws_FnEscaped.j0 k a0 a1 (a0.toList == ([] : List UInt8))) else (laws_FnEscaped.j0 k a0 a1 true)) = some r := H
          have A9 := Aside0.mk A90
          clear A90
          by_cases c10 : t157 = true
          · subst c10
            have H1 : (laws_FnEscaped.j0 k a0 a1 (a0.toList == ([] : List UInt8))) = some r := by rw [if_pos rfl] at H; exact H
            clear H
            have H := H1
            clear H1
            have H' := Aside0.mk H
            clear H
            go_wp2_with (first | (go_at_call 15; (with_reducible refine (utf8_ValidString.calls a0 true _ ((TBuz.below TB0.out (by repeat (first | (with_reducible first | exact HB.out | apply below_alloc | apply pw_below_drewN | apply below_drew1) | exact HB.out))).1) A9.out).mono ?_); rintro e w11 ⟨rfl, hb⟩; have n0_ := Aside0.mk (below_step (by repeat (first | (with_reducible first | exact HB.out | apply below_alloc | apply pw_below_drewN | apply below_drew1) | exact HB.out)) hb); clear HB; have HB := n0_; clear n0_; (try clear hb); (try clear hb2); (try clear hk); (try clear hi)))
            go_meet
            case rel => exact ⟨_, ((a0.toList == ([] : List UInt8))), (by first | rfl | (simp; done) | (simp [*]; done) | (simp [*, q_isEmpty]; done) | (simp [*]; exact q_gt _ _ (by assumption))), H', ⟨by first | omega | exact Nat.le_refl _⟩, ⟨by repeat (first | (with_reducible first | exact HB.out | apply below_alloc | apply pw_below_drewN | apply below_drew1) | exact HB.out)⟩⟩
          · replace c10 := Bool.eq_false_iff.mpr c10
            subst c10
            have H1 : (laws_FnEscaped.j0 k a0 a1 true) = some r := by rw [if_neg (show ¬ (false = true) by decide)] at H; exact H
            clear H
            have H := H1
            clear H1
            have H' := Aside0.mk H
            clear H
            go_wp2_with (first | (go_at_call 15; (with_reducible refine (utf8_ValidString.calls a0 false _ ((TBuz.below TB0.out (by repeat (first | (with_reducible first | exact HB.out | apply below_alloc | apply pw_below_drewN | apply below_drew1) | exact HB.out))).1) A9.out).mono ?_); rintro e w12 ⟨rfl, hb⟩; have n0_ := Aside0.mk (below_step (by repeat (first | (with_reducible first | exact HB.out | apply below_alloc | apply pw_below_drewN | apply below_drew1) | exact HB.out)) hb); clear HB; have HB := n0_; clear n0_; (try clear hb); (try clear hb2); (try clear hk); (try clear hi)))
            go_meet
            case rel => exact ⟨_, (true), (by first | rfl | (simp; done) | (simp [*]; done) | (simp [*, q_isEmpty]; done) | (simp [*]; exact q_gt _ _ (by assumption))), H', ⟨by first | omega | exact Nat.le_refl _⟩, ⟨by repeat (first | (with_reducible first | exact HB.out | apply below_alloc | apply pw_below_drewN | apply below_drew1) | exact HB.out)⟩⟩
      case rest =>
        clear HC6
        try clear c1
        try clear p2
        try clear c3
        try clear c3b0
        try clear c3b1
        try clear c5
        try clear c5b0
        try clear c5b1
        try clear c6
        try clear c8
        try clear c8b0
        try clear c8b1
        try clear c10
        obtain ⟨kq, x23_5, rfl, HA, HJ5, HB⟩ := hcut
        cases kq with
        | zero => exact absurd HA.out (by simp [laws_FnEscaped.j0])
        | succ kj5 =>
          have H := HA.out
          clear HA
          simp only [laws_FnEscaped.j0] at H
          by_cases c13 : x23_5 = true
          · subst c13
            have H1 : (some true) = some r := by rw [if_pos rfl] at H; exact H
            clear H
            have H := H1
            clear H1
            obtain rfl := Option.some.inj H
            go_wp2
            go_ret
            exact ⟨by first | rfl | (simp [errW_none, errW_some] <;> rfl) | (simp [*, errW_none, errW_some] <;> rfl) | (simp [*, q_isEmpty]; done) | (simp [*]; exact q_gt _ _ (by assumption)), by repeat (first | (with_reducible first | exact HB.out | apply below_alloc | apply pw_below_drewN | apply below_drew1) | exact HB.out)⟩
          · replace c13 := Bool.eq_false_iff.mpr c13
            subst c13
            have H1 : ((impl_Escape.f a0 (wrap64 (Int.tmod a1 4))).bind fun t158 => (if (wrap64 (Int.tmod a1 4)) = 0 then (some (t158.toList == a0.toList)) else (if (wrap64 (Int.tmod a1 4)) = 2 then ((impl_LegacyMetric.f t158).bind fun t159 => (some t159)) else ((impl_LegacyMetric.f t158).bind fun t160 => (if t160 = true then ((impl_Escape.f t158 (wrap64 (Int.tmod a1 4))).bind fun t161 => (if t161.toList = t158.toList then ((impl_LegacyMetric.f a0).bind fun t162 => (if t162 = true then (some (t158.toList == a0.toList)) else (some true))) else (some false))) else (some false)))))) = some r := by rw [if_neg (show ¬ (false = true) by decide)] at H; exact H
            clear H
            have H := H1
            clear H1
            replace H := Option.bind_eq_some_iff.mp H
            obtain ⟨t158, A140, H⟩ := H
            replace H : (if (wrap64 (Int.tmod a1 4)) = 0 then (some (t158.toList == a0.toList)) else (if (wrap64 (Int.tmod a1 4)) = 2 then ((impl_LegacyMetric.f t158).bind fun t159 => (some t159)) else ((impl_LegacyMetric.f t158).bind fun t160 => (if t160 = true then ((impl_Escape.f t158 (wrap64 (Int.tmod a1 4))).bind fun t161 => (if t161.toList = t158.toList then ((impl_LegacyMetric.f a0).bind fun t162 => (if t162 = true then (some (t158.toList == a0.toList)) else (some true))) else (some false))) else (some false))))) = some r := H
            have A14 := Aside0.mk A140
            clear A140
            by_cases c15 : (wrap64 (Int.tmod a1 4)) = 0
            · rw [if_pos c15] at H
              have c15b0 : ((wrap64 (Int.tmod a1 4)) == 0) = true := beq_iff_eq.mpr c15
              have c15b1 : ((wrap64 (Int.tmod a1 4)) != 0) = false := bne_eq_false_iff_eq.mpr c15
              clear c15
              obtain rfl := Option.some.inj H
              go_wp2_with (first | ((with_reducible refine gate_callee (f := 14) rfl ?_); refine goesL_ (some 29) rfl rfl Tryd.func14 (by kernel_rfl) rfl #[.string a0, .int .i64 (wrap64 (Int.tmod a1 4))] rfl (by (try simp only [List.map_toArray, List.map_cons, List.map_nil]); first | done | rfl | (simp only [List.length_drop, List.length_take]; rfl)) ?_; (with_reducible refine (impl_Escape.calls a0 (wrap64 (Int.tmod a1 4)) t158 _ ((TBuz.below TB0.out (by repeat (first | (with_reducible first | exact HB.out | apply below_alloc | apply pw_below_drewN | apply below_drew1) | exact HB.out))).2) A14.out).mono ?_); rintro e w16 ⟨rfl, hb⟩; refine ⟨_, rfl, ?_⟩; have n0_ := Aside0.mk (below_step (by repeat (first | (with_reducible first | exact HB.out | apply below_alloc | apply pw_below_drewN | apply below_drew1) | exact HB.out)) hb); clear HB; have HB := n0_; clear n0_; (try clear hb); (try clear hb2); (try clear hk); (try clear hi)))
              go_ret
              exact ⟨by first | rfl | (simp [errW_none, errW_some] <;> rfl) | (simp [*, errW_none, errW_some] <;> rfl) | (simp [*, q_isEmpty]; done) | (simp [*]; exact q_gt _ _ (by assumption)), by repeat (first | (with_reducible first | exact HB.out | apply below_alloc | apply pw_below_drewN | apply below_drew1) | exact HB.out)⟩
            · rw [if_neg c15] at H
              have c15b0 : ((wrap64 (Int.tmod a1 4)) == 0) = false := beq_eq_false_iff_ne.mpr c15
              have c15b1 : ((wrap64 (Int.tmod a1 4)) != 0) = true := bne_iff_ne.mpr c15
              by_cases c17 : (wrap64 (Int.tmod a1 4)) = 2
              · rw [if_pos c17] at H
                have c17b0 : ((wrap64 (Int.tmod a1 4)) == 2) = true := beq_iff_eq.mpr c17
                have c17b1 : ((wrap64 (Int.tmod a1 4)) != 2) = false := bne_eq_false_iff_eq.mpr c17
                clear c17
                replace H := Option.bind_eq_some_iff.mp H
                obtain ⟨t159, A180, H⟩ := H
                replace H : (some t159) = some r := H
                have A18 := Aside0.mk A180
                clear A180
                obtain rfl := Option.some.inj H
                go_wp2_with (first | ((with_reducible refine gate_callee (f := 14) rfl ?_); refine goesL_ (some 29) rfl rfl Tryd.func14 (by kernel_rfl) rfl #[.string a0, .int .i64 (wrap64 (Int.tmod a1 4))] rfl (by (try simp only [List.map_toArray, List.map_cons, List.map_nil]); first | done | rfl | (simp only [List.length_drop, List.length_take]; rfl)) ?_; (with_reducible refine (impl_Escape.calls a0 (wrap64 (Int.tmod a1 4)) t158 _ ((TBuz.below TB0.out (by repeat (first | (with_reducible first | exact HB.out | apply below_alloc | apply pw_below_drewN | apply below_drew1) | exact HB.out))).2) A14.out).mono ?_); rintro e w19 ⟨rfl, hb⟩; refine ⟨_, rfl, ?_⟩; have n0_ := Aside0.mk (below_step (by repeat (first | (with_reducible first | exact HB.out | apply below_alloc | apply pw_below_drewN | apply below_drew1) | exact HB.out)) hb); clear HB; have HB := n0_; clear n0_; (try clear hb); (try clear hb2); (try clear hk); (try clear hi)) | ((with_reducible refine gate_callee (f := 17) rfl ?_); refine goesL_ (some 39) rfl rfl Tryd.func17 (by kernel_rfl) rfl #[.string t158] rfl (by (try simp only [List.map_toArray, List.map_cons, List.map_nil]); first | done | rfl | (simp only [List.length_drop, List.length_take]; rfl)) ?_; (with_reducible refine (impl_LegacyMetric.calls t158 t159 _ A18.out).mono ?_); rintro e w20 ⟨rfl, hb⟩; refine ⟨_, rfl, ?_⟩; have n0_ := Aside0.mk (below_step (by repeat (first | (with_reducible first | exact HB.out | apply below_alloc | apply pw_below_drewN | apply below_drew1) | exact HB.out)) hb); clear HB; have HB := n0_; clear n0_; (try clear hb); (try clear hb2); (try clear hk); (try clear hi)))
                go_ret
                exact ⟨by first | rfl | (simp [errW_none, errW_some] <;> rfl) | (simp [*, errW_none, errW_some] <;> rfl) | (simp [*, q_isEmpty]; done) | (simp [*]; exact q_gt _ _ (by assumption)), by repeat (first | (with_reducible first | exact HB.out | apply below_alloc | apply pw_below_drewN | apply below_drew1) | exact HB.out)⟩
              · rw [if_neg c17] at H
                have c17b0 : ((wrap64 (Int.tmod a1 4)) == 2) = false := beq_eq_false_iff_ne.mpr c17
                have c17b1 : ((wrap64 (Int.tmod a1 4)) != 2) = true := bne_iff_ne.mpr c17
                replace H := Option.bind_eq_some_iff.mp H
                obtain ⟨t160, A210, H⟩ := H
                replace H : (if t160 = true then ((impl_Escape.f t158 (wrap64 (Int.tmod a1 4))).bind fun t161 => (if t161.toList = t158.toList then ((impl_LegacyMetric.f a0).bind fun t162 => (if t162 = true then (some (t158.toList == a0.toList)) else (some true))) else (some false))) else (some false)) = some r := H
                have A21 := Aside0.mk A210
                clear A210
                by_cases c22 : t160 = true
                · subst c22
                  have H1 : ((impl_Escape.f t158 (wrap64 (Int.tmod a1 4))).bind fun t161 => (if t161.toList = t158.toList then ((impl_LegacyMetric.f a0).bind fun t162 => (if t162 = true then (some (t158.toList == a0.toList)) else (some true))) else (some false))) = some r := by rw [if_pos rfl] at H; exact H
                  clear H
                  have H := H1
                  clear H1
                  replace H := Option.bind_eq_some_iff.mp H
                  obtain ⟨t161, A230, H⟩ := H
                  replace H : (if t161.toList = t158.toList then ((impl_LegacyMetric.f a0).bind fun t162 => (if t162 = true then (some (t158.toList == a0.toList)) else (some true))) else (some false)) = some r := H
                  have A23 := Aside0.mk A230
                  clear A230
                  by_cases c24 : t161.toList = t158.toList
                  · rw [if_pos c24] at H
                    have c24b0 : (t161.toList == t158.toList) = true := beq_iff_eq.mpr c24
                    have c24b1 : (t161.toList != t158.toList) = false := bne_eq_false_iff_eq.mpr c24
                    clear c24
                    replace H := Option.bind_eq_some_iff.mp H
                    obtain ⟨t162, A250, H⟩ := H
                    replace H : (if t162 = true then (some (t158.toList == a0.toList)) else (some true)) = some r := H
                    have A25 := Aside0.mk A250
                    clear A250
                    by_cases c26 : t162 = true
                    · subst c26
                      have H1 : (some (t158.toList == a0.toList)) = some r := by rw [if_pos rfl] at H; exact H
                      clear H
                      have H := H1
                      clear H1
                      obtain rfl := Option.some.inj H
                      go_wp2_with (first | ((with_reducible refine gate_callee (f := 14) rfl ?_); refine goesL_ (some 29) rfl rfl Tryd.func14 (by kernel_rfl) rfl #[.string a0, .int .i64 (wrap64 (Int.tmod a1 4))] rfl (by (try simp only [List.map_toArray, List.map_cons, List.map_nil]); first | done | rfl | (simp only [List.length_drop, List.length_take]; rfl)) ?_; (with_reducible refine (impl_Escape.calls a0 (wrap64 (Int.tmod a1 4)) t158 _ ((TBuz.below TB0.out (by repeat (first | (with_reducible first | exact HB.out | apply below_alloc | apply pw_below_drewN | apply below_drew1) | exact HB.out))).2) A14.out).mono ?_); rintro e w27 ⟨rfl, hb⟩; refine ⟨_, rfl, ?_⟩; have n0_ := Aside0.mk (below_step (by repeat (first | (with_reducible first | exact HB.out | apply below_alloc | apply pw_below_drewN | apply below_drew1) | exact HB.out)) hb); clear HB; have HB := n0_; clear n0_; (try clear hb); (try clear hb2); (try clear hk); (try clear hi)) | ((with_reducible refine gate_callee (f := 17) rfl ?_); refine goesL_ (some 41) rfl rfl Tryd.func17 (by kernel_rfl) rfl #[.string t158] rfl (by (try simp only [List.map_toArray, List.map_cons, List.map_nil]); first | done | rfl | (simp only [List.length_drop, List.length_take]; rfl)) ?_; (with_reducible refine (impl_LegacyMetric.calls t158 true _ A21.out).mono ?_); rintro e w28 ⟨rfl, hb⟩; refine ⟨_, rfl, ?_⟩; have n0_ := Aside0.mk (below_step (by repeat (first | (with_reducible first | exact HB.out | apply below_alloc | apply pw_below_drewN | apply below_drew1) | exact HB.out)) hb); clear HB; have HB := n0_; clear n0_; (try clear hb); (try clear hb2); (try clear hk); (try clear hi)) | (go_at_call 14; (with_reducible refine (impl_Escape.calls t158 (wrap64 (Int.tmod a1 4)) t161 _ ((TBuz.below TB0.out (by repeat (first | (with_reducible first | exact HB.out | apply below_alloc | apply pw_below_drewN | apply below_drew1) | exact HB.out))).2) A23.out).mono ?_); rintro e w29 ⟨rfl, hb⟩; have n0_ := Aside0.mk (below_step (by repeat (first | (with_reducible first | exact HB.out | apply below_alloc | apply pw_below_drewN | apply below_drew1) | exact HB.out)) hb); clear HB; have HB := n0_; clear n0_; (try clear hb); (try clear hb2); (try clear hk); (try clear hi)) | (go_at_call 17; (with_reducible refine (impl_LegacyMetric.calls a0 true _ A25.out).mono ?_); rintro e w30 ⟨rfl, hb⟩; have n0_ := Aside0.mk (below_step (by repeat (first | (with_reducible first | exact HB.out | apply below_alloc | apply pw_below_drewN | apply below_drew1) | exact HB.out)) hb); clear HB; have HB := n0_; clear n0_; (try clear hb); (try clear hb2); (try clear hk); (try clear hi)))
                      go_ret
                      exact ⟨by first | rfl | (simp [errW_none, errW_some] <;> rfl) | (simp [*, errW_none, errW_some] <;> rfl) | (simp [*, q_isEmpty]; done) | (simp [*]; exact q_gt _ _ (by assumption)), by repeat (first | (with_reducible first | exact HB.out | apply below_alloc | apply pw_below_drewN | apply below_drew1) | exact HB.out)⟩
                    · replace c26 := Bool.eq_false_iff.mpr c26
                      subst c26
                      have H1 : (some true) = some r := by rw [if_neg (show ¬ (false = true) by decide)] at H; exact H
                      clear H
                      have H := H1
                      clear H1
                      obtain rfl := Option.some.inj H
                      go_wp2_with (first | ((with_reducible refine gate_callee (f := 14) rfl ?_); refine goesL_ (some 29) rfl rfl Tryd.func14 (by kernel_rfl) rfl #[.string a0, .int .i64 (wrap64 (Int.tmod a1 4))] rfl (by (try simp only [List.map_toArray, List.map_cons, List.map_nil]); first | done | rfl | (simp only [List.length_drop, List.length_take]; rfl)) ?_; (with_reducible refine (impl_Escape.calls a0 (wrap64 (Int.tmod a1 4)) t158 _ ((TBuz.below TB0.out (by repeat (first | (with_reducible first | exact HB.out | apply below_alloc | apply pw_below_drewN | apply below_drew1) | exact HB.out))).2) A14.out).mono ?_); rintro e w31 ⟨rfl, hb⟩; refine ⟨_, rfl, ?_⟩; have n0_ := Aside0.mk (below_step (by repeat (first | (with_reducible first | exact HB.out | apply below_alloc | apply pw_below_drewN | apply below_drew1) | exact HB.out)) hb); clear HB; have HB := n0_; clear n0_; (try clear hb); (try clear hb2); (try clear hk); (try clear hi)) | ((with_reducible refine gate_callee (f := 17) rfl ?_); refine goesL_ (some 41) rfl rfl Tryd.func17 (by kernel_rfl) rfl #[.string t158] rfl (by (try simp only [List.map_toArray, List.map_cons, List.map_nil]); first | done | rfl | (simp only [List.length_drop, List.length_take]; rfl)) ?_; (with_reducible refine (impl_LegacyMetric.calls t158 true _ A21.out).mono ?_); rintro e w32 ⟨rfl, hb⟩; refine ⟨_, rfl, ?_⟩; have n0_ := Aside0.mk (below_step (by repeat (first | (with_reducible first | exact HB.out | apply below_alloc | apply pw_below_drewN | apply below_drew1) | exact HB.out)) hb); clear HB; have HB := n0_; clear n0_; (try clear hb); (try clear hb2); (try clear hk); (try clear hi)) | (go_at_call 14; (with_reducible refine (impl_Escape.calls t158 (wrap64 (Int.tmod a1 4)) t161 _ ((TBuz.below TB0.out (by repeat (first | (with_reducible first | exact HB.out | apply below_alloc | apply pw_below_drewN | apply below_drew1) | exact HB.out))).2) A23.out).mono ?_); rintro e w33 ⟨rfl, hb⟩; have n0_ := Aside0.mk (below_step (by repeat (first | (with_reducible first | exact HB.out | apply below_alloc | apply pw_below_drewN | apply below_drew1) | exact HB.out)) hb); clear HB; have HB := n0_; clear n0_; (try clear hb); (try clear hb2); (try clear hk); (try clear hi)) | (go_at_call 17; (with_reducible refine (impl_LegacyMetric.calls a0 false _ A25.out).mono ?_); rintro e w34 ⟨rfl, hb⟩; have n0_ := Aside0.mk (below_step (by repeat (first | (with_reducible first | exact HB.out | apply below_alloc | apply pw_below_drewN | apply below_drew1) | exact HB.out)) hb); clear HB; have HB := n0_; clear n0_; (try clear hb); (try clear hb2); (try clear hk); (try clear hi)))
                      go_ret
                      exact ⟨by first | rfl | (simp [errW_none, errW_some] <;> rfl) | (simp [*, errW_none, errW_some] <;> rfl) | (simp [*, q_isEmpty]; done) | (simp [*]; exact q_gt _ _ (by assumption)), by repeat (first | (with_reducible first | exact HB.out | apply below_alloc | apply pw_below_drewN | apply below_drew1) | exact HB.out)⟩
                  · rw [if_neg c24] at H
                    have c24b0 : (t161.toList == t158.toList) = false := beq_eq_false_iff_ne.mpr c24
                    have c24b1 : (t161.toList != t158.toList) = true := bne_iff_ne.mpr c24
                    obtain rfl := Option.some.inj H
                    go_wp2_with (first | ((with_reducible refine gate_callee (f := 14) rfl ?_); refine goesL_ (some 29) rfl rfl Tryd.func14 (by kernel_rfl) rfl #[.string a0, .int .i64 (wrap64 (Int.tmod a1 4))] rfl (by (try simp only [List.map_toArray, List.map_cons, List.map_nil]); first | done | rfl | (simp only [List.length_drop, List.length_take]; rfl)) ?_; (with_reducible refine (impl_Escape.calls a0 (wrap64 (Int.tmod a1 4)) t158 _ ((TBuz.below TB0.out (by repeat (first | (with_reducible first | exact HB.out | apply below_alloc | apply pw_below_drewN | apply below_drew1) | exact HB.out))).2) A14.out).mono ?_); rintro e w35 ⟨rfl, hb⟩; refine ⟨_, rfl, ?_⟩; have n0_ := Aside0.mk (below_step (by repeat (first | (with_reducible first | exact HB.out | apply below_alloc | apply pw_below_drewN | apply below_drew1) | exact HB.out)) hb); clear HB; have HB := n0_; clear n0_; (try clear hb); (try clear hb2); (try clear hk); (try clear hi)) | ((with_reducible refine gate_callee (f := 17) rfl ?_); refine goesL_ (some 41) rfl rfl Tryd.func17 (by kernel_rfl) rfl #[.string t158] rfl (by (try simp only [List.map_toArray, List.map_cons, List.map_nil]); first | done | rfl | (simp only [List.length_drop, List.length_take]; rfl)) ?_; (with_reducible refine (impl_LegacyMetric.calls t158 true _ A21.out).mono ?_); rintro e w36 ⟨rfl, hb⟩; refine ⟨_, rfl, ?_⟩; have n0_ := Aside0.mk (below_step (by repeat (first | (with_reducible first | exact HB.out | apply below_alloc | apply pw_below_drewN | apply below_drew1) | exact HB.out)) hb); clear HB; have HB := n0_; clear n0_; (try clear hb); (try clear hb2); (try clear hk); (try clear hi)) | (go_at_call 14; (with_reducible refine (impl_Escape.calls t158 (wrap64 (Int.tmod a1 4)) t161 _ ((TBuz.below TB0.out (by repeat (first | (with_reducible first | exact HB.out | apply below_alloc | apply pw_below_drewN | apply below_drew1) | exact HB.out))).2) A23.out).mono ?_); rintro e w37 ⟨rfl, hb⟩; have n0_ := Aside0.mk (below_step (by repeat (first | (with_reducible first | exact HB.out | apply below_alloc | apply pw_below_drewN | apply below_drew1) | exact HB.out)) hb); clear HB; have HB := n0_; clear n0_; (try clear hb); (try clear hb2); (try clear hk); (try clear hi)))
                    go_ret
                    exact ⟨by first | rfl | (simp [errW_none, errW_some] <;> rfl) | (simp [*, errW_none, errW_some] <;> rfl) | (simp [*, q_isEmpty]; done) | (simp [*]; exact q_gt _ _ (by assumption)), by repeat (first | (with_reducible first | exact HB.out | apply below_alloc | apply pw_below_drewN | apply below_drew1) | exact HB.out)⟩
                · replace c22 := Bool.eq_false_iff.mpr c22
                  subst c22
                  have H1 : (some false) = some r := by rw [if_neg (show ¬ (false = true) by decide)] at H; exact H
                  clear H
                  have H := H1
                  clear H1
                  obtain rfl := Option.some.inj H
                  go_wp2_with (first | ((with_reducible refine gate_callee (f := 14) rfl ?_); refine goesL_ (some 29) rfl rfl Tryd.func14 (by kernel_rfl) rfl #[.string a0, .int .i64 (wrap64 (Int.tmod a1 4))] rfl (by (try simp only [List.map_toArray, List.map_cons, List.map_nil]); first | done | rfl | (simp only [List.length_drop, List.length_take]; rfl)) ?_; (with_reducible refine (impl_Escape.calls a0 (wrap64 (Int.tmod a1 4)) t158 _ ((TBuz.below TB0.out (by repeat (first | (with_reducible first | exact HB.out | apply below_alloc | apply pw_below_drewN | apply below_drew1) | exact HB.out))).2) A14.out).mono ?_); rintro e w38 ⟨rfl, hb⟩; refine ⟨_, rfl, ?_⟩; have n0_ := Aside0.mk (below_step (by repeat (first | (with_reducible first | exact HB.out | apply below_alloc | apply pw_below_drewN | apply below_drew1) | exact HB.out)) hb); clear HB; have HB := n0_; clear n0_; (try clear hb); (try clear hb2); (try clear hk); (try clear hi)) | ((with_reducible refine gate_callee (f := 17) rfl ?_); refine goesL_ (some 41) rfl rfl Tryd.func17 (by kernel_rfl) rfl #[.string t158] rfl (by (try simp only [List.map_toArray, List.map_cons, List.map_nil]); first | done | rfl | (simp only [List.length_drop, List.length_take]; rfl)) ?_; (with_reducible refine (impl_LegacyMetric.calls t158 false _ A21.out).mono ?_); rintro e w39 ⟨rfl, hb⟩; refine ⟨_, rfl, ?_⟩; have n0_ := Aside0.mk (below_step (by repeat (first | (with_reducible first | exact HB.out | apply below_alloc | apply pw_below_drewN | apply below_drew1) | exact HB.out)) hb); clear HB; have HB := n0_; clear n0_; (try clear hb); (try clear hb2); (try clear hk); (try clear hi)))
                  go_ret
                  exact ⟨by first | rfl | (simp [errW_none, errW_some] <;> rfl) | (simp [*, errW_none, errW_some] <;> rfl) | (simp [*, q_isEmpty]; done) | (simp [*]; exact q_gt _ _ (by assumption)), by repeat (first | (with_reducible first | exact HB.out | apply below_alloc | apply pw_below_drewN | apply below_drew1) | exact HB.out)⟩
    · rw [if_neg c5] at H
      have c5b0 : (t156.toList == ([97, 95, 98] : List UInt8)) = false := beq_eq_false_iff_ne.mpr c5
      have c5b1 : (t156.toList != ([97, 95, 98] : List UInt8)) = true := bne_iff_ne.mpr c5
      obtain rfl := Option.some.inj H
      go_enter Tryd.func6, Tryd.ntmps6
      go_wp2_with (first | ((with_reducible refine gate_callee (f := 14) rfl ?_); refine goesL_ (some 10) rfl rfl Tryd.func14 (by kernel_rfl) rfl #[.string (⟨#[97, 46, 98]⟩ : ByteArray), .int .i64 1] rfl (by (try simp only [List.map_toArray, List.map_cons, List.map_nil]); first | done | rfl | (simp only [List.length_drop, List.length_take]; rfl)) ?_; (with_reducible refine (impl_Escape.calls (⟨#[97, 46, 98]⟩ : ByteArray) 1 t156 _ ((TBuz.below TB0.out (by repeat (first | (with_reducible first | exact HB.out | apply below_alloc | apply pw_below_drewN | apply below_drew1) | exact HB.out))).2) A4.out).mono ?_); rintro e w40 ⟨rfl, hb⟩; refine ⟨_, rfl, ?_⟩; have n0_ := Aside0.mk (below_step (by repeat (first | (with_reducible first | exact HB.out | apply below_alloc | apply pw_below_drewN | apply below_drew1) | exact HB.out)) hb); clear HB; have HB := n0_; clear n0_; (try clear hb); (try clear hb2); (try clear hk); (try clear hi)))
      go_ret
      exact ⟨by first | rfl | (simp [errW_none, errW_some] <;> rfl) | (simp [*, errW_none, errW_some] <;> rfl) | (simp [*, q_isEmpty]; done) | (simp [*]; exact q_gt _ _ (by assumption)), by repeat (first | (with_reducible first | exact HB.out | apply below_alloc | apply pw_below_drewN | apply below_drew1) | exact HB.out)⟩

end Go.Proofs.YtkbaihcamimnjaaDoor.Q
