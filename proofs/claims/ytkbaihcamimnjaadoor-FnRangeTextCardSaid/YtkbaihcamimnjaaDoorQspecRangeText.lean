-- Printed for this seat by wip/pp.py of this repo; nothing here is trusted: Lean checks it.
import Derived.Test.YtkbaihcamimnjaaDoorQ0
import Derived.Test.YtkbaihcamimnjaaDoorQspecdecimal
namespace Go.Proofs.YtkbaihcamimnjaaDoor.Q
open Go.RowKit Go.Proofs.YtkbaihcamimnjaaDoorW.PrintWords Go.Proofs.YtkbaihcamimnjaaDoorW.PrintLast Go.Proofs.YtkbaihcamimnjaaDoorW.PrintMore
attribute [local go_sem] max2_int min2_int max_two min_two max_three min_three max_four min_four   -- for this text's walks alone
set_option linter.unusedVariables false
set_option linter.unusedSimpArgs false

/-! ### spec_RangeText: function 13 -/
def spec_RangeText.f (k : Nat) (a0 : Int) (a1 : Int) : Option (ByteArray) := if a0 = a1 then ((spec_decimal.f k a0).bind fun t130 => (some t130)) else ((spec_decimal.f k a0).bind fun t131 => (if t131.size + 1 ≤ 9223372036854775807 then ((spec_decimal.f k a1).bind fun t132 => (if (t131 ++ (⟨#[58]⟩ : ByteArray)).size + t132.size ≤ 9223372036854775807 then (some ((t131 ++ (⟨#[58]⟩ : ByteArray)) ++ t132)) else (none))) else (none)))
theorem spec_RangeText.mono : ∀ a0 a1 k, LeO (spec_RangeText.f k a0 a1) (spec_RangeText.f (k + 1) a0 a1) := by
  intro a0 a1 k
  unfold spec_RangeText.f
  repeat' first
      | (with_reducible exact spec_decimal.mono _ _)
      | (with_reducible exact LeO.refl _)
      | (with_reducible exact LeO.none _)
      | (with_reducible refine LeO.ite ?_ ?_)
      | (with_reducible refine LeO.bind ?_ (fun _ => ?_))
      | exact spec_decimal.mono _ _
      | exact LeO.none _
      | refine LeO.ite ?_ ?_
      | refine LeO.bind ?_ (fun _ => ?_)
set_option maxHeartbeats 8000000 in
set_option maxRecDepth 100000 in
theorem spec_RangeText.calls (k : Nat) (a0 : Int) (a1 : Int) (r : ByteArray) (w : World) (h : spec_RangeText.f k a0 a1 = some r) :
    Calls Tryd.prog 13 #[.int .i64 a0, .int .i64 a1] w fun e w' => e = .returned (.string r) ∧ Below w.heap.size w w' := by
  have HB := Aside0.mk (Below.refl w.heap.size w)
  have H : (if a0 = a1 then ((spec_decimal.f k a0).bind fun t130 => (some t130)) else ((spec_decimal.f k a0).bind fun t131 => (if t131.size + 1 ≤ 9223372036854775807 then ((spec_decimal.f k a1).bind fun t132 => (if (t131 ++ (⟨#[58]⟩ : ByteArray)).size + t132.size ≤ 9223372036854775807 then (some ((t131 ++ (⟨#[58]⟩ : ByteArray)) ++ t132)) else (none))) else (none)))) = some r := h
  clear h
  by_cases c3 : a0 = a1
  · rw [if_pos c3] at H
    have c3b0 : (a0 == a1) = true := beq_iff_eq.mpr c3
    have c3b1 : (a0 != a1) = false := bne_eq_false_iff_eq.mpr c3
    clear c3
    replace H := Option.bind_eq_some_iff.mp H
    obtain ⟨t130, A40, H⟩ := H
    replace H : (some t130) = some r := H
    have A4 := Aside0.mk A40
    clear A40
    obtain rfl := Option.some.inj H
    go_enter Tryd.func13, Tryd.ntmps13
    go_wp2_with (first | ((with_reducible refine gate_callee (f := 27) rfl ?_); refine goesL_ _ rfl rfl Tryd.func27 (by kernel_rfl) rfl #[.int .i64 a0] rfl (by (try simp only [List.map_toArray, List.map_cons, List.map_nil]); first | done | rfl | (simp only [List.length_drop, List.length_take]; rfl)) ?_; (with_reducible refine (spec_decimal.calls k a0 t130 _ A4.out).mono ?_); rintro e w5 ⟨rfl, hb⟩; refine ⟨_, rfl, ?_⟩; have n0_ := Aside0.mk (below_step (by repeat (first | (with_reducible first | exact HB.out | apply below_alloc | apply pw_below_drewN | apply below_drew1) | exact HB.out)) hb); clear HB; have HB := n0_; clear n0_; (try clear hb); (try clear hb2); (try clear hk); (try clear hi)))
    go_ret
    exact ⟨by first | rfl | (simp [errW_none, errW_some] <;> rfl) | (simp [*, errW_none, errW_some] <;> rfl) | (simp [*, q_isEmpty]; done) | (simp [*]; exact q_gt _ _ (by assumption)), by repeat (first | (with_reducible first | exact HB.out | apply below_alloc | apply pw_below_drewN | apply below_drew1) | exact HB.out)⟩
  · rw [if_neg c3] at H
    have c3b0 : (a0 == a1) = false := beq_eq_false_iff_ne.mpr c3
    have c3b1 : (a0 != a1) = true := bne_iff_ne.mpr c3
    replace H := Option.bind_eq_some_iff.mp H
    obtain ⟨t131, A60, H⟩ := H
    replace H : (if t131.size + 1 ≤ 9223372036854775807 then ((spec_decimal.f k a1).bind fun t132 => (if (t131 ++ (⟨#[58]⟩ : ByteArray)).size + t132.size ≤ 9223372036854775807 then (some ((t131 ++ (⟨#[58]⟩ : ByteArray)) ++ t132)) else (none))) else (none)) = some r := H
    have A6 := Aside0.mk A60
    clear A60
    by_cases c7 : t131.size + 1 ≤ 9223372036854775807
    · rw [if_pos c7] at H
      have c7b0 := eq_true c7
      have c7b1 : decide (t131.size + 1 ≤ 9223372036854775807) = true := decide_eq_true c7
      try have c7b2 : (9223372036854775807 < t131.size + 1) = False := eq_false (Nat.not_lt.2 c7)
      replace H := Option.bind_eq_some_iff.mp H
      obtain ⟨t132, A80, H⟩ := H
      replace H : (if (t131 ++ (⟨#[58]⟩ : ByteArray)).size + t132.size ≤ 9223372036854775807 then (some ((t131 ++ (⟨#[58]⟩ : ByteArray)) ++ t132)) else (none)) = some r := H
      have A8 := Aside0.mk A80
      clear A80
      by_cases c9 : (t131 ++ (⟨#[58]⟩ : ByteArray)).size + t132.size ≤ 9223372036854775807
      · rw [if_pos c9] at H
        have c9b0 := eq_true c9
        have c9b1 : decide ((t131 ++ (⟨#[58]⟩ : ByteArray)).size + t132.size ≤ 9223372036854775807) = true := decide_eq_true c9
        try have c9b2 : (9223372036854775807 < (t131 ++ (⟨#[58]⟩ : ByteArray)).size + t132.size) = False := eq_false (Nat.not_lt.2 c9)
        try have c9b3 : (9223372036854775807 < t131.size + 1 + t132.size) = False := eq_false (by have z := Nat.not_lt.2 c9; (repeat rw [ByteArray.size_append] at z); exact z)
        obtain rfl := Option.some.inj H
        go_enter Tryd.func13, Tryd.ntmps13
        go_wp2_with (first | ((with_reducible refine gate_callee (f := 27) rfl ?_); refine goesL_ _ rfl rfl Tryd.func27 (by kernel_rfl) rfl #[.int .i64 a0] rfl (by (try simp only [List.map_toArray, List.map_cons, List.map_nil]); first | done | rfl | (simp only [List.length_drop, List.length_take]; rfl)) ?_; (with_reducible refine (spec_decimal.calls k a0 t131 _ A6.out).mono ?_); rintro e w10 ⟨rfl, hb⟩; refine ⟨_, rfl, ?_⟩; have n0_ := Aside0.mk (below_step (by repeat (first | (with_reducible first | exact HB.out | apply below_alloc | apply pw_below_drewN | apply below_drew1) | exact HB.out)) hb); clear HB; have HB := n0_; clear n0_; (try clear hb); (try clear hb2); (try clear hk); (try clear hi)) | ((with_reducible refine gate_callee (f := 27) rfl ?_); refine goesL_ _ rfl rfl Tryd.func27 (by kernel_rfl) rfl #[.int .i64 a1] rfl (by (try simp only [List.map_toArray, List.map_cons, List.map_nil]); first | done | rfl | (simp only [List.length_drop, List.length_take]; rfl)) ?_; (with_reducible refine (spec_decimal.calls k a1 t132 _ A8.out).mono ?_); rintro e w11 ⟨rfl, hb⟩; refine ⟨_, rfl, ?_⟩; have n0_ := Aside0.mk (below_step (by repeat (first | (with_reducible first | exact HB.out | apply below_alloc | apply pw_below_drewN | apply below_drew1) | exact HB.out)) hb); clear HB; have HB := n0_; clear n0_; (try clear hb); (try clear hb2); (try clear hk); (try clear hi)))
        go_ret
        exact ⟨by first | rfl | (simp [errW_none, errW_some] <;> rfl) | (simp [*, errW_none, errW_some] <;> rfl) | (simp [*, q_isEmpty]; done) | (simp [*]; exact q_gt _ _ (by assumption)), by repeat (first | (with_reducible first | exact HB.out | apply below_alloc | apply pw_below_drewN | apply below_drew1) | exact HB.out)⟩
      · rw [if_neg c9] at H
        exact absurd H (by simp)
    · rw [if_neg c7] at H
      exact absurd H (by simp)

end Go.Proofs.YtkbaihcamimnjaaDoor.Q
