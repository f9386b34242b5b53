-- Printed for this seat by wip/pp.py of this repo; nothing here is trusted: Lean checks it.
import Derived.Test.YtkbaihcamimnjaaDoorQ0
import Derived.Test.YtkbaihcamimnjaaDoorHEscC
import Derived.Test.YtkbaihcamimnjaaDoorQspecEscape
namespace Go.Proofs.YtkbaihcamimnjaaDoor.Q
open Go.RowKit Go.Proofs.YtkbaihcamimnjaaDoorW.PrintWords Go.Proofs.YtkbaihcamimnjaaDoorW.PrintLast Go.Proofs.YtkbaihcamimnjaaDoorW.PrintMore
attribute [local go_sem] max2_int min2_int max_two min_two max_three min_three max_four min_four   -- for this text's walks alone
set_option linter.unusedVariables false
set_option linter.unusedSimpArgs false

/-! ### laws_FnEscapeSays: function 7 -/
def laws_FnEscapeSays.f (k : Nat) (a0 : ByteArray) (a1 : Int) : Option (Bool) := if (a0.size : Int) > 2147483647 then (some true) else ((impl_Escape.f (⟨#[97, 46, 98]⟩ : ByteArray) 1).bind fun t175 => (if t175.toList = ([97, 95, 98] : List UInt8) then (if (a0.size : Int) > 5000 then (some true) else ((spec_Escape.f k a0 (wrap64 (Int.tmod a1 4))).bind fun bt176 => (if bt176.2 = 1 then ((impl_Escape.f a0 (wrap64 (Int.tmod a1 4))).bind fun t178 => (some (t178.toList == bt176.1.toList))) else (some true)))) else (some false)))
theorem laws_FnEscapeSays.mono : ∀ a0 a1 k, LeO (laws_FnEscapeSays.f k a0 a1) (laws_FnEscapeSays.f (k + 1) a0 a1) := by
  intro a0 a1 k
  unfold laws_FnEscapeSays.f
  repeat' first
      | (with_reducible exact spec_Escape.mono _ _ _)
      | (with_reducible exact LeO.refl _)
      | (with_reducible exact LeO.none _)
      | (with_reducible refine LeO.ite ?_ ?_)
      | (with_reducible refine LeO.bind ?_ (fun _ => ?_))
      | exact spec_Escape.mono _ _ _
      | exact LeO.none _
      | refine LeO.ite ?_ ?_
      | refine LeO.bind ?_ (fun _ => ?_)
set_option maxHeartbeats 8000000 in
set_option maxRecDepth 100000 in
theorem laws_FnEscapeSays.calls (k : Nat) (a0 : ByteArray) (a1 : Int) (r : Bool) (w : World) (tb : TBz w) (h : laws_FnEscapeSays.f k a0 a1 = some r) :
    Calls Tryd.prog 7 #[.string a0, .int .u8 a1] w fun e w' => e = .returned (.bool r) ∧ Below w.heap.size w w' := by
  have HB := Aside0.mk (Below.refl w.heap.size w)
  have TB0 := Aside0.mk tb
  clear tb
  have H : (if (a0.size : Int) > 2147483647 then (some true) else ((impl_Escape.f (⟨#[97, 46, 98]⟩ : ByteArray) 1).bind fun t175 => (if t175.toList = ([97, 95, 98] : List UInt8) then (if (a0.size : Int) > 5000 then (some true) else ((spec_Escape.f k a0 (wrap64 (Int.tmod a1 4))).bind fun bt176 => (if bt176.2 = 1 then ((impl_Escape.f a0 (wrap64 (Int.tmod a1 4))).bind fun t178 => (some (t178.toList == bt176.1.toList))) else (some true)))) else (some false)))) = some r := h
  clear h
  by_cases c3 : (a0.size : Int) > 2147483647
  · rw [if_pos c3] at H
    have c3b0 : decide (2147483647 < (a0.size : Int)) = true := decide_eq_true c3
    have c3b1 : decide (2147483647 < a0.size) = true := decide_eq_true (by omega)
    clear c3
    obtain rfl := Option.some.inj H
    go_enter Tryd.func7, Tryd.ntmps7
    go_wp2
    go_ret
    exact ⟨by first | rfl | (simp [errW_none, errW_some] <;> rfl) | (simp [*, errW_none, errW_some] <;> rfl) | (simp [*, q_isEmpty]; done) | (simp [*]; exact q_gt _ _ (by assumption)), by repeat (first | (with_reducible first | exact HB.out | apply below_alloc | apply pw_below_drewN | apply below_drew1) | exact HB.out)⟩
  · rw [if_neg c3] at H
    have c3b0 : decide (2147483647 < (a0.size : Int)) = false := decide_eq_false c3
    have c3b1 : decide (2147483647 < a0.size) = false := decide_eq_false (by omega)
    clear c3
    replace H := Option.bind_eq_some_iff.mp H
    obtain ⟨t175, A40, H⟩ := H
    replace H : (if t175.toList = ([97, 95, 98] : List UInt8) then (if (a0.size : Int) > 5000 then (some true) else ((spec_Escape.f k a0 (wrap64 (Int.tmod a1 4))).bind fun bt176 => (if bt176.2 = 1 then ((impl_Escape.f a0 (wrap64 (Int.tmod a1 4))).bind fun t178 => (some (t178.toList == bt176.1.toList))) else (some true)))) else (some false)) = some r := H
    have A4 := Aside0.mk A40
    clear A40
    by_cases c5 : t175.toList = ([97, 95, 98] : List UInt8)
    · rw [if_pos c5] at H
      have c5b0 : (t175.toList == ([97, 95, 98] : List UInt8)) = true := beq_iff_eq.mpr c5
      have c5b1 : (t175.toList != ([97, 95, 98] : List UInt8)) = false := bne_eq_false_iff_eq.mpr c5
      clear c5
      by_cases c6 : (a0.size : Int) > 5000
      · rw [if_pos c6] at H
        have c6b0 : decide (5000 < (a0.size : Int)) = true := decide_eq_true c6
        have c6b1 : decide (5000 < a0.size) = true := decide_eq_true (by omega)
        clear c6
        obtain rfl := Option.some.inj H
        go_enter Tryd.func7, Tryd.ntmps7
        go_wp2_with (first | ((with_reducible refine gate_callee (f := 14) rfl ?_); refine goesL_ (some 11) rfl rfl Tryd.func14 (by kernel_rfl) rfl #[.string (⟨#[97, 46, 98]⟩ : ByteArray), .int .i64 1] rfl (by (try simp only [List.map_toArray, List.map_cons, List.map_nil]); first | done | rfl | (simp only [List.length_drop, List.length_take]; rfl)) ?_; (with_reducible refine (impl_Escape.calls (⟨#[97, 46, 98]⟩ : ByteArray) 1 t175 _ (TBz.below TB0.out (by repeat (first | (with_reducible first | exact HB.out | apply below_alloc | apply pw_below_drewN | apply below_drew1) | exact HB.out))) A4.out).mono ?_); rintro e w7 ⟨rfl, hb⟩; refine ⟨_, rfl, ?_⟩; have n0_ := Aside0.mk (below_step (by repeat (first | (with_reducible first | exact HB.out | apply below_alloc | apply pw_below_drewN | apply below_drew1) | exact HB.out)) hb); clear HB; have HB := n0_; clear n0_; (try clear hb); (try clear hb2); (try clear hk); (try clear hi)))
        go_ret
        exact ⟨by first | rfl | (simp [errW_none, errW_some] <;> rfl) | (simp [*, errW_none, errW_some] <;> rfl) | (simp [*, q_isEmpty]; done) | (simp [*]; exact q_gt _ _ (by assumption)), by repeat (first | (with_reducible first | exact HB.out | apply below_alloc | apply pw_below_drewN | apply below_drew1) | exact HB.out)⟩
      · rw [if_neg c6] at H
        have c6b0 : decide (5000 < (a0.size : Int)) = false := decide_eq_false c6
        have c6b1 : decide (5000 < a0.size) = false := decide_eq_false (by omega)
        clear c6
        replace H := Option.bind_eq_some_iff.mp H
        obtain ⟨⟨t176, t177⟩, A80, H⟩ := H
        replace H : (if t177 = 1 then ((impl_Escape.f a0 (wrap64 (Int.tmod a1 4))).bind fun t178 => (some (t178.toList == t176.toList))) else (some true)) = some r := H
        have A8 := Aside0.mk A80
        clear A80
        by_cases c9 : t177 = 1
        · rw [if_pos c9] at H
          have c9b0 : (t177 == 1) = true := beq_iff_eq.mpr c9
          have c9b1 : (t177 != 1) = false := bne_eq_false_iff_eq.mpr c9
          clear c9
          replace H := Option.bind_eq_some_iff.mp H
          obtain ⟨t178, A100, H⟩ := H
          replace H : (some (t178.toList == t176.toList)) = some r := H
          have A10 := Aside0.mk A100
          clear A100
          obtain rfl := Option.some.inj H
          go_enter Tryd.func7, Tryd.ntmps7
          go_wp2_with (first | ((with_reducible refine gate_callee (f := 14) rfl ?_); refine goesL_ (some 11) rfl rfl Tryd.func14 (by kernel_rfl) rfl #[.string (⟨#[97, 46, 98]⟩ : ByteArray), .int .i64 1] rfl (by (try simp only [List.map_toArray, List.map_cons, List.map_nil]); first | done | rfl | (simp only [List.length_drop, List.length_take]; rfl)) ?_; (with_reducible refine (impl_Escape.calls (⟨#[97, 46, 98]⟩ : ByteArray) 1 t175 _ (TBz.below TB0.out (by repeat (first | (with_reducible first | exact HB.out | apply below_alloc | apply pw_below_drewN | apply below_drew1) | exact HB.out))) A4.out).mono ?_); rintro e w11 ⟨rfl, hb⟩; refine ⟨_, rfl, ?_⟩; have n0_ := Aside0.mk (below_step (by repeat (first | (with_reducible first | exact HB.out | apply below_alloc | apply pw_below_drewN | apply below_drew1) | exact HB.out)) hb); clear HB; have HB := n0_; clear n0_; (try clear hb); (try clear hb2); (try clear hk); (try clear hi)) | ((with_reducible refine gate_callee (f := 18) rfl ?_); refine goesL_ (some 22) rfl rfl Tryd.func18 (by kernel_rfl) rfl #[.string a0, .int .i64 (wrap64 (Int.tmod a1 4))] rfl (by (try simp only [List.map_toArray, List.map_cons, List.map_nil]); first | done | rfl | (simp only [List.length_drop, List.length_take]; rfl)) ?_; (with_reducible refine (spec_Escape.calls k a0 (wrap64 (Int.tmod a1 4)) t176 t177 _ A8.out).mono ?_); rintro e w' ⟨rfl, ⟨nd, rfl⟩⟩; refine ⟨_, rfl, ?_⟩) | (go_at_call 14; (with_reducible refine (impl_Escape.calls a0 (wrap64 (Int.tmod a1 4)) t178 _ (TBz.below TB0.out (by repeat (first | (with_reducible first | exact HB.out | apply below_alloc | apply pw_below_drewN | apply below_drew1) | exact HB.out))) A10.out).mono ?_); rintro e w12 ⟨rfl, hb⟩; have n0_ := Aside0.mk (below_step (by repeat (first | (with_reducible first | exact HB.out | apply below_alloc | apply pw_below_drewN | apply below_drew1) | exact HB.out)) hb); clear HB; have HB := n0_; clear n0_; (try clear hb); (try clear hb2); (try clear hk); (try clear hi)))
          go_ret
          exact ⟨by first | rfl | (simp [errW_none, errW_some] <;> rfl) | (simp [*, errW_none, errW_some] <;> rfl) | (simp [*, q_isEmpty]; done) | (simp [*]; exact q_gt _ _ (by assumption)), by repeat (first | (with_reducible first | exact HB.out | apply below_alloc | apply pw_below_drewN | apply below_drew1) | exact HB.out)⟩
        · rw [if_neg c9] at H
          have c9b0 : (t177 == 1) = false := beq_eq_false_iff_ne.mpr c9
          have c9b1 : (t177 != 1) = true := bne_iff_ne.mpr c9
          obtain rfl := Option.some.inj H
          go_enter Tryd.func7, Tryd.ntmps7
          go_wp2_with (first | ((with_reducible refine gate_callee (f := 14) rfl ?_); refine goesL_ (some 11) rfl rfl Tryd.func14 (by kernel_rfl) rfl #[.string (⟨#[97, 46, 98]⟩ : ByteArray), .int .i64 1] rfl (by (try simp only [List.map_toArray, List.map_cons, List.map_nil]); first | done | rfl | (simp only [List.length_drop, List.length_take]; rfl)) ?_; (with_reducible refine (impl_Escape.calls (⟨#[97, 46, 98]⟩ : ByteArray) 1 t175 _ (TBz.below TB0.out (by repeat (first | (with_reducible first | exact HB.out | apply below_alloc | apply pw_below_drewN | apply below_drew1) | exact HB.out))) A4.out).mono ?_); rintro e w13 ⟨rfl, hb⟩; refine ⟨_, rfl, ?_⟩; have n0_ := Aside0.mk (below_step (by repeat (first | (with_reducible first | exact HB.out | apply below_alloc | apply pw_below_drewN | apply below_drew1) | exact HB.out)) hb); clear HB; have HB := n0_; clear n0_; (try clear hb); (try clear hb2); (try clear hk); (try clear hi)) | ((with_reducible refine gate_callee (f := 18) rfl ?_); refine goesL_ (some 22) rfl rfl Tryd.func18 (by kernel_rfl) rfl #[.string a0, .int .i64 (wrap64 (Int.tmod a1 4))] rfl (by (try simp only [List.map_toArray, List.map_cons, List.map_nil]); first | done | rfl | (simp only [List.length_drop, List.length_take]; rfl)) ?_; (with_reducible refine (spec_Escape.calls k a0 (wrap64 (Int.tmod a1 4)) t176 t177 _ A8.out).mono ?_); rintro e w' ⟨rfl, ⟨nd, rfl⟩⟩; refine ⟨_, rfl, ?_⟩))
          go_ret
          exact ⟨by first | rfl | (simp [errW_none, errW_some] <;> rfl) | (simp [*, errW_none, errW_some] <;> rfl) | (simp [*, q_isEmpty]; done) | (simp [*]; exact q_gt _ _ (by assumption)), by repeat (first | (with_reducible first | exact HB.out | apply below_alloc | apply pw_below_drewN | apply below_drew1) | exact HB.out)⟩
    · rw [if_neg c5] at H
      have c5b0 : (t175.toList == ([97, 95, 98] : List UInt8)) = false := beq_eq_false_iff_ne.mpr c5
      have c5b1 : (t175.toList != ([97, 95, 98] : List UInt8)) = true := bne_iff_ne.mpr c5
      obtain rfl := Option.some.inj H
      go_enter Tryd.func7, Tryd.ntmps7
      go_wp2_with (first | ((with_reducible refine gate_callee (f := 14) rfl ?_); refine goesL_ (some 11) rfl rfl Tryd.func14 (by kernel_rfl) rfl #[.string (⟨#[97, 46, 98]⟩ : ByteArray), .int .i64 1] rfl (by (try simp only [List.map_toArray, List.map_cons, List.map_nil]); first | done | rfl | (simp only [List.length_drop, List.length_take]; rfl)) ?_; (with_reducible refine (impl_Escape.calls (⟨#[97, 46, 98]⟩ : ByteArray) 1 t175 _ (TBz.below TB0.out (by repeat (first | (with_reducible first | exact HB.out | apply below_alloc | apply pw_below_drewN | apply below_drew1) | exact HB.out))) A4.out).mono ?_); rintro e w14 ⟨rfl, hb⟩; refine ⟨_, rfl, ?_⟩; have n0_ := Aside0.mk (below_step (by repeat (first | (with_reducible first | exact HB.out | apply below_alloc | apply pw_below_drewN | apply below_drew1) | exact HB.out)) hb); clear HB; have HB := n0_; clear n0_; (try clear hb); (try clear hb2); (try clear hk); (try clear hi)))
      go_ret
      exact ⟨by first | rfl | (simp [errW_none, errW_some] <;> rfl) | (simp [*, errW_none, errW_some] <;> rfl) | (simp [*, q_isEmpty]; done) | (simp [*]; exact q_gt _ _ (by assumption)), by repeat (first | (with_reducible first | exact HB.out | apply below_alloc | apply pw_below_drewN | apply below_drew1) | exact HB.out)⟩

end Go.Proofs.YtkbaihcamimnjaaDoor.Q
