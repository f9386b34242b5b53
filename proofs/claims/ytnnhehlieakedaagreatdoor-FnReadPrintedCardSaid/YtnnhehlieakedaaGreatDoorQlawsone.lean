-- Printed for this seat by wip/pp.py of this repo; nothing here is trusted: Lean checks it.
import Derived.Test.YtnnhehlieakedaaGreatDoorHTabQR
import Derived.Test.YtnnhehlieakedaaGreatDoorQ0
import Derived.Test.YtnnhehlieakedaaGreatDoorHParseM
import Derived.Test.YtnnhehlieakedaaGreatDoorQEq0
namespace Go.Proofs.YtnnhehlieakedaaGreatDoor.Q
open Go.RowKit Go.Proofs.YtnnhehlieakedaaGreatDoorW.PrintWords Go.Proofs.YtnnhehlieakedaaGreatDoorW.PrintLast Go.Proofs.YtnnhehlieakedaaGreatDoorW.PrintMore
attribute [local go_sem] max2_int min2_int max_two min_two max_three min_three max_four min_four   -- for this text's walks alone
set_option linter.unusedVariables false
set_option linter.unusedSimpArgs false

attribute [local go_sem high] eqA25
/-! ### laws_one: function 7 -/
def laws_one.f  : Option (Bool) := (impl_ParseMatchers.f (⟨#[123, 97, 61, 34, 98, 34, 125]⟩ : ByteArray)).bind fun bt102 => (if bt102.2 = true then (if (bt102.1.length : Int) = 1 then (if 0 < (bt102.1.length : Int) then (some (((rd_T25 bt102.1 0).f0) == 0 && ((((rd_T25 bt102.1 0).f1).toList) == ([97] : List UInt8) && ((((rd_T25 bt102.1 0).f2).toList) == ([98] : List UInt8))))) else (none)) else (some false)) else (some false))
set_option maxHeartbeats 8000000 in
set_option maxRecDepth 100000 in
theorem laws_one.calls  (r : Bool) (w : World) (tb : TBq w) (h : laws_one.f  = some r) :
    Calls Tryz.prog 7 #[] w fun e w' => e = .returned (.bool r) ∧ Below w.heap.size w w' := by
  have hu25 := Tryz.underlying25
  have HB := Aside0.mk (Below.refl w.heap.size w)
  have TB0 := Aside0.mk tb
  clear tb
  have H : ((impl_ParseMatchers.f (⟨#[123, 97, 61, 34, 98, 34, 125]⟩ : ByteArray)).bind fun bt102 => (if bt102.2 = true then (if (bt102.1.length : Int) = 1 then (if 0 < (bt102.1.length : Int) then (some (((rd_T25 bt102.1 0).f0) == 0 && ((((rd_T25 bt102.1 0).f1).toList) == ([97] : List UInt8) && ((((rd_T25 bt102.1 0).f2).toList) == ([98] : List UInt8))))) else (none)) else (some false)) else (some false))) = some r := h
  clear h
  replace H := Option.bind_eq_some_iff.mp H
  obtain ⟨⟨t102, t103⟩, A10, H⟩ := H
  replace H : (if t103 = true then (if (t102.length : Int) = 1 then (if 0 < (t102.length : Int) then (some (((rd_T25 t102 0).f0) == 0 && ((((rd_T25 t102 0).f1).toList) == ([97] : List UInt8) && ((((rd_T25 t102 0).f2).toList) == ([98] : List UInt8))))) else (none)) else (some false)) else (some false)) = some r := H
  have A1 := Aside0.mk A10
  clear A10
  by_cases c2 : t103 = true
  · subst c2
    have H1 : (if (t102.length : Int) = 1 then (if 0 < (t102.length : Int) then (some (((rd_T25 t102 0).f0) == 0 && ((((rd_T25 t102 0).f1).toList) == ([97] : List UInt8) && ((((rd_T25 t102 0).f2).toList) == ([98] : List UInt8))))) else (none)) else (some false)) = some r := by rw [if_pos rfl] at H; exact H
    clear H
    have H := H1
    clear H1
    by_cases c3 : (t102.length : Int) = 1
    · rw [if_pos c3] at H
      have c3b0 : ((t102.length : Int) == 1) = true := beq_iff_eq.mpr c3
      have c3b1 : ((t102.length : Int) != 1) = false := bne_eq_false_iff_eq.mpr c3
      clear c3
      by_cases c4 : 0 < (t102.length : Int)
      · rw [if_pos c4] at H
        have c4b0 : decide (0 < (t102.length : Int)) = true := decide_eq_true c4
        have c4b1 : decide (0 < t102.length) = true := decide_eq_true (by omega)
        clear c4
        obtain rfl := Option.some.inj H
        go_enter Tryz.func7, Tryz.ntmps7
        go_wp2_with (first | ((with_reducible refine gate_callee (f := 12) rfl ?_); refine goesL_ (some 4) rfl rfl Tryz.func12 (by kernel_rfl) rfl #[.string (⟨#[123, 97, 61, 34, 98, 34, 125]⟩ : ByteArray)] rfl (by (try simp only [List.map_toArray, List.map_cons, List.map_nil]); first | done | rfl | (simp only [List.length_drop, List.length_take]; rfl)) ?_; (with_reducible refine (impl_ParseMatchers.calls (⟨#[123, 97, 61, 34, 98, 34, 125]⟩ : ByteArray) t102 true _ (TBq.below TB0.out (by repeat (first | (with_reducible first | exact HB.out | apply below_alloc | apply pw_below_drewN | apply below_drew1 | refine below_set ?_ (Aside0.out (by assumption))) | exact HB.out))) A1.out).mono ?_); rintro e w5 ⟨v104, rfl, ho0, hb⟩; refine ⟨_, rfl, ?_⟩; have n0_ := Aside0.mk (Kd.R_lower ho0 (below_size (by repeat (first | (with_reducible first | exact HB.out | apply below_alloc | apply pw_below_drewN | apply below_drew1) | exact HB.out)))); have n1_ := Aside0.mk (below_step (by repeat (first | (with_reducible first | exact HB.out | apply below_alloc | apply pw_below_drewN | apply below_drew1) | exact HB.out)) hb); clear HB; have HO105 := n0_; have HB := n1_; clear n0_ n1_; (try clear hb); (try clear hb2); (try clear hk); (try clear hi); (try clear ho0); obtain ⟨Ao6, co6, eo6⟩ := Kd.R_slice HO105.out; subst eo6; have p106 : 0 ≤ (0 : Int) := (by omega); have q106 : 0 < (t102.length : Int) := of_decide_eq_true (by first | (with_reducible assumption) | assumption); obtain ⟨ad106, e106, hx106_0, hx106_1, hx106_2⟩ := at_T25 (Kd.R_reads' HO105.out).2.2 0 p106 q106; cases e106; have qi106 : (0 < t102.length) = True := eq_true (by omega); (try rw [show ((0 : Int)).toNat = 0 from rfl] at hx106_0); (try rw [show 0 * 3 = 0 from rfl] at hx106_0); (try rw [Addr.add_zero'] at hx106_0); (try rw [show ((0 : Int)).toNat = 0 from rfl] at hx106_1); (try rw [show 0 * 3 = 0 from rfl] at hx106_1); (try rw [Addr.add_zero'] at hx106_1); (try rw [show ((0 : Int)).toNat = 0 from rfl] at hx106_2); (try rw [show 0 * 3 = 0 from rfl] at hx106_2); (try rw [Addr.add_zero'] at hx106_2); replace p106 := eq_true p106; replace q106 := eq_true q106))
        go_ret
        exact ⟨by first | rfl | (simp [errW_none, errW_some] <;> rfl) | (simp [*, errW_none, errW_some] <;> rfl) | (simp [*, q_isEmpty]; done) | (simp [*]; exact q_gt _ _ (by assumption)), by repeat (first | (with_reducible first | exact HB.out | apply below_alloc | apply pw_below_drewN | apply below_drew1) | exact HB.out)⟩
      · rw [if_neg c4] at H
        exact absurd H (by simp)
    · rw [if_neg c3] at H
      have c3b0 : ((t102.length : Int) == 1) = false := beq_eq_false_iff_ne.mpr c3
      have c3b1 : ((t102.length : Int) != 1) = true := bne_iff_ne.mpr c3
      obtain rfl := Option.some.inj H
      go_enter Tryz.func7, Tryz.ntmps7
      go_wp2_with (first | ((with_reducible refine gate_callee (f := 12) rfl ?_); refine goesL_ (some 4) rfl rfl Tryz.func12 (by kernel_rfl) rfl #[.string (⟨#[123, 97, 61, 34, 98, 34, 125]⟩ : ByteArray)] rfl (by (try simp only [List.map_toArray, List.map_cons, List.map_nil]); first | done | rfl | (simp only [List.length_drop, List.length_take]; rfl)) ?_; (with_reducible refine (impl_ParseMatchers.calls (⟨#[123, 97, 61, 34, 98, 34, 125]⟩ : ByteArray) t102 true _ (TBq.below TB0.out (by repeat (first | (with_reducible first | exact HB.out | apply below_alloc | apply pw_below_drewN | apply below_drew1 | refine below_set ?_ (Aside0.out (by assumption))) | exact HB.out))) A1.out).mono ?_); rintro e w7 ⟨v104, rfl, ho0, hb⟩; refine ⟨_, rfl, ?_⟩; have n0_ := Aside0.mk (Kd.R_lower ho0 (below_size (by repeat (first | (with_reducible first | exact HB.out | apply below_alloc | apply pw_below_drewN | apply below_drew1) | exact HB.out)))); have n1_ := Aside0.mk (below_step (by repeat (first | (with_reducible first | exact HB.out | apply below_alloc | apply pw_below_drewN | apply below_drew1) | exact HB.out)) hb); clear HB; have HO105 := n0_; have HB := n1_; clear n0_ n1_; (try clear hb); (try clear hb2); (try clear hk); (try clear hi); (try clear ho0); obtain ⟨Ao8, co8, eo8⟩ := Kd.R_slice HO105.out; subst eo8))
      go_ret
      exact ⟨by first | rfl | (simp [errW_none, errW_some] <;> rfl) | (simp [*, errW_none, errW_some] <;> rfl) | (simp [*, q_isEmpty]; done) | (simp [*]; exact q_gt _ _ (by assumption)), by repeat (first | (with_reducible first | exact HB.out | apply below_alloc | apply pw_below_drewN | apply below_drew1) | exact HB.out)⟩
  · replace c2 := Bool.eq_false_iff.mpr c2
    subst c2
    have H1 : (some false) = some r := by rw [if_neg (show ¬ (false = true) by decide)] at H; exact H
    clear H
    have H := H1
    clear H1
    obtain rfl := Option.some.inj H
    go_enter Tryz.func7, Tryz.ntmps7
    go_wp2_with (first | ((with_reducible refine gate_callee (f := 12) rfl ?_); refine goesL_ (some 4) rfl rfl Tryz.func12 (by kernel_rfl) rfl #[.string (⟨#[123, 97, 61, 34, 98, 34, 125]⟩ : ByteArray)] rfl (by (try simp only [List.map_toArray, List.map_cons, List.map_nil]); first | done | rfl | (simp only [List.length_drop, List.length_take]; rfl)) ?_; (with_reducible refine (impl_ParseMatchers.calls (⟨#[123, 97, 61, 34, 98, 34, 125]⟩ : ByteArray) t102 false _ (TBq.below TB0.out (by repeat (first | (with_reducible first | exact HB.out | apply below_alloc | apply pw_below_drewN | apply below_drew1 | refine below_set ?_ (Aside0.out (by assumption))) | exact HB.out))) A1.out).mono ?_); rintro e w9 ⟨v104, rfl, ho0, hb⟩; refine ⟨_, rfl, ?_⟩; have n0_ := Aside0.mk (Kd.R_lower ho0 (below_size (by repeat (first | (with_reducible first | exact HB.out | apply below_alloc | apply pw_below_drewN | apply below_drew1) | exact HB.out)))); have n1_ := Aside0.mk (below_step (by repeat (first | (with_reducible first | exact HB.out | apply below_alloc | apply pw_below_drewN | apply below_drew1) | exact HB.out)) hb); clear HB; have HO105 := n0_; have HB := n1_; clear n0_ n1_; (try clear hb); (try clear hb2); (try clear hk); (try clear hi); (try clear ho0)))
    go_ret
    exact ⟨by first | rfl | (simp [errW_none, errW_some] <;> rfl) | (simp [*, errW_none, errW_some] <;> rfl) | (simp [*, q_isEmpty]; done) | (simp [*]; exact q_gt _ _ (by assumption)), by repeat (first | (with_reducible first | exact HB.out | apply below_alloc | apply pw_below_drewN | apply below_drew1) | exact HB.out)⟩

end Go.Proofs.YtnnhehlieakedaaGreatDoor.Q
