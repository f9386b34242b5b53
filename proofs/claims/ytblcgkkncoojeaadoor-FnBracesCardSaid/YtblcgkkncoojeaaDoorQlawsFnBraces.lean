-- Printed for this seat by wip/pp.py of this repo; nothing here is trusted: Lean checks it.
import Derived.Test.YtblcgkkncoojeaaDoorHTabQ
import Derived.Test.YtblcgkkncoojeaaDoorQ0
import Derived.Test.YtblcgkkncoojeaaDoorHParseM
import Derived.Test.YtblcgkkncoojeaaDoorHTokens
import Derived.Test.YtblcgkkncoojeaaDoorQlawseqMatchers
import Derived.Test.YtblcgkkncoojeaaDoorQlawshas
import Derived.Test.YtblcgkkncoojeaaDoorQlawsone
namespace Go.Proofs.YtblcgkkncoojeaaDoor.Q
open Go.RowKit Go.Proofs.YtblcgkkncoojeaaDoorW.PrintWords Go.Proofs.YtblcgkkncoojeaaDoorW.PrintLast Go.Proofs.YtblcgkkncoojeaaDoorW.PrintMore
attribute [local go_sem] max2_int min2_int max_two min_two max_three min_three max_four min_four   -- for this text's walks alone
set_option linter.unusedVariables false
set_option linter.unusedSimpArgs false

/-! ### laws_FnBraces: function 4 -/
mutual
def laws_FnBraces.j0 : Nat → ByteArray → Bool → Option (Bool)
  | 0, _, _ => none
  | k + 1, x0, x20 => if x20 = true then (some true) else ((impl_Tokens.f x0).bind fun bt131 => (if bt131.2 = true then (if (bt131.1.length : Int) = 0 then (laws_FnBraces.j1 k x0 true) else (if 0 < (bt131.1.length : Int) then (laws_FnBraces.j1 k x0 (((rd_T28 bt131.1 0).f0) == 1)) else (none))) else (laws_FnBraces.j1 k x0 true)))
def laws_FnBraces.j1 : Nat → ByteArray → Bool → Option (Bool)
  | 0, _, _ => none
  | k + 1, x0, x39 => if x39 = true then (some true) else ((impl_ParseMatchers.f x0).bind fun bt136 => (if 1 + x0.size ≤ 9223372036854775807 then (if ((⟨#[123]⟩ : ByteArray) ++ x0).size + 1 ≤ 9223372036854775807 then ((impl_ParseMatchers.f (((⟨#[123]⟩ : ByteArray) ++ x0) ++ (⟨#[125]⟩ : ByteArray))).bind fun bt140 => (if (bt136.2 == bt140.2) = true then ((laws_eqMatchers.f k bt136.1 bt140.1).bind fun t144 => (some t144)) else (some false))) else (none)) else (none)))
end
def laws_FnBraces.f (k : Nat) (a0 : ByteArray) : Option (Bool) := if (a0.size : Int) > 2147483647 then (some true) else ((laws_one.f).bind fun t129 => (if t129 = true then (if (a0.size : Int) > 5000 then (laws_FnBraces.j0 k a0 true) else ((laws_has.f k a0 126).bind fun t130 => (laws_FnBraces.j0 k a0 t130))) else (some false)))
theorem laws_FnBraces.mono_l : ∀ k, (∀ y0 y1, LeO (laws_FnBraces.j0 k y0 y1) (laws_FnBraces.j0 (k + 1) y0 y1)) ∧ (∀ y0 y1, LeO (laws_FnBraces.j1 k y0 y1) (laws_FnBraces.j1 (k + 1) y0 y1))
  | 0 => ⟨fun _ _ r h => by simp [laws_FnBraces.j0] at h, fun _ _ r h => by simp [laws_FnBraces.j1] at h⟩
  | k + 1 => by
    obtain ⟨ih0, ih1⟩ := laws_FnBraces.mono_l k
    refine ⟨?_, ?_⟩
    · intro y0 y1
      unfold laws_FnBraces.j0
      repeat' first
      | (with_reducible exact ih0 _ _)
      | (with_reducible exact ih1 _ _)
      | (with_reducible exact laws_eqMatchers.mono _ _ _)
      | (with_reducible exact laws_has.mono _ _ _)
      | (with_reducible exact LeO.refl _)
      | (with_reducible exact LeO.none _)
      | (with_reducible refine LeO.ite ?_ ?_)
      | (with_reducible refine LeO.bind ?_ (fun _ => ?_))
      | exact ih0 _ _
      | exact ih1 _ _
      | exact laws_eqMatchers.mono _ _ _
      | exact laws_has.mono _ _ _
      | exact LeO.none _
      | refine LeO.ite ?_ ?_
      | refine LeO.bind ?_ (fun _ => ?_)
    · intro y0 y1
      unfold laws_FnBraces.j1
      repeat' first
      | (with_reducible exact ih0 _ _)
      | (with_reducible exact ih1 _ _)
      | (with_reducible exact laws_eqMatchers.mono _ _ _)
      | (with_reducible exact laws_has.mono _ _ _)
      | (with_reducible exact LeO.refl _)
      | (with_reducible exact LeO.none _)
      | (with_reducible refine LeO.ite ?_ ?_)
      | (with_reducible refine LeO.bind ?_ (fun _ => ?_))
      | exact ih0 _ _
      | exact ih1 _ _
      | exact laws_eqMatchers.mono _ _ _
      | exact laws_has.mono _ _ _
      | exact LeO.none _
      | refine LeO.ite ?_ ?_
      | refine LeO.bind ?_ (fun _ => ?_)
theorem laws_FnBraces.mono : ∀ a0 k, LeO (laws_FnBraces.f k a0) (laws_FnBraces.f (k + 1) a0) := by
  intro a0 k
  obtain ⟨ih0, ih1⟩ := laws_FnBraces.mono_l k
  unfold laws_FnBraces.f
  repeat' first
      | (with_reducible exact ih0 _ _)
      | (with_reducible exact ih1 _ _)
      | (with_reducible exact laws_eqMatchers.mono _ _ _)
      | (with_reducible exact laws_has.mono _ _ _)
      | (with_reducible exact LeO.refl _)
      | (with_reducible exact LeO.none _)
      | (with_reducible refine LeO.ite ?_ ?_)
      | (with_reducible refine LeO.bind ?_ (fun _ => ?_))
      | exact ih0 _ _
      | exact ih1 _ _
      | exact laws_eqMatchers.mono _ _ _
      | exact laws_has.mono _ _ _
      | exact LeO.none _
      | refine LeO.ite ?_ ?_
      | refine LeO.bind ?_ (fun _ => ?_)
set_option maxHeartbeats 8000000 in
set_option maxRecDepth 100000 in
theorem laws_FnBraces.calls (k : Nat) (a0 : ByteArray) (r : Bool) (w : World) (tb : TBq w) (h : laws_FnBraces.f k a0 = some r) :
    Calls Tryd.prog 4 #[.string a0] w fun e w' => e = .returned (.bool r) ∧ Below w.heap.size w w' := by
  have HB := Aside0.mk (Below.refl w.heap.size w)
  have TB0 := Aside0.mk tb
  clear tb
  have H : (if (a0.size : Int) > 2147483647 then (some true) else ((laws_one.f).bind fun t129 => (if t129 = true then (if (a0.size : Int) > 5000 then (laws_FnBraces.j0 k a0 true) else ((laws_has.f k a0 126).bind fun t130 => (laws_FnBraces.j0 k a0 t130))) else (some false)))) = some r := h
  clear h
  by_cases c2 : (a0.size : Int) > 2147483647
  · rw [if_pos c2] at H
    have c2b0 : decide (2147483647 < (a0.size : Int)) = true := decide_eq_true c2
    have c2b1 : decide (2147483647 < a0.size) = true := decide_eq_true (by omega)
    clear c2
    obtain rfl := Option.some.inj H
    go_enter Tryd.func4, Tryd.ntmps4
    go_wp2
    go_ret
    exact ⟨by first | rfl | (simp [errW_none, errW_some] <;> rfl) | (simp [*, errW_none, errW_some] <;> rfl) | (simp [*, q_isEmpty]; done) | (simp [*]; exact q_gt _ _ (by assumption)), by repeat (first | (with_reducible first | exact HB.out | apply below_alloc | apply pw_below_drewN | apply below_drew1) | exact HB.out)⟩
  · rw [if_neg c2] at H
    have c2b0 : decide (2147483647 < (a0.size : Int)) = false := decide_eq_false c2
    have c2b1 : decide (2147483647 < a0.size) = false := decide_eq_false (by omega)
    clear c2
    replace H := Option.bind_eq_some_iff.mp H
    obtain ⟨t129, A30, H⟩ := H
    replace H : (if t129 = true then (if (a0.size : Int) > 5000 then (laws_FnBraces.j0 k a0 true) else ((laws_has.f k a0 126).bind fun t130 => (laws_FnBraces.j0 k a0 t130))) else (some false)) = some r := H
    have A3 := Aside0.mk A30
    clear A30
    by_cases c4 : t129 = true
    · subst c4
      have H1 : (if (a0.size : Int) > 5000 then (laws_FnBraces.j0 k a0 true) else ((laws_has.f k a0 126).bind fun t130 => (laws_FnBraces.j0 k a0 t130))) = some r := by rw [if_pos rfl] at H; exact H
      clear H
      have H := H1
      clear H1
      have HC5 := Aside0.mk H
      clear H
      go_enter Tryd.func4, Tryd.ntmps4
      go_upto_region 5 with (first | ((with_reducible refine gate_callee (f := 6) rfl ?_); refine goesL_ (some 12) rfl rfl Tryd.func6 (by kernel_rfl) rfl #[] rfl (by (try simp only [List.map_toArray, List.map_cons, List.map_nil]); first | done | rfl | (simp only [List.length_drop, List.length_take]; rfl)) ?_; (with_reducible refine (laws_one.calls  true _ (TBq.below TB0.out (by repeat (first | (with_reducible first | exact HB.out | apply below_alloc | apply pw_below_drewN | apply below_drew1 | refine below_set ?_ (Aside0.out (by assumption))) | exact HB.out))) A3.out).mono ?_); rintro e w6 ⟨rfl, hb⟩; refine ⟨_, rfl, ?_⟩; have n0_ := Aside0.mk (below_step (by repeat (first | (with_reducible first | exact HB.out | apply below_alloc | apply pw_below_drewN | apply below_drew1) | exact HB.out)) hb); clear HB; have HB := n0_; clear n0_; (try clear hb); (try clear hb2); (try clear hk); (try clear hi)))
      (try simp only [Act.put, List.setIfInBounds_toArray, List.set_cons_zero, List.set_cons_succ])
      go_cut [20] (fun v20 wc => ∃ (kq : Nat) (x20_4 : Bool), v20 = .bool x20_4 ∧ Aside0 (laws_FnBraces.j0 kq a0 x20_4 = some r) ∧ Aside0 (kq ≤ k) ∧ Aside0 (Below w.heap.size w wc))
      case first =>
        have H := HC5.out
        clear HC5
        by_cases c7 : (a0.size : Int) > 5000
        · rw [if_pos c7] at H
          have c7b0 : decide (5000 < (a0.size : Int)) = true := decide_eq_true c7
          have c7b1 : decide (5000 < a0.size) = true := decide_eq_true (by omega)
          clear c7
          (first | rw [c7b0] | (simp only [i64_w, i32_w]; rw [c7b0]) | skip)
          have H' := Aside0.mk H
          clear H
          go_wp2
          go_meet
          case rel => exact ⟨_, (true), (by first | rfl | (simp; done) | (simp [*]; done) | (simp [*, q_isEmpty]; done) | (simp [*]; exact q_gt _ _ (by assumption))), H', ⟨by first | omega | exact Nat.le_refl _⟩, ⟨by repeat (first | (with_reducible first | exact HB.out | apply below_alloc | apply pw_below_drewN | apply below_drew1) | exact HB.out)⟩⟩
        · rw [if_neg c7] at H
          have c7b0 : decide (5000 < (a0.size : Int)) = false := decide_eq_false c7
          have c7b1 : decide (5000 < a0.size) = false := decide_eq_false (by omega)
          clear c7
          (first | rw [c7b0] | (simp only [i64_w, i32_w]; rw [c7b0]) | skip)
          replace H := Option.bind_eq_some_iff.mp H
          obtain ⟨t130, A80, H⟩ := H
          replace H : (laws_FnBraces.j0 k a0 t130) = some r := H
          have A8 := Aside0.mk A80
          clear A80
          have H' := Aside0.mk H
          clear H
          go_wp2_with (first | (go_at_call 10; (with_reducible refine (laws_has.calls k a0 126 t130 _ A8.out).mono ?_); rintro e w' ⟨rfl, ⟨nd, rfl⟩⟩))
          go_meet
          case rel => exact ⟨_, (t130), (by first | rfl | (simp; done) | (simp [*]; done) | (simp [*, q_isEmpty]; done) | (simp [*]; exact q_gt _ _ (by assumption))), H', ⟨by first | omega | exact Nat.le_refl _⟩, ⟨by repeat (first | (with_reducible first | exact HB.out | apply below_alloc | apply pw_below_drewN | apply below_drew1) | exact HB.out)⟩⟩
      case rest =>
        clear HC5
        try clear c2
        try clear c2b0
        try clear c2b1
        try clear p2
        try clear c4
        try clear c6
        try clear c7
        try clear c7b0
        try clear c7b1
        obtain ⟨kq, x20_4, rfl, HA, HJ4, HB⟩ := hcut
        cases kq with
        | zero => exact absurd HA.out (by simp [laws_FnBraces.j0])
        | succ kj4 =>
          have H := HA.out
          clear HA
          simp only [laws_FnBraces.j0] at H
          by_cases c9 : x20_4 = true
          · subst c9
            have H1 : (some true) = some r := by rw [if_pos rfl] at H; exact H
            clear H
            have H := H1
            clear H1
            obtain rfl := Option.some.inj H
            go_wp2
            go_ret
            exact ⟨by first | rfl | (simp [errW_none, errW_some] <;> rfl) | (simp [*, errW_none, errW_some] <;> rfl) | (simp [*, q_isEmpty]; done) | (simp [*]; exact q_gt _ _ (by assumption)), by repeat (first | (with_reducible first | exact HB.out | apply below_alloc | apply pw_below_drewN | apply below_drew1) | exact HB.out)⟩
          · replace c9 := Bool.eq_false_iff.mpr c9
            subst c9
            have H1 : ((impl_Tokens.f a0).bind fun bt131 => (if bt131.2 = true then (if (bt131.1.length : Int) = 0 then (laws_FnBraces.j1 kj4 a0 true) else (if 0 < (bt131.1.length : Int) then (laws_FnBraces.j1 kj4 a0 (((rd_T28 bt131.1 0).f0) == 1)) else (none))) else (laws_FnBraces.j1 kj4 a0 true))) = some r := by rw [if_neg (show ¬ (false = true) by decide)] at H; exact H
            clear H
            have H := H1
            clear H1
            replace H := Option.bind_eq_some_iff.mp H
            obtain ⟨⟨t131, t132⟩, A100, H⟩ := H
            replace H : (if t132 = true then (if (t131.length : Int) = 0 then (laws_FnBraces.j1 kj4 a0 true) else (if 0 < (t131.length : Int) then (laws_FnBraces.j1 kj4 a0 (((rd_T28 t131 0).f0) == 1)) else (none))) else (laws_FnBraces.j1 kj4 a0 true)) = some r := H
            have A10 := Aside0.mk A100
            clear A100
            have HC11 := Aside0.mk H
            clear H
            go_upto_region 8 with (first | ((with_reducible refine gate_callee (f := 11) rfl ?_); refine goesL_ (some 23) rfl rfl Tryd.func11 (by kernel_rfl) rfl #[.string a0] rfl (by (try simp only [List.map_toArray, List.map_cons, List.map_nil]); first | done | rfl | (simp only [List.length_drop, List.length_take]; rfl)) ?_; (with_reducible refine (impl_Tokens.calls a0 t131 t132 _ ((TBq.below TB0.out (by repeat (first | (with_reducible first | exact HB.out | apply below_alloc | apply pw_below_drewN | apply below_drew1 | refine below_set ?_ (Aside0.out (by assumption))) | exact HB.out))).tl) A10.out).mono ?_); rintro e w12 ⟨v133, rfl, ho0, hb⟩; refine ⟨_, rfl, ?_⟩; have n0_ := Aside0.mk (Kd.R_lower ho0 (below_size (by repeat (first | (with_reducible first | exact HB.out | apply below_alloc | apply pw_below_drewN | apply below_drew1) | exact HB.out)))); have n1_ := Aside0.mk (below_step (by repeat (first | (with_reducible first | exact HB.out | apply below_alloc | apply pw_below_drewN | apply below_drew1) | exact HB.out)) hb); clear HB; have HO134 := n0_; have HB := n1_; clear n0_ n1_; (try clear hb); (try clear hb2); (try clear hk); (try clear hi); (try clear ho0)))
            (try simp only [Act.put, List.setIfInBounds_toArray, List.set_cons_zero, List.set_cons_succ])
            go_cut [39] (fun v39 wc => ∃ (kq : Nat) (x39_10 : Bool), v39 = .bool x39_10 ∧ Aside0 (laws_FnBraces.j1 kq a0 x39_10 = some r) ∧ Aside0 (kq ≤ kj4) ∧ Aside0 (Below w.heap.size w wc))
            case first =>
              have H := HC11.out
              clear HC11
              by_cases c13 : t132 = true
              · subst c13
                have H1 : (if (t131.length : Int) = 0 then (laws_FnBraces.j1 kj4 a0 true) else (if 0 < (t131.length : Int) then (laws_FnBraces.j1 kj4 a0 (((rd_T28 t131 0).f0) == 1)) else (none))) = some r := by rw [if_pos rfl] at H; exact H
                clear H
                have H := H1
                clear H1
                by_cases c14 : (t131.length : Int) = 0
                · rw [if_pos c14] at H
                  have c14b0 : ((t131.length : Int) == 0) = true := beq_iff_eq.mpr c14
                  have c14b1 : ((t131.length : Int) != 0) = false := bne_eq_false_iff_eq.mpr c14
                  clear c14
                  (first | rw [c14b0] | (simp only [i64_w, i32_w]; rw [c14b0]) | skip)
                  have H' := Aside0.mk H
                  clear H
                  obtain ⟨Ao15, co15, eo15⟩ := Kd.R_slice HO134.out
                  subst eo15
                  go_wp2
                  go_meet
                  case rel => exact ⟨_, (true), (by first | rfl | (simp; done) | (simp [*]; done) | (simp [*, q_isEmpty]; done) | (simp [*]; exact q_gt _ _ (by assumption))), H', ⟨by have := HJ4.out; first | omega | exact Nat.le_refl _⟩, ⟨by repeat (first | (with_reducible first | exact HB.out | apply below_alloc | apply pw_below_drewN | apply below_drew1) | exact HB.out)⟩⟩
                · rw [if_neg c14] at H
                  have c14b0 : ((t131.length : Int) == 0) = false := beq_eq_false_iff_ne.mpr c14
                  have c14b1 : ((t131.length : Int) != 0) = true := bne_iff_ne.mpr c14
                  have c14b2 : ¬ (t131 = []) := fun h_ => c14 (by rw [h_]; rfl)
                  (first | rw [c14b0] | (simp only [i64_w, i32_w]; rw [c14b0]) | skip)
                  by_cases c16 : 0 < (t131.length : Int)
                  · rw [if_pos c16] at H
                    have c16b0 : decide (0 < (t131.length : Int)) = true := decide_eq_true c16
                    have c16b1 : decide (0 < t131.length) = true := decide_eq_true (by omega)
                    clear c16
                    have H' := Aside0.mk H
                    clear H
                    obtain ⟨Ao17, co17, eo17⟩ := Kd.R_slice HO134.out
                    subst eo17
                    have p135 : 0 ≤ (0 : Int) := (by omega)
                    have q135 : 0 < (t131.length : Int) := of_decide_eq_true (by first | (with_reducible assumption) | assumption)
                    obtain ⟨ad135, e135, hx135_0, hx135_1, hx135_2, hx135_3, hx135_4, hx135_5⟩ := at_T28 (Kd.R_reads' HO134.out).2.2 0 p135 q135
                    cases e135
                    have qi135 : (0 < t131.length) = True := eq_true (by omega)
                    (try rw [show ((0 : Int)).toNat = 0 from rfl] at hx135_0)
                    (try rw [show 0 * 6 = 0 from rfl] at hx135_0)
                    (try rw [Addr.add_zero'] at hx135_0)
                    (try rw [show ((0 : Int)).toNat = 0 from rfl] at hx135_1)
                    (try rw [show 0 * 6 = 0 from rfl] at hx135_1)
                    (try rw [Addr.add_zero'] at hx135_1)
                    (try rw [show ((0 : Int)).toNat = 0 from rfl] at hx135_2)
                    (try rw [show 0 * 6 = 0 from rfl] at hx135_2)
                    (try rw [Addr.add_zero'] at hx135_2)
                    (try rw [show ((0 : Int)).toNat = 0 from rfl] at hx135_3)
                    (try rw [show 0 * 6 = 0 from rfl] at hx135_3)
                    (try rw [Addr.add_zero'] at hx135_3)
                    (try rw [show ((0 : Int)).toNat = 0 from rfl] at hx135_4)
                    (try rw [show 0 * 6 = 0 from rfl] at hx135_4)
                    (try rw [Addr.add_zero'] at hx135_4)
                    (try rw [show ((0 : Int)).toNat = 0 from rfl] at hx135_5)
                    (try rw [show 0 * 6 = 0 from rfl] at hx135_5)
                    (try rw [Addr.add_zero'] at hx135_5)
                    replace p135 := eq_true p135
                    replace q135 := eq_true q135
                    go_wp2
                    go_meet
                    case rel => exact ⟨_, ((((rd_T28 t131 0).f0) == 1)), (by first | rfl | (simp; done) | (simp [*]; done) | (simp [*, q_isEmpty]; done) | (simp [*]; exact q_gt _ _ (by assumption))), H', ⟨by have := HJ4.out; first | omega | exact Nat.le_refl _⟩, ⟨by repeat (first | (with_reducible first | exact HB.out | apply below_alloc | apply pw_below_drewN | apply below_drew1) | exact HB.out)⟩⟩
                  · rw [if_neg c16] at H
                    exact absurd H (by simp)
              · replace c13 := Bool.eq_false_iff.mpr c13
                subst c13
                have H1 : (laws_FnBraces.j1 kj4 a0 true) = some r := by rw [if_neg (show ¬ (false = true) by decide)] at H; exact H
                clear H
                have H := H1
                clear H1
                have H' := Aside0.mk H
                clear H
                go_wp2
                go_meet
                case rel => exact ⟨_, (true), (by first | rfl | (simp; done) | (simp [*]; done) | (simp [*, q_isEmpty]; done) | (simp [*]; exact q_gt _ _ (by assumption))), H', ⟨by have := HJ4.out; first | omega | exact Nat.le_refl _⟩, ⟨by repeat (first | (with_reducible first | exact HB.out | apply below_alloc | apply pw_below_drewN | apply below_drew1) | exact HB.out)⟩⟩
            case rest =>
              clear HC11
              try clear c1
              try clear p1
              try clear q1
              try clear hx1
              try clear qi1
              try clear c2
              try clear c2b0
              try clear c2b1
              try clear p2
              try clear c4
              try clear c6
              try clear c7
              try clear c7b0
              try clear c7b1
              try clear c9
              try clear c11
              try clear c13
              try clear p13
              try clear q13
              try clear hx13
              try clear qi13
              try clear c14
              try clear c14b0
              try clear c14b1
              try clear c14b2
              try clear c16
              try clear c16b0
              try clear c16b1
              try clear hx135_0
              try clear hx135_1
              try clear hx135_2
              try clear hx135_3
              try clear hx135_4
              try clear hx135_5
              try clear p135
              try clear p2
              try clear q135
              obtain ⟨kq, x39_10, rfl, HA, HJ10, HB⟩ := hcut
              cases kq with
              | zero => exact absurd HA.out (by simp [laws_FnBraces.j1])
              | succ kj10 =>
                have H := HA.out
                clear HA
                simp only [laws_FnBraces.j1] at H
                by_cases c18 : x39_10 = true
                · subst c18
                  have H1 : (some true) = some r := by rw [if_pos rfl] at H; exact H
                  clear H
                  have H := H1
                  clear H1
                  obtain rfl := Option.some.inj H
                  go_wp2
                  go_ret
                  exact ⟨by first | rfl | (simp [errW_none, errW_some] <;> rfl) | (simp [*, errW_none, errW_some] <;> rfl) | (simp [*, q_isEmpty]; done) | (simp [*]; exact q_gt _ _ (by assumption)), by repeat (first | (with_reducible first | exact HB.out | apply below_alloc | apply pw_below_drewN | apply below_drew1) | exact HB.out)⟩
                · replace c18 := Bool.eq_false_iff.mpr c18
                  subst c18
                  have H1 : ((impl_ParseMatchers.f a0).bind fun bt136 => (if 1 + a0.size ≤ 9223372036854775807 then (if ((⟨#[123]⟩ : ByteArray) ++ a0).size + 1 ≤ 9223372036854775807 then ((impl_ParseMatchers.f (((⟨#[123]⟩ : ByteArray) ++ a0) ++ (⟨#[125]⟩ : ByteArray))).bind fun bt140 => (if (bt136.2 == bt140.2) = true then ((laws_eqMatchers.f kj10 bt136.1 bt140.1).bind fun t144 => (some t144)) else (some false))) else (none)) else (none))) = some r := by rw [if_neg (show ¬ (false = true) by decide)] at H; exact H
                  clear H
                  have H := H1
                  clear H1
                  replace H := Option.bind_eq_some_iff.mp H
                  obtain ⟨⟨t136, t137⟩, A190, H⟩ := H
                  replace H : (if 1 + a0.size ≤ 9223372036854775807 then (if ((⟨#[123]⟩ : ByteArray) ++ a0).size + 1 ≤ 9223372036854775807 then ((impl_ParseMatchers.f (((⟨#[123]⟩ : ByteArray) ++ a0) ++ (⟨#[125]⟩ : ByteArray))).bind fun bt140 => (if (t137 == bt140.2) = true then ((laws_eqMatchers.f kj10 t136 bt140.1).bind fun t144 => (some t144)) else (some false))) else (none)) else (none)) = some r := H
                  have A19 := Aside0.mk A190
                  clear A190
                  by_cases c20 : 1 + a0.size ≤ 9223372036854775807
                  · rw [if_pos c20] at H
                    have c20b0 := eq_true c20
                    have c20b1 : decide (1 + a0.size ≤ 9223372036854775807) = true := decide_eq_true c20
                    try have c20b2 : (9223372036854775807 < 1 + a0.size) = False := eq_false (Nat.not_lt.2 c20)
                    by_cases c21 : ((⟨#[123]⟩ : ByteArray) ++ a0).size + 1 ≤ 9223372036854775807
                    · rw [if_pos c21] at H
                      have c21b0 := eq_true c21
                      have c21b1 : decide (((⟨#[123]⟩ : ByteArray) ++ a0).size + 1 ≤ 9223372036854775807) = true := decide_eq_true c21
                      try have c21b2 : (9223372036854775807 < ((⟨#[123]⟩ : ByteArray) ++ a0).size + 1) = False := eq_false (Nat.not_lt.2 c21)
                      have c21z : ((⟨#[123]⟩ : ByteArray) ++ a0).size = 1 + a0.size := ByteArray.size_append
                      have c21b3 : (1 + a0.size + 1 ≤ 9223372036854775807) = True := eq_true (by omega)
                      have c21b4 : (9223372036854775807 < 1 + a0.size + 1) = False := eq_false (by omega)
                      clear c21z
                      replace H := Option.bind_eq_some_iff.mp H
                      obtain ⟨⟨t140, t141⟩, A220, H⟩ := H
                      replace H : (if (t137 == t141) = true then ((laws_eqMatchers.f kj10 t136 t140).bind fun t144 => (some t144)) else (some false)) = some r := H
                      have A22 := Aside0.mk A220
                      clear A220
                      by_cases c23 : (t137 == t141) = true
                      · rw [if_pos c23] at H
                        have c23b0 : (t137 == t141) = true := c23
                        (try (have c23b1 : decide (t137 = t141) = true := by simpa using c23))
                        (try (have c23b2 : (t137 == t141) = true := by simpa using c23))
                        clear c23
                        replace H := Option.bind_eq_some_iff.mp H
                        obtain ⟨t144, A240, H⟩ := H
                        replace H : (some t144) = some r := H
                        have A24 := Aside0.mk A240
                        clear A240
                        obtain rfl := Option.some.inj H
                        go_wp2_with (first | ((with_reducible refine gate_callee (f := 8) rfl ?_); refine goesL_ _ rfl rfl Tryd.func8 (by kernel_rfl) rfl #[.string a0] rfl (by (try simp only [List.map_toArray, List.map_cons, List.map_nil]); first | done | rfl | (simp only [List.length_drop, List.length_take]; rfl)) ?_; (with_reducible refine (impl_ParseMatchers.calls a0 t136 t137 _ (TBq.below TB0.out (by repeat (first | (with_reducible first | exact HB.out | apply below_alloc | apply pw_below_drewN | apply below_drew1 | refine below_set ?_ (Aside0.out (by assumption))) | exact HB.out))) A19.out).mono ?_); rintro e w25 ⟨v138, rfl, ho0, hb⟩; refine ⟨_, rfl, ?_⟩; have n0_ := Aside0.mk (Kd.R_lower ho0 (below_size (by repeat (first | (with_reducible first | exact HB.out | apply below_alloc | apply pw_below_drewN | apply below_drew1) | exact HB.out)))); have n1_ := Aside0.mk (below_step (by repeat (first | (with_reducible first | exact HB.out | apply below_alloc | apply pw_below_drewN | apply below_drew1) | exact HB.out)) hb); clear HB; have HO139 := n0_; have HB := n1_; clear n0_ n1_; (try clear hb); (try clear hb2); (try clear hk); (try clear hi); (try clear ho0); clear A19) | ((with_reducible refine gate_callee (f := 8) rfl ?_); refine goesL_ _ rfl rfl Tryd.func8 (by kernel_rfl) rfl #[.string (((⟨#[123]⟩ : ByteArray) ++ a0) ++ (⟨#[125]⟩ : ByteArray))] rfl (by (try simp only [List.map_toArray, List.map_cons, List.map_nil]); first | done | rfl | (simp only [List.length_drop, List.length_take]; rfl)) ?_; (with_reducible refine (impl_ParseMatchers.calls (((⟨#[123]⟩ : ByteArray) ++ a0) ++ (⟨#[125]⟩ : ByteArray)) t140 t141 _ (TBq.below TB0.out (by repeat (first | (with_reducible first | exact HB.out | apply below_alloc | apply pw_below_drewN | apply below_drew1 | refine below_set ?_ (Aside0.out (by assumption))) | exact HB.out))) A22.out).mono ?_); rintro e w26 ⟨v142, rfl, ho0, hb⟩; refine ⟨_, rfl, ?_⟩; have n0_ := Aside0.mk (Kd.R_elder' (by (with_reducible repeat (first | apply Kd.R_alloc | apply Kd.R_drewN | apply Kd.R_drew)); exact HO139.out) (Kd.R_base ho0) hb); have n1_ := Aside0.mk (Kd.R_lower (Kd.R_new' ho0 (Kd.R_lt (by (with_reducible repeat (first | apply Kd.R_alloc | apply Kd.R_drewN | apply Kd.R_drew)); exact HO139.out))) (below_size (by repeat (first | (with_reducible first | exact HB.out | apply below_alloc | apply pw_below_drewN | apply below_drew1) | exact HB.out)))); have n2_ := Aside0.mk (below_step (by repeat (first | (with_reducible first | exact HB.out | apply below_alloc | apply pw_below_drewN | apply below_drew1) | exact HB.out)) hb); clear HO139; clear HB; have HO139 := n0_; have HO143 := n1_; have HB := n2_; clear n0_ n1_ n2_; (try clear hb); (try clear hb2); (try clear hk); (try clear hi); (try clear ho0); obtain ⟨Ao27, co27, eo27⟩ := Kd.R_slice HO139.out; subst eo27; obtain ⟨Ao28, co28, eo28⟩ := Kd.R_slice HO143.out; subst eo28) | (go_at_call 9; (with_reducible refine (laws_eqMatchers.calls kj10 _ _ t136 _ _ t140 t144 _ ?side1 ?side2 ?side3 ?side4 A24.out).mono ?_); (case side1 => repeat (first | exact (Kd.R_reads' HO139.out).2.2 | (with_reducible refine Kd.C_alloc ?_ _) | (with_reducible refine Kd.C_drewN ?_ _) | (with_reducible refine Kd.C_drew ?_))); (case side2 => exact (Kd.R_reads' HO139.out).2.1); (case side3 => repeat (first | exact (Kd.R_reads' HO143.out).2.2 | (with_reducible refine Kd.C_alloc ?_ _) | (with_reducible refine Kd.C_drewN ?_ _) | (with_reducible refine Kd.C_drew ?_))); (case side4 => exact (Kd.R_reads' HO143.out).2.1); rintro e w' ⟨rfl, ⟨nd, rfl⟩⟩))
                        go_ret
                        exact ⟨by first | rfl | (simp [errW_none, errW_some] <;> rfl) | (simp [*, errW_none, errW_some] <;> rfl) | (simp [*, q_isEmpty]; done) | (simp [*]; exact q_gt _ _ (by assumption)), by repeat (first | (with_reducible first | exact HB.out | apply below_alloc | apply pw_below_drewN | apply below_drew1) | exact HB.out)⟩
                      · rw [if_neg c23] at H
                        have c23b0 : (t137 == t141) = false := by simpa using c23
                        (try (have c23b1 : decide (t137 = t141) = false := by simpa using c23))
                        (try (have c23b2 : (t137 == t141) = false := by simpa using c23))
                        (try (have c23b3 : ¬ (t137 = t141) := by simpa using c23))
                        clear c23
                        obtain rfl := Option.some.inj H
                        go_wp2_with (first | ((with_reducible refine gate_callee (f := 8) rfl ?_); refine goesL_ _ rfl rfl Tryd.func8 (by kernel_rfl) rfl #[.string a0] rfl (by (try simp only [List.map_toArray, List.map_cons, List.map_nil]); first | done | rfl | (simp only [List.length_drop, List.length_take]; rfl)) ?_; (with_reducible refine (impl_ParseMatchers.calls a0 t136 t137 _ (TBq.below TB0.out (by repeat (first | (with_reducible first | exact HB.out | apply below_alloc | apply pw_below_drewN | apply below_drew1 | refine below_set ?_ (Aside0.out (by assumption))) | exact HB.out))) A19.out).mono ?_); rintro e w29 ⟨v138, rfl, ho0, hb⟩; refine ⟨_, rfl, ?_⟩; have n0_ := Aside0.mk (Kd.R_lower ho0 (below_size (by repeat (first | (with_reducible first | exact HB.out | apply below_alloc | apply pw_below_drewN | apply below_drew1) | exact HB.out)))); have n1_ := Aside0.mk (below_step (by repeat (first | (with_reducible first | exact HB.out | apply below_alloc | apply pw_below_drewN | apply below_drew1) | exact HB.out)) hb); clear HB; have HO139 := n0_; have HB := n1_; clear n0_ n1_; (try clear hb); (try clear hb2); (try clear hk); (try clear hi); (try clear ho0); clear A19) | ((with_reducible refine gate_callee (f := 8) rfl ?_); refine goesL_ _ rfl rfl Tryd.func8 (by kernel_rfl) rfl #[.string (((⟨#[123]⟩ : ByteArray) ++ a0) ++ (⟨#[125]⟩ : ByteArray))] rfl (by (try simp only [List.map_toArray, List.map_cons, List.map_nil]); first | done | rfl | (simp only [List.length_drop, List.length_take]; rfl)) ?_; (with_reducible refine (impl_ParseMatchers.calls (((⟨#[123]⟩ : ByteArray) ++ a0) ++ (⟨#[125]⟩ : ByteArray)) t140 t141 _ (TBq.below TB0.out (by repeat (first | (with_reducible first | exact HB.out | apply below_alloc | apply pw_below_drewN | apply below_drew1 | refine below_set ?_ (Aside0.out (by assumption))) | exact HB.out))) A22.out).mono ?_); rintro e w30 ⟨v142, rfl, ho0, hb⟩; refine ⟨_, rfl, ?_⟩; have n0_ := Aside0.mk (Kd.R_elder' (by (with_reducible repeat (first | apply Kd.R_alloc | apply Kd.R_drewN | apply Kd.R_drew)); exact HO139.out) (Kd.R_base ho0) hb); have n1_ := Aside0.mk (Kd.R_lower (Kd.R_new' ho0 (Kd.R_lt (by (with_reducible repeat (first | apply Kd.R_alloc | apply Kd.R_drewN | apply Kd.R_drew)); exact HO139.out))) (below_size (by repeat (first | (with_reducible first | exact HB.out | apply below_alloc | apply pw_below_drewN | apply below_drew1) | exact HB.out)))); have n2_ := Aside0.mk (below_step (by repeat (first | (with_reducible first | exact HB.out | apply below_alloc | apply pw_below_drewN | apply below_drew1) | exact HB.out)) hb); clear HO139; clear HB; have HO139 := n0_; have HO143 := n1_; have HB := n2_; clear n0_ n1_ n2_; (try clear hb); (try clear hb2); (try clear hk); (try clear hi); (try clear ho0)))
                        go_ret
                        exact ⟨by first | rfl | (simp [errW_none, errW_some] <;> rfl) | (simp [*, errW_none, errW_some] <;> rfl) | (simp [*, q_isEmpty]; done) | (simp [*]; exact q_gt _ _ (by assumption)), by repeat (first | (with_reducible first | exact HB.out | apply below_alloc | apply pw_below_drewN | apply below_drew1) | exact HB.out)⟩
                    · rw [if_neg c21] at H
                      exact absurd H (by simp)
                  · rw [if_neg c20] at H
                    exact absurd H (by simp)
    · replace c4 := Bool.eq_false_iff.mpr c4
      subst c4
      have H1 : (some false) = some r := by rw [if_neg (show ¬ (false = true) by decide)] at H; exact H
      clear H
      have H := H1
      clear H1
      obtain rfl := Option.some.inj H
      go_enter Tryd.func4, Tryd.ntmps4
      go_wp2_with (first | ((with_reducible refine gate_callee (f := 6) rfl ?_); refine goesL_ (some 12) rfl rfl Tryd.func6 (by kernel_rfl) rfl #[] rfl (by (try simp only [List.map_toArray, List.map_cons, List.map_nil]); first | done | rfl | (simp only [List.length_drop, List.length_take]; rfl)) ?_; (with_reducible refine (laws_one.calls  false _ (TBq.below TB0.out (by repeat (first | (with_reducible first | exact HB.out | apply below_alloc | apply pw_below_drewN | apply below_drew1 | refine below_set ?_ (Aside0.out (by assumption))) | exact HB.out))) A3.out).mono ?_); rintro e w31 ⟨rfl, hb⟩; refine ⟨_, rfl, ?_⟩; have n0_ := Aside0.mk (below_step (by repeat (first | (with_reducible first | exact HB.out | apply below_alloc | apply pw_below_drewN | apply below_drew1) | exact HB.out)) hb); clear HB; have HB := n0_; clear n0_; (try clear hb); (try clear hb2); (try clear hk); (try clear hi)))
      go_ret
      exact ⟨by first | rfl | (simp [errW_none, errW_some] <;> rfl) | (simp [*, errW_none, errW_some] <;> rfl) | (simp [*, q_isEmpty]; done) | (simp [*]; exact q_gt _ _ (by assumption)), by repeat (first | (with_reducible first | exact HB.out | apply below_alloc | apply pw_below_drewN | apply below_drew1) | exact HB.out)⟩

end Go.Proofs.YtblcgkkncoojeaaDoor.Q
