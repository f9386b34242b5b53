-- Printed for this seat by wip/pp.py of this repo; nothing here is trusted: Lean checks it.
import Derived.Test.YtlpcbmgleecafaaDoorHTabLL
import Derived.Test.YtlpcbmgleecafaaDoorQ0
import Derived.Test.YtlpcbmgleecafaaDoorHTokens
import Derived.Test.YtlpcbmgleecafaaDoorQEq0
import Derived.Test.YtlpcbmgleecafaaDoorQspecM
namespace Go.Proofs.YtlpcbmgleecafaaDoor.Q
open Go.RowKit Go.Proofs.YtlpcbmgleecafaaDoorW.PrintWords Go.Proofs.YtlpcbmgleecafaaDoorW.PrintLast Go.Proofs.YtlpcbmgleecafaaDoorW.PrintMore
attribute [local go_sem] max2_int min2_int max_two min_two max_three min_three max_four min_four   -- for this text's walks alone
set_option linter.unusedVariables false
set_option linter.unusedSimpArgs false

theorem eqA31 (d : Nat) (w : World) (x0 y0 : Int) (x1 y1 : ByteArray) (x2 y2 : Int) (x3 y3 : Int) (x4 y4 : Int) (x5 y5 : Int) :
    (Op.equalIn (d + 2) 31 (.agg #[.int .i64 x0, .string x1, .int .i64 x2, .int .i64 x3, .int .i64 x4, .int .i64 x5]) (.agg #[.int .i64 y0, .string y1, .int .i64 y2, .int .i64 y3, .int .i64 y4, .int .i64 y5])).run Tryd.prog w = .ok (x0 == y0 && (x1.toList == y1.toList && (x2 == y2 && (x3 == y3 && (x4 == y4 && (x5 == y5)))))) w := by
  refine eqA_of Tryd.underlying31 (by kernel_rfl) ?_
  refine eqf_cons (by rfl) (by go_simp; rfl) (by go_simp; rfl) (by go_simp) ?_
  refine eqf_cons (by rfl) (by go_simp; rfl) (by go_simp; rfl) (by go_simp) ?_
  refine eqf_cons (by rfl) (by go_simp; rfl) (by go_simp; rfl) (by go_simp) ?_
  refine eqf_cons (by rfl) (by go_simp; rfl) (by go_simp; rfl) (by go_simp) ?_
  refine eqf_cons (by rfl) (by go_simp; rfl) (by go_simp; rfl) (by go_simp) ?_
  exact eqf_last (by rfl) (by go_simp; rfl) (by go_simp; rfl) (by go_simp)
attribute [local go_sem high] eqA26 eqA31
/-! ### laws_FnTokens: function 4 -/
mutual
def laws_FnTokens.j0 : Nat → ByteArray → Bool → Option (Bool)
  | 0, _, _ => none
  | k + 1, x0, x23 => if x23 = true then (some false) else (if (x0.size : Int) > 20000 then (some true) else ((impl_Tokens.f x0).bind fun bt153 => ((spec_Tokens.f k x0).bind fun bt157 => (if bt157.2 = 0 then (some (!bt153.2)) else (if bt157.2 = 2 then (some true) else (if bt153.2 = true then (laws_FnTokens.j1 k bt153.1 bt157.1 ((bt153.1.length : Int) != (bt157.1.length : Int))) else (laws_FnTokens.j1 k bt153.1 bt157.1 true)))))))
def laws_FnTokens.j1 : Nat → List (S26) → List (S31) → Bool → Option (Bool)
  | 0, _, _, _ => none
  | k + 1, x5, x7, x51 => if x51 = true then (some false) else (laws_FnTokens.l0 k x5 x7 (x5.length : Int) 0)
def laws_FnTokens.l0 : Nat → List (S26) → List (S31) → Int → Int → Option (Bool)
  | 0, _, _, _, _ => none
  | k + 1, x5, x7, x53, x54 => if x54 < x53 then (if 0 ≤ x54 then (if x54 < (x5.length : Int) then (if x54 < (x7.length : Int) then (if (!(((rd_T26 x5 x54).f0) == ((rd_T31 x7 x54).f0)) || (!((((rd_T26 x5 x54).f1).toList) == (((rd_T31 x7 x54).f1).toList)) || (!(((rd_T26 x5 x54).f2) == ((rd_T31 x7 x54).f2)) || (!(((rd_T26 x5 x54).f3) == ((rd_T31 x7 x54).f3)) || (!(((rd_T26 x5 x54).f4) == ((rd_T31 x7 x54).f4)) || (!(((rd_T26 x5 x54).f5) == ((rd_T31 x7 x54).f5)))))))) = true then (some false) else (laws_FnTokens.l0 k x5 x7 x53 (wrap64 (x54 + 1)))) else (none)) else (none)) else (none)) else (some true)
end
def laws_FnTokens.f (k : Nat) (a0 : ByteArray) : Option (Bool) := if (a0.size : Int) > 2147483647 then (some true) else ((impl_Tokens.f (⟨#[123, 32, 97, 32, 125]⟩ : ByteArray)).bind fun bt149 => (if bt149.2 = true then (laws_FnTokens.j0 k a0 ((bt149.1.length : Int) != 3)) else (laws_FnTokens.j0 k a0 true)))
theorem laws_FnTokens.mono_l : ∀ k, (∀ y0 y1, LeO (laws_FnTokens.j0 k y0 y1) (laws_FnTokens.j0 (k + 1) y0 y1)) ∧ (∀ y0 y1 y2, LeO (laws_FnTokens.j1 k y0 y1 y2) (laws_FnTokens.j1 (k + 1) y0 y1 y2)) ∧ (∀ y0 y1 y2 y3, LeO (laws_FnTokens.l0 k y0 y1 y2 y3) (laws_FnTokens.l0 (k + 1) y0 y1 y2 y3))
  | 0 => ⟨fun _ _ r h => by simp [laws_FnTokens.j0] at h, fun _ _ _ r h => by simp [laws_FnTokens.j1] at h, fun _ _ _ _ r h => by simp [laws_FnTokens.l0] at h⟩
  | k + 1 => by
    obtain ⟨ih0, ih1, ih2⟩ := laws_FnTokens.mono_l k
    refine ⟨?_, ?_, ?_⟩
    · intro y0 y1
      unfold laws_FnTokens.j0
      repeat' first
      | (with_reducible exact ih0 _ _)
      | (with_reducible exact ih1 _ _ _)
      | (with_reducible exact ih2 _ _ _ _)
      | (with_reducible exact spec_Tokens.mono _ _)
      | (with_reducible exact LeO.refl _)
      | (with_reducible exact LeO.none _)
      | (with_reducible refine LeO.ite ?_ ?_)
      | (with_reducible refine LeO.bind ?_ (fun _ => ?_))
      | exact ih0 _ _
      | exact ih1 _ _ _
      | exact ih2 _ _ _ _
      | exact spec_Tokens.mono _ _
      | exact LeO.none _
      | refine LeO.ite ?_ ?_
      | refine LeO.bind ?_ (fun _ => ?_)
    · intro y0 y1 y2
      unfold laws_FnTokens.j1
      repeat' first
      | (with_reducible exact ih0 _ _)
      | (with_reducible exact ih1 _ _ _)
      | (with_reducible exact ih2 _ _ _ _)
      | (with_reducible exact spec_Tokens.mono _ _)
      | (with_reducible exact LeO.refl _)
      | (with_reducible exact LeO.none _)
      | (with_reducible refine LeO.ite ?_ ?_)
      | (with_reducible refine LeO.bind ?_ (fun _ => ?_))
      | exact ih0 _ _
      | exact ih1 _ _ _
      | exact ih2 _ _ _ _
      | exact spec_Tokens.mono _ _
      | exact LeO.none _
      | refine LeO.ite ?_ ?_
      | refine LeO.bind ?_ (fun _ => ?_)
    · intro y0 y1 y2 y3
      unfold laws_FnTokens.l0
      repeat' first
      | (with_reducible exact ih0 _ _)
      | (with_reducible exact ih1 _ _ _)
      | (with_reducible exact ih2 _ _ _ _)
      | (with_reducible exact spec_Tokens.mono _ _)
      | (with_reducible exact LeO.refl _)
      | (with_reducible exact LeO.none _)
      | (with_reducible refine LeO.ite ?_ ?_)
      | (with_reducible refine LeO.bind ?_ (fun _ => ?_))
      | exact ih0 _ _
      | exact ih1 _ _ _
      | exact ih2 _ _ _ _
      | exact spec_Tokens.mono _ _
      | exact LeO.none _
      | refine LeO.ite ?_ ?_
      | refine LeO.bind ?_ (fun _ => ?_)
theorem laws_FnTokens.mono : ∀ a0 k, LeO (laws_FnTokens.f k a0) (laws_FnTokens.f (k + 1) a0) := by
  intro a0 k
  obtain ⟨ih0, ih1, ih2⟩ := laws_FnTokens.mono_l k
  unfold laws_FnTokens.f
  repeat' first
      | (with_reducible exact ih0 _ _)
      | (with_reducible exact ih1 _ _ _)
      | (with_reducible exact ih2 _ _ _ _)
      | (with_reducible exact spec_Tokens.mono _ _)
      | (with_reducible exact LeO.refl _)
      | (with_reducible exact LeO.none _)
      | (with_reducible refine LeO.ite ?_ ?_)
      | (with_reducible refine LeO.bind ?_ (fun _ => ?_))
      | exact ih0 _ _
      | exact ih1 _ _ _
      | exact ih2 _ _ _ _
      | exact spec_Tokens.mono _ _
      | exact LeO.none _
      | refine LeO.ite ?_ ?_
      | refine LeO.bind ?_ (fun _ => ?_)
set_option maxHeartbeats 8000000 in
set_option maxRecDepth 100000 in
theorem laws_FnTokens.calls (k : Nat) (a0 : ByteArray) (r : Bool) (w : World) (tb : TBl w) (h : laws_FnTokens.f k a0 = some r) :
    Calls Tryd.prog 4 #[.string a0] w fun e w' => e = .returned (.bool r) ∧ Below w.heap.size w w' := by
  have hu26 := Tryd.underlying26
  have hu31 := Tryd.underlying31
  have HB := Aside0.mk (Below.refl w.heap.size w)
  have TB0 := Aside0.mk tb
  clear tb
  have H : (if (a0.size : Int) > 2147483647 then (some true) else ((impl_Tokens.f (⟨#[123, 32, 97, 32, 125]⟩ : ByteArray)).bind fun bt149 => (if bt149.2 = true then (laws_FnTokens.j0 k a0 ((bt149.1.length : Int) != 3)) else (laws_FnTokens.j0 k a0 true)))) = some r := h
  clear h
  by_cases c2 : (a0.size : Int) > 2147483647
  · rw [if_pos c2] at H
    have c2b0 : decide (2147483647 < (a0.size : Int)) = true := decide_eq_true c2
    have c2b1 : decide (2147483647 < a0.size) = true := decide_eq_true (by omega)
    clear c2
    obtain rfl := Option.some.inj H
    go_enter Tryd.func4, Tryd.ntmps4
    go_wp2
    repeat (go_quiet (fail); try go_wp2)
    go_ret
    exact ⟨by first | rfl | (simp [errW_none, errW_some] <;> rfl) | (simp [*, errW_none, errW_some] <;> rfl) | (simp [*, q_isEmpty]; done) | (simp [*]; exact q_gt _ _ (by assumption)), by repeat (first | (with_reducible first | exact HB.out | apply below_alloc | apply pw_below_drewN | apply below_drew1) | exact HB.out)⟩
  · rw [if_neg c2] at H
    have c2b0 : decide (2147483647 < (a0.size : Int)) = false := decide_eq_false c2
    have c2b1 : decide (2147483647 < a0.size) = false := decide_eq_false (by omega)
    clear c2
    replace H := Option.bind_eq_some_iff.mp H
    obtain ⟨⟨t149, t150⟩, A30, H⟩ := H
    replace H : (if t150 = true then (laws_FnTokens.j0 k a0 ((t149.length : Int) != 3)) else (laws_FnTokens.j0 k a0 true)) = some r := H
    have A3 := Aside0.mk A30
    clear A30
    have HC4 := Aside0.mk H
    clear H
    go_enter Tryd.func4, Tryd.ntmps4
    go_upto_region 4 with (first | (go_at_call 6; (with_reducible refine (impl_Tokens.calls (⟨#[123, 32, 97, 32, 125]⟩ : ByteArray) t149 t150 _ (TBl.below TB0.out (by repeat (first | (with_reducible first | exact HB.out | apply below_alloc | apply pw_below_drewN | apply below_drew1) | exact HB.out))) A3.out).mono ?_); rintro e w5 ⟨v151, rfl, ho0, hb⟩; have n0_ := Aside0.mk (Kd.R_lower ho0 (below_size (by repeat (first | (with_reducible first | exact HB.out | apply below_alloc | apply pw_below_drewN | apply below_drew1) | exact HB.out)))); have n1_ := Aside0.mk (below_step (by repeat (first | (with_reducible first | exact HB.out | apply below_alloc | apply pw_below_drewN | apply below_drew1) | exact HB.out)) hb); clear HB; have HO152 := n0_; have HB := n1_; clear n0_ n1_; (try clear hb); (try clear hb2); (try clear hk); (try clear hi); (try clear ho0)))
    repeat (go_quiet (first | (go_at_call 6; (with_reducible refine (impl_Tokens.calls (⟨#[123, 32, 97, 32, 125]⟩ : ByteArray) t149 t150 _ (TBl.below TB0.out (by repeat (first | (with_reducible first | exact HB.out | apply below_alloc | apply pw_below_drewN | apply below_drew1) | exact HB.out))) A3.out).mono ?_); rintro e w5 ⟨v151, rfl, ho0, hb⟩; have n0_ := Aside0.mk (Kd.R_lower ho0 (below_size (by repeat (first | (with_reducible first | exact HB.out | apply below_alloc | apply pw_below_drewN | apply below_drew1) | exact HB.out)))); have n1_ := Aside0.mk (below_step (by repeat (first | (with_reducible first | exact HB.out | apply below_alloc | apply pw_below_drewN | apply below_drew1) | exact HB.out)) hb); clear HB; have HO152 := n0_; have HB := n1_; clear n0_ n1_; (try clear hb); (try clear hb2); (try clear hk); (try clear hi); (try clear ho0))); go_upto_region 4 with (first | (go_at_call 6; (with_reducible refine (impl_Tokens.calls (⟨#[123, 32, 97, 32, 125]⟩ : ByteArray) t149 t150 _ (TBl.below TB0.out (by repeat (first | (with_reducible first | exact HB.out | apply below_alloc | apply pw_below_drewN | apply below_drew1) | exact HB.out))) A3.out).mono ?_); rintro e w5 ⟨v151, rfl, ho0, hb⟩; have n0_ := Aside0.mk (Kd.R_lower ho0 (below_size (by repeat (first | (with_reducible first | exact HB.out | apply below_alloc | apply pw_below_drewN | apply below_drew1) | exact HB.out)))); have n1_ := Aside0.mk (below_step (by repeat (first | (with_reducible first | exact HB.out | apply below_alloc | apply pw_below_drewN | apply below_drew1) | exact HB.out)) hb); clear HB; have HO152 := n0_; have HB := n1_; clear n0_ n1_; (try clear hb); (try clear hb2); (try clear hk); (try clear hi); (try clear ho0))))
    (try simp only [Act.put, List.setIfInBounds_toArray, List.set_cons_zero, List.set_cons_succ])
    go_cut [23] (fun v23 wc => ∃ (kq : Nat) (x23_3 : Bool), v23 = .bool x23_3 ∧ Aside0 (laws_FnTokens.j0 kq a0 x23_3 = some r) ∧ Aside0 (kq ≤ k) ∧ Aside0 (Below w.heap.size w wc))
    case first =>
      have H := HC4.out
      clear HC4
      by_cases c6 : t150 = true
      · subst c6
        have H1 : (laws_FnTokens.j0 k a0 ((t149.length : Int) != 3)) = some r := by rw [if_pos rfl] at H; exact H
        clear H
        have H := H1
        clear H1
        have H' := Aside0.mk H
        clear H
        obtain ⟨Ao7, co7, eo7⟩ := Kd.R_slice HO152.out
        subst eo7
        go_wp2
        repeat (go_quiet (fail); try go_wp2)
        go_meet
        case rel => exact ⟨_, (((t149.length : Int) != 3)), (by first | rfl | (simp; done) | (simp [*]; done) | (simp [*, q_isEmpty]; done) | (simp [*]; exact q_gt _ _ (by assumption))), H', ⟨by first | omega | exact Nat.le_refl _⟩, ⟨by repeat (first | (with_reducible first | exact HB.out | apply below_alloc | apply pw_below_drewN | apply below_drew1) | exact HB.out)⟩⟩
      · replace c6 := Bool.eq_false_iff.mpr c6
        subst c6
        have H1 : (laws_FnTokens.j0 k a0 true) = some r := by rw [if_neg (show ¬ (false = true) by decide)] at H; exact H
        clear H
        have H := H1
        clear H1
        have H' := Aside0.mk H
        clear H
        go_wp2
        repeat (go_quiet (fail); try go_wp2)
        go_meet
        case rel => exact ⟨_, (true), (by first | rfl | (simp; done) | (simp [*]; done) | (simp [*, q_isEmpty]; done) | (simp [*]; exact q_gt _ _ (by assumption))), H', ⟨by first | omega | exact Nat.le_refl _⟩, ⟨by repeat (first | (with_reducible first | exact HB.out | apply below_alloc | apply pw_below_drewN | apply below_drew1) | exact HB.out)⟩⟩
    case rest =>
      clear HC4
      try clear c2
      try clear c2b0
      try clear c2b1
      try clear p2
      try clear c4
      try clear c6
      obtain ⟨kq, x23_3, rfl, HA, HJ3, HB⟩ := hcut
      cases kq with
      | zero => exact absurd HA.out (by simp [laws_FnTokens.j0])
      | succ kj3 =>
        have H := HA.out
        clear HA
        simp only [laws_FnTokens.j0] at H
        by_cases c8 : x23_3 = true
        · subst c8
          have H1 : (some false) = some r := by rw [if_pos rfl] at H; exact H
          clear H
          have H := H1
          clear H1
          obtain rfl := Option.some.inj H
          go_wp2
          repeat (go_quiet (fail); try go_wp2)
          go_ret
          exact ⟨by first | rfl | (simp [errW_none, errW_some] <;> rfl) | (simp [*, errW_none, errW_some] <;> rfl) | (simp [*, q_isEmpty]; done) | (simp [*]; exact q_gt _ _ (by assumption)), by repeat (first | (with_reducible first | exact HB.out | apply below_alloc | apply pw_below_drewN | apply below_drew1) | exact HB.out)⟩
        · replace c8 := Bool.eq_false_iff.mpr c8
          subst c8
          have H1 : (if (a0.size : Int) > 20000 then (some true) else ((impl_Tokens.f a0).bind fun bt153 => ((spec_Tokens.f kj3 a0).bind fun bt157 => (if bt157.2 = 0 then (some (!bt153.2)) else (if bt157.2 = 2 then (some true) else (if bt153.2 = true then (laws_FnTokens.j1 kj3 bt153.1 bt157.1 ((bt153.1.length : Int) != (bt157.1.length : Int))) else (laws_FnTokens.j1 kj3 bt153.1 bt157.1 true))))))) = some r := by rw [if_neg (show ¬ (false = true) by decide)] at H; exact H
          clear H
          have H := H1
          clear H1
          by_cases c9 : (a0.size : Int) > 20000
          · rw [if_pos c9] at H
            have c9b0 : decide (20000 < (a0.size : Int)) = true := decide_eq_true c9
            have c9b1 : decide (20000 < a0.size) = true := decide_eq_true (by omega)
            clear c9
            obtain rfl := Option.some.inj H
            go_wp2
            repeat (go_quiet (fail); try go_wp2)
            go_ret
            exact ⟨by first | rfl | (simp [errW_none, errW_some] <;> rfl) | (simp [*, errW_none, errW_some] <;> rfl) | (simp [*, q_isEmpty]; done) | (simp [*]; exact q_gt _ _ (by assumption)), by repeat (first | (with_reducible first | exact HB.out | apply below_alloc | apply pw_below_drewN | apply below_drew1) | exact HB.out)⟩
          · rw [if_neg c9] at H
            have c9b0 : decide (20000 < (a0.size : Int)) = false := decide_eq_false c9
            have c9b1 : decide (20000 < a0.size) = false := decide_eq_false (by omega)
            clear c9
            replace H := Option.bind_eq_some_iff.mp H
            obtain ⟨⟨t153, t154⟩, A100, H⟩ := H
            replace H : ((spec_Tokens.f kj3 a0).bind fun bt157 => (if bt157.2 = 0 then (some (!t154)) else (if bt157.2 = 2 then (some true) else (if t154 = true then (laws_FnTokens.j1 kj3 t153 bt157.1 ((t153.length : Int) != (bt157.1.length : Int))) else (laws_FnTokens.j1 kj3 t153 bt157.1 true))))) = some r := H
            have A10 := Aside0.mk A100
            clear A100
            replace H := Option.bind_eq_some_iff.mp H
            obtain ⟨⟨t157, t158⟩, A110, H⟩ := H
            replace H : (if t158 = 0 then (some (!t154)) else (if t158 = 2 then (some true) else (if t154 = true then (laws_FnTokens.j1 kj3 t153 t157 ((t153.length : Int) != (t157.length : Int))) else (laws_FnTokens.j1 kj3 t153 t157 true)))) = some r := H
            have A11 := Aside0.mk A110
            clear A110
            by_cases c12 : t158 = 0
            · rw [if_pos c12] at H
              have c12b0 : (t158 == 0) = true := beq_iff_eq.mpr c12
              have c12b1 : (t158 != 0) = false := bne_eq_false_iff_eq.mpr c12
              clear c12
              obtain rfl := Option.some.inj H
              go_wp2_with (first | (go_at_call 6; (with_reducible refine (impl_Tokens.calls a0 t153 t154 _ (TBl.below TB0.out (by repeat (first | (with_reducible first | exact HB.out | apply below_alloc | apply pw_below_drewN | apply below_drew1) | exact HB.out))) A10.out).mono ?_); rintro e w13 ⟨v155, rfl, ho0, hb⟩; have n0_ := Aside0.mk (Kd.R_lower ho0 (below_size (by repeat (first | (with_reducible first | exact HB.out | apply below_alloc | apply pw_below_drewN | apply below_drew1) | exact HB.out)))); have n1_ := Aside0.mk (below_step (by repeat (first | (with_reducible first | exact HB.out | apply below_alloc | apply pw_below_drewN | apply below_drew1) | exact HB.out)) hb); clear HB; have HO156 := n0_; have HB := n1_; clear n0_ n1_; (try clear hb); (try clear hb2); (try clear hk); (try clear hi); (try clear ho0)) | (go_at_call 7; (with_reducible refine (spec_Tokens.calls kj3 a0 t157 t158 _ A11.out).mono ?_); rintro e w14 ⟨v159, rfl, ho0, hb⟩; have n0_ := Aside0.mk (Kd.R_below (by (with_reducible repeat (first | apply Kd.R_alloc | apply Kd.R_drewN | apply Kd.R_drew)); exact HO156.out) hb); have n1_ := Aside0.mk (Kd.R_lower ho0 (below_size (by repeat (first | (with_reducible first | exact HB.out | apply below_alloc | apply pw_below_drewN | apply below_drew1) | exact HB.out)))); have n2_ := Aside0.mk (below_step (by repeat (first | (with_reducible first | exact HB.out | apply below_alloc | apply pw_below_drewN | apply below_drew1) | exact HB.out)) hb); clear HO156; clear HB; have HO156 := n0_; have HO160 := n1_; have HB := n2_; clear n0_ n1_ n2_; (try clear hb); (try clear hb2); (try clear hk); (try clear hi); (try clear ho0)))
              repeat (go_quiet (first | (go_at_call 6; (with_reducible refine (impl_Tokens.calls a0 t153 t154 _ (TBl.below TB0.out (by repeat (first | (with_reducible first | exact HB.out | apply below_alloc | apply pw_below_drewN | apply below_drew1) | exact HB.out))) A10.out).mono ?_); rintro e w13 ⟨v155, rfl, ho0, hb⟩; have n0_ := Aside0.mk (Kd.R_lower ho0 (below_size (by repeat (first | (with_reducible first | exact HB.out | apply below_alloc | apply pw_below_drewN | apply below_drew1) | exact HB.out)))); have n1_ := Aside0.mk (below_step (by repeat (first | (with_reducible first | exact HB.out | apply below_alloc | apply pw_below_drewN | apply below_drew1) | exact HB.out)) hb); clear HB; have HO156 := n0_; have HB := n1_; clear n0_ n1_; (try clear hb); (try clear hb2); (try clear hk); (try clear hi); (try clear ho0)) | (go_at_call 7; (with_reducible refine (spec_Tokens.calls kj3 a0 t157 t158 _ A11.out).mono ?_); rintro e w14 ⟨v159, rfl, ho0, hb⟩; have n0_ := Aside0.mk (Kd.R_below (by (with_reducible repeat (first | apply Kd.R_alloc | apply Kd.R_drewN | apply Kd.R_drew)); exact HO156.out) hb); have n1_ := Aside0.mk (Kd.R_lower ho0 (below_size (by repeat (first | (with_reducible first | exact HB.out | apply below_alloc | apply pw_below_drewN | apply below_drew1) | exact HB.out)))); have n2_ := Aside0.mk (below_step (by repeat (first | (with_reducible first | exact HB.out | apply below_alloc | apply pw_below_drewN | apply below_drew1) | exact HB.out)) hb); clear HO156; clear HB; have HO156 := n0_; have HO160 := n1_; have HB := n2_; clear n0_ n1_ n2_; (try clear hb); (try clear hb2); (try clear hk); (try clear hi); (try clear ho0))); try go_wp2_with (first | (go_at_call 6; (with_reducible refine (impl_Tokens.calls a0 t153 t154 _ (TBl.below TB0.out (by repeat (first | (with_reducible first | exact HB.out | apply below_alloc | apply pw_below_drewN | apply below_drew1) | exact HB.out))) A10.out).mono ?_); rintro e w13 ⟨v155, rfl, ho0, hb⟩; have n0_ := Aside0.mk (Kd.R_lower ho0 (below_size (by repeat (first | (with_reducible first | exact HB.out | apply below_alloc | apply pw_below_drewN | apply below_drew1) | exact HB.out)))); have n1_ := Aside0.mk (below_step (by repeat (first | (with_reducible first | exact HB.out | apply below_alloc | apply pw_below_drewN | apply below_drew1) | exact HB.out)) hb); clear HB; have HO156 := n0_; have HB := n1_; clear n0_ n1_; (try clear hb); (try clear hb2); (try clear hk); (try clear hi); (try clear ho0)) | (go_at_call 7; (with_reducible refine (spec_Tokens.calls kj3 a0 t157 t158 _ A11.out).mono ?_); rintro e w14 ⟨v159, rfl, ho0, hb⟩; have n0_ := Aside0.mk (Kd.R_below (by (with_reducible repeat (first | apply Kd.R_alloc | apply Kd.R_drewN | apply Kd.R_drew)); exact HO156.out) hb); have n1_ := Aside0.mk (Kd.R_lower ho0 (below_size (by repeat (first | (with_reducible first | exact HB.out | apply below_alloc | apply pw_below_drewN | apply below_drew1) | exact HB.out)))); have n2_ := Aside0.mk (below_step (by repeat (first | (with_reducible first | exact HB.out | apply below_alloc | apply pw_below_drewN | apply below_drew1) | exact HB.out)) hb); clear HO156; clear HB; have HO156 := n0_; have HO160 := n1_; have HB := n2_; clear n0_ n1_ n2_; (try clear hb); (try clear hb2); (try clear hk); (try clear hi); (try clear ho0))))
              go_ret
              exact ⟨by first | rfl | (simp [errW_none, errW_some] <;> rfl) | (simp [*, errW_none, errW_some] <;> rfl) | (simp [*, q_isEmpty]; done) | (simp [*]; exact q_gt _ _ (by assumption)), by repeat (first | (with_reducible first | exact HB.out | apply below_alloc | apply pw_below_drewN | apply below_drew1) | exact HB.out)⟩
            · rw [if_neg c12] at H
              have c12b0 : (t158 == 0) = false := beq_eq_false_iff_ne.mpr c12
              have c12b1 : (t158 != 0) = true := bne_iff_ne.mpr c12
              by_cases c15 : t158 = 2
              · rw [if_pos c15] at H
                have c15b0 : (t158 == 2) = true := beq_iff_eq.mpr c15
                have c15b1 : (t158 != 2) = false := bne_eq_false_iff_eq.mpr c15
                clear c15
                obtain rfl := Option.some.inj H
                go_wp2_with (first | (go_at_call 6; (with_reducible refine (impl_Tokens.calls a0 t153 t154 _ (TBl.below TB0.out (by repeat (first | (with_reducible first | exact HB.out | apply below_alloc | apply pw_below_drewN | apply below_drew1) | exact HB.out))) A10.out).mono ?_); rintro e w16 ⟨v155, rfl, ho0, hb⟩; have n0_ := Aside0.mk (Kd.R_lower ho0 (below_size (by repeat (first | (with_reducible first | exact HB.out | apply below_alloc | apply pw_below_drewN | apply below_drew1) | exact HB.out)))); have n1_ := Aside0.mk (below_step (by repeat (first | (with_reducible first | exact HB.out | apply below_alloc | apply pw_below_drewN | apply below_drew1) | exact HB.out)) hb); clear HB; have HO156 := n0_; have HB := n1_; clear n0_ n1_; (try clear hb); (try clear hb2); (try clear hk); (try clear hi); (try clear ho0)) | (go_at_call 7; (with_reducible refine (spec_Tokens.calls kj3 a0 t157 t158 _ A11.out).mono ?_); rintro e w17 ⟨v159, rfl, ho0, hb⟩; have n0_ := Aside0.mk (Kd.R_below (by (with_reducible repeat (first | apply Kd.R_alloc | apply Kd.R_drewN | apply Kd.R_drew)); exact HO156.out) hb); have n1_ := Aside0.mk (Kd.R_lower ho0 (below_size (by repeat (first | (with_reducible first | exact HB.out | apply below_alloc | apply pw_below_drewN | apply below_drew1) | exact HB.out)))); have n2_ := Aside0.mk (below_step (by repeat (first | (with_reducible first | exact HB.out | apply below_alloc | apply pw_below_drewN | apply below_drew1) | exact HB.out)) hb); clear HO156; clear HB; have HO156 := n0_; have HO160 := n1_; have HB := n2_; clear n0_ n1_ n2_; (try clear hb); (try clear hb2); (try clear hk); (try clear hi); (try clear ho0)))
                repeat (go_quiet (first | (go_at_call 6; (with_reducible refine (impl_Tokens.calls a0 t153 t154 _ (TBl.below TB0.out (by repeat (first | (with_reducible first | exact HB.out | apply below_alloc | apply pw_below_drewN | apply below_drew1) | exact HB.out))) A10.out).mono ?_); rintro e w16 ⟨v155, rfl, ho0, hb⟩; have n0_ := Aside0.mk (Kd.R_lower ho0 (below_size (by repeat (first | (with_reducible first | exact HB.out | apply below_alloc | apply pw_below_drewN | apply below_drew1) | exact HB.out)))); have n1_ := Aside0.mk (below_step (by repeat (first | (with_reducible first | exact HB.out | apply below_alloc | apply pw_below_drewN | apply below_drew1) | exact HB.out)) hb); clear HB; have HO156 := n0_; have HB := n1_; clear n0_ n1_; (try clear hb); (try clear hb2); (try clear hk); (try clear hi); (try clear ho0)) | (go_at_call 7; (with_reducible refine (spec_Tokens.calls kj3 a0 t157 t158 _ A11.out).mono ?_); rintro e w17 ⟨v159, rfl, ho0, hb⟩; have n0_ := Aside0.mk (Kd.R_below (by (with_reducible repeat (first | apply Kd.R_alloc | apply Kd.R_drewN | apply Kd.R_drew)); exact HO156.out) hb); have n1_ := Aside0.mk (Kd.R_lower ho0 (below_size (by repeat (first | (with_reducible first | exact HB.out | apply below_alloc | apply pw_below_drewN | apply below_drew1) | exact HB.out)))); have n2_ := Aside0.mk (below_step (by repeat (first | (with_reducible first | exact HB.out | apply below_alloc | apply pw_below_drewN | apply below_drew1) | exact HB.out)) hb); clear HO156; clear HB; have HO156 := n0_; have HO160 := n1_; have HB := n2_; clear n0_ n1_ n2_; (try clear hb); (try clear hb2); (try clear hk); (try clear hi); (try clear ho0))); try go_wp2_with (first | (go_at_call 6; (with_reducible refine (impl_Tokens.calls a0 t153 t154 _ (TBl.below TB0.out (by repeat (first | (with_reducible first | exact HB.out | apply below_alloc | apply pw_below_drewN | apply below_drew1) | exact HB.out))) A10.out).mono ?_); rintro e w16 ⟨v155, rfl, ho0, hb⟩; have n0_ := Aside0.mk (Kd.R_lower ho0 (below_size (by repeat (first | (with_reducible first | exact HB.out | apply below_alloc | apply pw_below_drewN | apply below_drew1) | exact HB.out)))); have n1_ := Aside0.mk (below_step (by repeat (first | (with_reducible first | exact HB.out | apply below_alloc | apply pw_below_drewN | apply below_drew1) | exact HB.out)) hb); clear HB; have HO156 := n0_; have HB := n1_; clear n0_ n1_; (try clear hb); (try clear hb2); (try clear hk); (try clear hi); (try clear ho0)) | (go_at_call 7; (with_reducible refine (spec_Tokens.calls kj3 a0 t157 t158 _ A11.out).mono ?_); rintro e w17 ⟨v159, rfl, ho0, hb⟩; have n0_ := Aside0.mk (Kd.R_below (by (with_reducible repeat (first | apply Kd.R_alloc | apply Kd.R_drewN | apply Kd.R_drew)); exact HO156.out) hb); have n1_ := Aside0.mk (Kd.R_lower ho0 (below_size (by repeat (first | (with_reducible first | exact HB.out | apply below_alloc | apply pw_below_drewN | apply below_drew1) | exact HB.out)))); have n2_ := Aside0.mk (below_step (by repeat (first | (with_reducible first | exact HB.out | apply below_alloc | apply pw_below_drewN | apply below_drew1) | exact HB.out)) hb); clear HO156; clear HB; have HO156 := n0_; have HO160 := n1_; have HB := n2_; clear n0_ n1_ n2_; (try clear hb); (try clear hb2); (try clear hk); (try clear hi); (try clear ho0))))
                go_ret
                exact ⟨by first | rfl | (simp [errW_none, errW_some] <;> rfl) | (simp [*, errW_none, errW_some] <;> rfl) | (simp [*, q_isEmpty]; done) | (simp [*]; exact q_gt _ _ (by assumption)), by repeat (first | (with_reducible first | exact HB.out | apply below_alloc | apply pw_below_drewN | apply below_drew1) | exact HB.out)⟩
              · rw [if_neg c15] at H
                have c15b0 : (t158 == 2) = false := beq_eq_false_iff_ne.mpr c15
                have c15b1 : (t158 != 2) = true := bne_iff_ne.mpr c15
                have HC18 := Aside0.mk H
                clear H
                go_upto_region 14 with (first | (go_at_call 6; (with_reducible refine (impl_Tokens.calls a0 t153 t154 _ (TBl.below TB0.out (by repeat (first | (with_reducible first | exact HB.out | apply below_alloc | apply pw_below_drewN | apply below_drew1) | exact HB.out))) A10.out).mono ?_); rintro e w19 ⟨v155, rfl, ho0, hb⟩; have n0_ := Aside0.mk (Kd.R_lower ho0 (below_size (by repeat (first | (with_reducible first | exact HB.out | apply below_alloc | apply pw_below_drewN | apply below_drew1) | exact HB.out)))); have n1_ := Aside0.mk (below_step (by repeat (first | (with_reducible first | exact HB.out | apply below_alloc | apply pw_below_drewN | apply below_drew1) | exact HB.out)) hb); clear HB; have HO156 := n0_; have HB := n1_; clear n0_ n1_; (try clear hb); (try clear hb2); (try clear hk); (try clear hi); (try clear ho0)) | (go_at_call 7; (with_reducible refine (spec_Tokens.calls kj3 a0 t157 t158 _ A11.out).mono ?_); rintro e w20 ⟨v159, rfl, ho0, hb⟩; have n0_ := Aside0.mk (Kd.R_below (by (with_reducible repeat (first | apply Kd.R_alloc | apply Kd.R_drewN | apply Kd.R_drew)); exact HO156.out) hb); have n1_ := Aside0.mk (Kd.R_lower ho0 (below_size (by repeat (first | (with_reducible first | exact HB.out | apply below_alloc | apply pw_below_drewN | apply below_drew1) | exact HB.out)))); have n2_ := Aside0.mk (below_step (by repeat (first | (with_reducible first | exact HB.out | apply below_alloc | apply pw_below_drewN | apply below_drew1) | exact HB.out)) hb); clear HO156; clear HB; have HO156 := n0_; have HO160 := n1_; have HB := n2_; clear n0_ n1_ n2_; (try clear hb); (try clear hb2); (try clear hk); (try clear hi); (try clear ho0)))
                repeat (go_quiet (first | (go_at_call 6; (with_reducible refine (impl_Tokens.calls a0 t153 t154 _ (TBl.below TB0.out (by repeat (first | (with_reducible first | exact HB.out | apply below_alloc | apply pw_below_drewN | apply below_drew1) | exact HB.out))) A10.out).mono ?_); rintro e w19 ⟨v155, rfl, ho0, hb⟩; have n0_ := Aside0.mk (Kd.R_lower ho0 (below_size (by repeat (first | (with_reducible first | exact HB.out | apply below_alloc | apply pw_below_drewN | apply below_drew1) | exact HB.out)))); have n1_ := Aside0.mk (below_step (by repeat (first | (with_reducible first | exact HB.out | apply below_alloc | apply pw_below_drewN | apply below_drew1) | exact HB.out)) hb); clear HB; have HO156 := n0_; have HB := n1_; clear n0_ n1_; (try clear hb); (try clear hb2); (try clear hk); (try clear hi); (try clear ho0)) | (go_at_call 7; (with_reducible refine (spec_Tokens.calls kj3 a0 t157 t158 _ A11.out).mono ?_); rintro e w20 ⟨v159, rfl, ho0, hb⟩; have n0_ := Aside0.mk (Kd.R_below (by (with_reducible repeat (first | apply Kd.R_alloc | apply Kd.R_drewN | apply Kd.R_drew)); exact HO156.out) hb); have n1_ := Aside0.mk (Kd.R_lower ho0 (below_size (by repeat (first | (with_reducible first | exact HB.out | apply below_alloc | apply pw_below_drewN | apply below_drew1) | exact HB.out)))); have n2_ := Aside0.mk (below_step (by repeat (first | (with_reducible first | exact HB.out | apply below_alloc | apply pw_below_drewN | apply below_drew1) | exact HB.out)) hb); clear HO156; clear HB; have HO156 := n0_; have HO160 := n1_; have HB := n2_; clear n0_ n1_ n2_; (try clear hb); (try clear hb2); (try clear hk); (try clear hi); (try clear ho0))); go_upto_region 14 with (first | (go_at_call 6; (with_reducible refine (impl_Tokens.calls a0 t153 t154 _ (TBl.below TB0.out (by repeat (first | (with_reducible first | exact HB.out | apply below_alloc | apply pw_below_drewN | apply below_drew1) | exact HB.out))) A10.out).mono ?_); rintro e w19 ⟨v155, rfl, ho0, hb⟩; have n0_ := Aside0.mk (Kd.R_lower ho0 (below_size (by repeat (first | (with_reducible first | exact HB.out | apply below_alloc | apply pw_below_drewN | apply below_drew1) | exact HB.out)))); have n1_ := Aside0.mk (below_step (by repeat (first | (with_reducible first | exact HB.out | apply below_alloc | apply pw_below_drewN | apply below_drew1) | exact HB.out)) hb); clear HB; have HO156 := n0_; have HB := n1_; clear n0_ n1_; (try clear hb); (try clear hb2); (try clear hk); (try clear hi); (try clear ho0)) | (go_at_call 7; (with_reducible refine (spec_Tokens.calls kj3 a0 t157 t158 _ A11.out).mono ?_); rintro e w20 ⟨v159, rfl, ho0, hb⟩; have n0_ := Aside0.mk (Kd.R_below (by (with_reducible repeat (first | apply Kd.R_alloc | apply Kd.R_drewN | apply Kd.R_drew)); exact HO156.out) hb); have n1_ := Aside0.mk (Kd.R_lower ho0 (below_size (by repeat (first | (with_reducible first | exact HB.out | apply below_alloc | apply pw_below_drewN | apply below_drew1) | exact HB.out)))); have n2_ := Aside0.mk (below_step (by repeat (first | (with_reducible first | exact HB.out | apply below_alloc | apply pw_below_drewN | apply below_drew1) | exact HB.out)) hb); clear HO156; clear HB; have HO156 := n0_; have HO160 := n1_; have HB := n2_; clear n0_ n1_ n2_; (try clear hb); (try clear hb2); (try clear hk); (try clear hi); (try clear ho0))))
                (try simp only [Act.put, List.setIfInBounds_toArray, List.set_cons_zero, List.set_cons_succ])
                go_cut [51] (fun v51 wc => ∃ (kq : Nat) (x51_17 : Bool), v51 = .bool x51_17 ∧ Aside0 (laws_FnTokens.j1 kq t153 t157 x51_17 = some r) ∧ Aside0 (kq ≤ kj3) ∧ Aside0 (Kd.R k26 26 wc w.heap.size (fun _ => True) v155 t153) ∧ Aside0 (Kd.R k31 31 wc w.heap.size (fun _ => True) v159 t157) ∧ Aside0 (Below w.heap.size w wc))
                case first =>
                  have H := HC18.out
                  clear HC18
                  by_cases c21 : t154 = true
                  · subst c21
                    have H1 : (laws_FnTokens.j1 kj3 t153 t157 ((t153.length : Int) != (t157.length : Int))) = some r := by rw [if_pos rfl] at H; exact H
                    clear H
                    have H := H1
                    clear H1
                    have H' := Aside0.mk H
                    clear H
                    obtain ⟨Ao22, co22, eo22⟩ := Kd.R_slice HO156.out
                    subst eo22
                    obtain ⟨Ao23, co23, eo23⟩ := Kd.R_slice HO160.out
                    subst eo23
                    go_wp2
                    repeat (go_quiet (fail); try go_wp2)
                    go_meet
                    case rel => exact ⟨_, (((t153.length : Int) != (t157.length : Int))), (by first | rfl | (simp; done) | (simp [*]; done) | (simp [*, q_isEmpty]; done) | (simp [*]; exact q_gt _ _ (by assumption))), H', ⟨by have := HJ3.out; first | omega | exact Nat.le_refl _⟩, ⟨by (with_reducible repeat (first | apply Kd.R_alloc | apply Kd.R_drewN | apply Kd.R_drew)); exact HO156.out⟩, ⟨by (with_reducible repeat (first | apply Kd.R_alloc | apply Kd.R_drewN | apply Kd.R_drew)); exact HO160.out⟩, ⟨by repeat (first | (with_reducible first | exact HB.out | apply below_alloc | apply pw_below_drewN | apply below_drew1) | exact HB.out)⟩⟩
                  · replace c21 := Bool.eq_false_iff.mpr c21
                    subst c21
                    have H1 : (laws_FnTokens.j1 kj3 t153 t157 true) = some r := by rw [if_neg (show ¬ (false = true) by decide)] at H; exact H
                    clear H
                    have H := H1
                    clear H1
                    have H' := Aside0.mk H
                    clear H
                    go_wp2
                    repeat (go_quiet (fail); try go_wp2)
                    go_meet
                    case rel => exact ⟨_, (true), (by first | rfl | (simp; done) | (simp [*]; done) | (simp [*, q_isEmpty]; done) | (simp [*]; exact q_gt _ _ (by assumption))), H', ⟨by have := HJ3.out; first | omega | exact Nat.le_refl _⟩, ⟨by (with_reducible repeat (first | apply Kd.R_alloc | apply Kd.R_drewN | apply Kd.R_drew)); exact HO156.out⟩, ⟨by (with_reducible repeat (first | apply Kd.R_alloc | apply Kd.R_drewN | apply Kd.R_drew)); exact HO160.out⟩, ⟨by repeat (first | (with_reducible first | exact HB.out | apply below_alloc | apply pw_below_drewN | apply below_drew1) | exact HB.out)⟩⟩
                case rest =>
                  clear HC18
                  try clear c1
                  try clear c2
                  try clear c2b0
                  try clear c2b1
                  try clear p2
                  try clear c4
                  try clear c6
                  try clear c8
                  try clear c9
                  try clear c9b0
                  try clear c9b1
                  try clear c12
                  try clear c12b0
                  try clear c12b1
                  try clear c15
                  try clear c15b0
                  try clear c15b1
                  try clear c21
                  try clear p2
                  obtain ⟨kq, x51_17, rfl, HA, HJ17, HO_5, HO_7, HB⟩ := hcut
                  cases kq with
                  | zero => exact absurd HA.out (by simp [laws_FnTokens.j1])
                  | succ kj17 =>
                    have H := HA.out
                    clear HA
                    simp only [laws_FnTokens.j1] at H
                    by_cases c24 : x51_17 = true
                    · subst c24
                      have H1 : (some false) = some r := by rw [if_pos rfl] at H; exact H
                      clear H
                      have H := H1
                      clear H1
                      obtain rfl := Option.some.inj H
                      go_wp2
                      repeat (go_quiet (fail); try go_wp2)
                      go_ret
                      exact ⟨by first | rfl | (simp [errW_none, errW_some] <;> rfl) | (simp [*, errW_none, errW_some] <;> rfl) | (simp [*, q_isEmpty]; done) | (simp [*]; exact q_gt _ _ (by assumption)), by repeat (first | (with_reducible first | exact HB.out | apply below_alloc | apply pw_below_drewN | apply below_drew1) | exact HB.out)⟩
                    · replace c24 := Bool.eq_false_iff.mpr c24
                      subst c24
                      have H1 : (laws_FnTokens.l0 kj17 t153 t157 (t153.length : Int) 0) = some r := by rw [if_neg (show ¬ (false = true) by decide)] at H; exact H
                      clear H
                      have H := H1
                      clear H1
                      have H' := Aside0.mk H
                      clear H
                      obtain ⟨Ao25, co25, eo25⟩ := Kd.R_slice HO_5.out
                      subst eo25
                      go_wp2
                      repeat (go_quiet (fail); try go_wp2)
                      go_loopg [54] kj17 (fun kq v54 w' => ∃ (x54_3 : Int), v54 = .int .i64 x54_3 ∧ Aside0 (laws_FnTokens.l0 kq t153 t157 (t153.length : Int) x54_3 = some r) ∧ Aside0 (kq ≤ kj17) ∧ Aside0 (Kd.R k26 26 w' w.heap.size (fun _ => True) (.slice Ao25 t153.length co25) t153) ∧ Aside0 (Kd.R k31 31 w' w.heap.size (fun _ => True) v159 t157) ∧ Aside0 (Below w.heap.size w w'))
                      case atStart => exact ⟨(0), (by first | rfl | (simp; done) | (simp [*]; done) | (simp [*, q_isEmpty]; done) | (simp [*]; exact q_gt _ _ (by assumption))), H', ⟨Nat.le_refl _⟩, ⟨by (with_reducible repeat (first | apply Kd.R_alloc | apply Kd.R_drewN | apply Kd.R_drew)); exact HO_5.out⟩, ⟨by (with_reducible repeat (first | apply Kd.R_alloc | apply Kd.R_drewN | apply Kd.R_drew)); exact HO_7.out⟩, ⟨by repeat (first | (with_reducible first | exact HB.out | apply below_alloc | apply pw_below_drewN | apply below_drew1) | exact HB.out)⟩⟩
                      case round =>
                        clear H'
                        try clear c1
                        try clear c2
                        try clear c2b0
                        try clear c2b1
                        try clear p2
                        try clear c4
                        try clear c6
                        try clear c8
                        try clear c9
                        try clear c9b0
                        try clear c9b1
                        try clear c12
                        try clear c12b0
                        try clear c12b1
                        try clear c15
                        try clear c15b0
                        try clear c15b1
                        try clear c21
                        try clear c24
                        try clear p2
                        obtain ⟨x54_3, rfl, HA, HK3, HO_5, HO_7, HB⟩ := hrel
                        cases gk with
                        | zero => exact absurd HA.out (by simp [laws_FnTokens.l0])
                        | succ k3 =>
                          have H := HA.out
                          clear HA
                          simp only [laws_FnTokens.l0] at H
                          by_cases c26 : x54_3 < (t153.length : Int)
                          · rw [if_pos c26] at H
                            have c26b0 : decide (x54_3 < (t153.length : Int)) = true := decide_eq_true c26
                            clear c26
                            by_cases c27 : 0 ≤ x54_3
                            · rw [if_pos c27] at H
                              have c27b0 : decide (0 ≤ x54_3) = true := decide_eq_true c27
                              clear c27
                              by_cases c28 : x54_3 < (t153.length : Int)
                              · rw [if_pos c28] at H
                                have c28b0 : decide (x54_3 < (t153.length : Int)) = true := decide_eq_true c28
                                clear c28
                                by_cases c29 : x54_3 < (t157.length : Int)
                                · rw [if_pos c29] at H
                                  have c29b0 : decide (x54_3 < (t157.length : Int)) = true := decide_eq_true c29
                                  clear c29
                                  by_cases c30 : (!(((rd_T26 t153 x54_3).f0) == ((rd_T31 t157 x54_3).f0)) || (!((((rd_T26 t153 x54_3).f1).toList) == (((rd_T31 t157 x54_3).f1).toList)) || (!(((rd_T26 t153 x54_3).f2) == ((rd_T31 t157 x54_3).f2)) || (!(((rd_T26 t153 x54_3).f3) == ((rd_T31 t157 x54_3).f3)) || (!(((rd_T26 t153 x54_3).f4) == ((rd_T31 t157 x54_3).f4)) || (!(((rd_T26 t153 x54_3).f5) == ((rd_T31 t157 x54_3).f5)))))))) = true
                                  · rw [if_pos c30] at H
                                    have c30b0 : (!(((rd_T26 t153 x54_3).f0) == ((rd_T31 t157 x54_3).f0)) || (!((((rd_T26 t153 x54_3).f1).toList) == (((rd_T31 t157 x54_3).f1).toList)) || (!(((rd_T26 t153 x54_3).f2) == ((rd_T31 t157 x54_3).f2)) || (!(((rd_T26 t153 x54_3).f3) == ((rd_T31 t157 x54_3).f3)) || (!(((rd_T26 t153 x54_3).f4) == ((rd_T31 t157 x54_3).f4)) || (!(((rd_T26 t153 x54_3).f5) == ((rd_T31 t157 x54_3).f5)))))))) = true := c30
                                    clear c30
                                    obtain rfl := Option.some.inj H
                                    have p161 : 0 ≤ (x54_3 : Int) := of_decide_eq_true (by first | (with_reducible assumption) | assumption)
                                    have q161 : x54_3 < (t153.length : Int) := of_decide_eq_true (by first | (with_reducible assumption) | assumption)
                                    obtain ⟨ad161, e161, hx161_0, hx161_1, hx161_2, hx161_3, hx161_4, hx161_5⟩ := at_T26 (Kd.R_reads' HO_5.out).2.2 x54_3 p161 q161
                                    cases e161
                                    replace p161 := eq_true p161
                                    replace q161 := eq_true q161
                                    obtain ⟨Ao31, co31, eo31⟩ := Kd.R_slice HO_7.out
                                    subst eo31
                                    have p162 : 0 ≤ (x54_3 : Int) := of_decide_eq_true (by first | (with_reducible assumption) | assumption)
                                    have q162 : x54_3 < (t157.length : Int) := of_decide_eq_true (by first | (with_reducible assumption) | assumption)
                                    obtain ⟨ad162, e162, hx162_0, hx162_1, hx162_2, hx162_3, hx162_4, hx162_5⟩ := at_T31 (Kd.R_reads' HO_7.out).2.2 x54_3 p162 q162
                                    cases e162
                                    replace p162 := eq_true p162
                                    replace q162 := eq_true q162
                                    go_wp2
                                    repeat (go_quiet (fail); try go_wp2)
                                    go_ret
                                    exact ⟨by first | rfl | (simp [errW_none, errW_some] <;> rfl) | (simp [*, errW_none, errW_some] <;> rfl) | (simp [*, q_isEmpty]; done) | (simp [*]; exact q_gt _ _ (by assumption)), by repeat (first | (with_reducible first | exact HB.out | apply below_alloc | apply pw_below_drewN | apply below_drew1) | exact HB.out)⟩
                                  · rw [if_neg c30] at H
                                    have c30b0 : (!(((rd_T26 t153 x54_3).f0) == ((rd_T31 t157 x54_3).f0)) || (!((((rd_T26 t153 x54_3).f1).toList) == (((rd_T31 t157 x54_3).f1).toList)) || (!(((rd_T26 t153 x54_3).f2) == ((rd_T31 t157 x54_3).f2)) || (!(((rd_T26 t153 x54_3).f3) == ((rd_T31 t157 x54_3).f3)) || (!(((rd_T26 t153 x54_3).f4) == ((rd_T31 t157 x54_3).f4)) || (!(((rd_T26 t153 x54_3).f5) == ((rd_T31 t157 x54_3).f5)))))))) = false := by simpa using c30
                                    clear c30
                                    have H' := Aside0.mk H
                                    clear H
                                    have p161 : 0 ≤ (x54_3 : Int) := of_decide_eq_true (by first | (with_reducible assumption) | assumption)
                                    have q161 : x54_3 < (t153.length : Int) := of_decide_eq_true (by first | (with_reducible assumption) | assumption)
                                    obtain ⟨ad161, e161, hx161_0, hx161_1, hx161_2, hx161_3, hx161_4, hx161_5⟩ := at_T26 (Kd.R_reads' HO_5.out).2.2 x54_3 p161 q161
                                    cases e161
                                    replace p161 := eq_true p161
                                    replace q161 := eq_true q161
                                    obtain ⟨Ao32, co32, eo32⟩ := Kd.R_slice HO_7.out
                                    subst eo32
                                    have p162 : 0 ≤ (x54_3 : Int) := of_decide_eq_true (by first | (with_reducible assumption) | assumption)
                                    have q162 : x54_3 < (t157.length : Int) := of_decide_eq_true (by first | (with_reducible assumption) | assumption)
                                    obtain ⟨ad162, e162, hx162_0, hx162_1, hx162_2, hx162_3, hx162_4, hx162_5⟩ := at_T31 (Kd.R_reads' HO_7.out).2.2 x54_3 p162 q162
                                    cases e162
                                    replace p162 := eq_true p162
                                    replace q162 := eq_true q162
                                    go_wp2
                                    repeat (go_quiet (fail); try go_wp2)
                                    go_roundg k3
                                    case measure => have := HJ3.out; have := HJ17.out; have := HK3.out; omega
                                    case rel => exact ⟨(wrap64 (x54_3 + 1)), (by first | rfl | (simp; done) | (simp [*]; done) | (simp [*, q_isEmpty]; done) | (simp [*]; exact q_gt _ _ (by assumption))), H', ⟨by have := HJ3.out; have := HJ17.out; have := HK3.out; omega⟩, ⟨by (with_reducible repeat (first | apply Kd.R_alloc | apply Kd.R_drewN | apply Kd.R_drew)); exact HO_5.out⟩, ⟨by (with_reducible repeat (first | apply Kd.R_alloc | apply Kd.R_drewN | apply Kd.R_drew)); exact HO_7.out⟩, ⟨by repeat (first | (with_reducible first | exact HB.out | apply below_alloc | apply pw_below_drewN | apply below_drew1) | exact HB.out)⟩⟩
                                · rw [if_neg c29] at H
                                  exact absurd H (by simp)
                              · rw [if_neg c28] at H
                                exact absurd H (by simp)
                            · rw [if_neg c27] at H
                              exact absurd H (by simp)
                          · rw [if_neg c26] at H
                            have c26b0 : decide (x54_3 < (t153.length : Int)) = false := decide_eq_false c26
                            clear c26
                            obtain rfl := Option.some.inj H
                            go_wp2
                            repeat (go_quiet (fail); try go_wp2)
                            go_ret
                            exact ⟨by first | rfl | (simp [errW_none, errW_some] <;> rfl) | (simp [*, errW_none, errW_some] <;> rfl) | (simp [*, q_isEmpty]; done) | (simp [*]; exact q_gt _ _ (by assumption)), by repeat (first | (with_reducible first | exact HB.out | apply below_alloc | apply pw_below_drewN | apply below_drew1) | exact HB.out)⟩

end Go.Proofs.YtlpcbmgleecafaaDoor.Q
