-- Printed for this seat by wip/pp.py of this repo; nothing here is trusted: Lean checks it.
import Derived.Test.YtblcgkkncoojeaaDoorHTabQ
import Derived.Test.YtblcgkkncoojeaaDoorQ0
import Derived.Test.YtblcgkkncoojeaaDoorHParseM
import Derived.Test.YtblcgkkncoojeaaDoorQlawsbare
import Derived.Test.YtblcgkkncoojeaaDoorQlawseqMatchers
import Derived.Test.YtblcgkkncoojeaaDoorQlawsone
namespace Go.Proofs.YtblcgkkncoojeaaDoor.Q
open Go.RowKit Go.Proofs.YtblcgkkncoojeaaDoorW.PrintWords Go.Proofs.YtblcgkkncoojeaaDoorW.PrintLast Go.Proofs.YtblcgkkncoojeaaDoorW.PrintMore
attribute [local go_sem] max2_int min2_int max_two min_two max_three min_three max_four min_four   -- for this text's walks alone
set_option linter.unusedVariables false
set_option linter.unusedSimpArgs false

/-! ### laws_FnAppended: function 3 -/
mutual
def laws_FnAppended.j0 : Nat → ByteArray → ByteArray → Bool → Option (Bool)
  | 0, _, _, _ => none
  | k + 1, x0, x1, x20 => if x20 = true then (some true) else ((laws_one.f).bind fun t155 => (if t155 = true then ((laws_bare.f k x0).bind fun bt156 => ((laws_bare.f k x1).bind fun bt163 => (if bt156.2.2 = true then (if bt163.2.2 = true then (if 0 ≤ (wrap64 ((bt156.2.1.length : Int) - 1)) then (if (wrap64 ((bt156.2.1.length : Int) - 1)) < (bt156.2.1.length : Int) then (laws_FnAppended.j1 k x0 x1 bt156.1 bt163.1 (((rd_T28 bt156.2.1 (wrap64 ((bt156.2.1.length : Int) - 1))).f0) == 3)) else (none)) else (none)) else (laws_FnAppended.j1 k x0 x1 bt156.1 bt163.1 true)) else (laws_FnAppended.j1 k x0 x1 bt156.1 bt163.1 true)))) else (some false)))
def laws_FnAppended.j1 : Nat → ByteArray → ByteArray → List (S38) → List (S38) → Bool → Option (Bool)
  | 0, _, _, _, _, _ => none
  | k + 1, x0, x1, x5, x8, x50 => if x50 = true then (some true) else (if x0.size + 1 ≤ 9223372036854775807 then (if (x0 ++ (⟨#[44]⟩ : ByteArray)).size + x1.size ≤ 9223372036854775807 then ((impl_ParseMatchers.f ((x0 ++ (⟨#[44]⟩ : ByteArray)) ++ x1)).bind fun bt171 => (if bt171.2 = true then ((some (([] : List (S38)) : List (S38))).bind fun y175 => (if y175.length + x5.length < 3518437208883 then ((some (y175 ++ x5 : List (S38))).bind fun y178 => (if y178.length + x8.length < 3518437208883 then ((laws_eqMatchers.f k bt171.1 (y178 ++ x8)).bind fun t184 => (some t184)) else (none))) else (none))) else (some false))) else (none)) else (none))
end
def laws_FnAppended.f (k : Nat) (a0 : ByteArray) (a1 : ByteArray) : Option (Bool) := if (a0.size : Int) > 2147483647 then (laws_FnAppended.j0 k a0 a1 true) else (laws_FnAppended.j0 k a0 a1 (decide ((a1.size : Int) > 2147483647)))
theorem laws_FnAppended.mono_l : ∀ k, (∀ y0 y1 y2, LeO (laws_FnAppended.j0 k y0 y1 y2) (laws_FnAppended.j0 (k + 1) y0 y1 y2)) ∧ (∀ y0 y1 y2 y3 y4, LeO (laws_FnAppended.j1 k y0 y1 y2 y3 y4) (laws_FnAppended.j1 (k + 1) y0 y1 y2 y3 y4))
  | 0 => ⟨fun _ _ _ r h => by simp [laws_FnAppended.j0] at h, fun _ _ _ _ _ r h => by simp [laws_FnAppended.j1] at h⟩
  | k + 1 => by
    obtain ⟨ih0, ih1⟩ := laws_FnAppended.mono_l k
    refine ⟨?_, ?_⟩
    · intro y0 y1 y2
      unfold laws_FnAppended.j0
      repeat' first
      | (with_reducible exact ih0 _ _ _)
      | (with_reducible exact ih1 _ _ _ _ _)
      | (with_reducible exact laws_bare.mono _ _)
      | (with_reducible exact laws_eqMatchers.mono _ _ _)
      | (with_reducible exact LeO.refl _)
      | (with_reducible exact LeO.none _)
      | (with_reducible refine LeO.ite ?_ ?_)
      | (with_reducible refine LeO.bind ?_ (fun _ => ?_))
      | exact ih0 _ _ _
      | exact ih1 _ _ _ _ _
      | exact laws_bare.mono _ _
      | exact laws_eqMatchers.mono _ _ _
      | exact LeO.none _
      | refine LeO.ite ?_ ?_
      | refine LeO.bind ?_ (fun _ => ?_)
    · intro y0 y1 y2 y3 y4
      unfold laws_FnAppended.j1
      repeat' first
      | (with_reducible exact ih0 _ _ _)
      | (with_reducible exact ih1 _ _ _ _ _)
      | (with_reducible exact laws_bare.mono _ _)
      | (with_reducible exact laws_eqMatchers.mono _ _ _)
      | (with_reducible exact LeO.refl _)
      | (with_reducible exact LeO.none _)
      | (with_reducible refine LeO.ite ?_ ?_)
      | (with_reducible refine LeO.bind ?_ (fun _ => ?_))
      | exact ih0 _ _ _
      | exact ih1 _ _ _ _ _
      | exact laws_bare.mono _ _
      | exact laws_eqMatchers.mono _ _ _
      | exact LeO.none _
      | refine LeO.ite ?_ ?_
      | refine LeO.bind ?_ (fun _ => ?_)
theorem laws_FnAppended.mono : ∀ a0 a1 k, LeO (laws_FnAppended.f k a0 a1) (laws_FnAppended.f (k + 1) a0 a1) := by
  intro a0 a1 k
  obtain ⟨ih0, ih1⟩ := laws_FnAppended.mono_l k
  unfold laws_FnAppended.f
  repeat' first
      | (with_reducible exact ih0 _ _ _)
      | (with_reducible exact ih1 _ _ _ _ _)
      | (with_reducible exact laws_bare.mono _ _)
      | (with_reducible exact laws_eqMatchers.mono _ _ _)
      | (with_reducible exact LeO.refl _)
      | (with_reducible exact LeO.none _)
      | (with_reducible refine LeO.ite ?_ ?_)
      | (with_reducible refine LeO.bind ?_ (fun _ => ?_))
      | exact ih0 _ _ _
      | exact ih1 _ _ _ _ _
      | exact laws_bare.mono _ _
      | exact laws_eqMatchers.mono _ _ _
      | exact LeO.none _
      | refine LeO.ite ?_ ?_
      | refine LeO.bind ?_ (fun _ => ?_)
set_option maxHeartbeats 8000000 in
set_option maxRecDepth 100000 in
theorem laws_FnAppended.calls (k : Nat) (a0 : ByteArray) (a1 : ByteArray) (r : Bool) (w : World) (tb : TBq w) (h : laws_FnAppended.f k a0 a1 = some r) :
    Calls Tryd.prog 3 #[.string a0, .string a1] w fun e w' => e = .returned (.bool r) ∧ Below w.heap.size w w' := by
  have HB := Aside0.mk (Below.refl w.heap.size w)
  have TB0 := Aside0.mk tb
  clear tb
  have H : (if (a0.size : Int) > 2147483647 then (laws_FnAppended.j0 k a0 a1 true) else (laws_FnAppended.j0 k a0 a1 (decide ((a1.size : Int) > 2147483647)))) = some r := h
  clear h
  have HC3 := Aside0.mk H
  clear H
  go_enter Tryd.func3, Tryd.ntmps3
  go_upto_region 1 with (fail)
  go_cut [20] (fun v20 wc => ∃ (kq : Nat) (x20_2 : Bool), v20 = .bool x20_2 ∧ Aside0 (laws_FnAppended.j0 kq a0 a1 x20_2 = some r) ∧ Aside0 (kq ≤ k) ∧ Aside0 (Below w.heap.size w wc))
  case first =>
    have H := HC3.out
    clear HC3
    by_cases c4 : (a0.size : Int) > 2147483647
    · rw [if_pos c4] at H
      have c4b0 : decide (2147483647 < (a0.size : Int)) = true := decide_eq_true c4
      have c4b1 : decide (2147483647 < a0.size) = true := decide_eq_true (by omega)
      clear c4
      (first | rw [c4b0] | (simp only [i64_w, i32_w]; rw [c4b0]) | skip)
      have H' := Aside0.mk H
      clear H
      go_wp2
      go_meet
      case rel => exact ⟨_, (true), (by first | rfl | (simp; done) | (simp [*]; done) | (simp [*, q_isEmpty]; done) | (simp [*]; exact q_gt _ _ (by assumption))), H', ⟨by first | omega | exact Nat.le_refl _⟩, ⟨by repeat (first | (with_reducible first | exact HB.out | apply below_alloc | apply pw_below_drewN | apply below_drew1) | exact HB.out)⟩⟩
    · rw [if_neg c4] at H
      have c4b0 : decide (2147483647 < (a0.size : Int)) = false := decide_eq_false c4
      have c4b1 : decide (2147483647 < a0.size) = false := decide_eq_false (by omega)
      clear c4
      (first | rw [c4b0] | (simp only [i64_w, i32_w]; rw [c4b0]) | skip)
      have H' := Aside0.mk H
      clear H
      go_wp2
      go_meet
      case rel => exact ⟨_, (decide ((a1.size : Int) > 2147483647)), (by first | rfl | (simp; done) | (simp [*]; done) | (simp [*, q_isEmpty]; done) | (simp [*]; exact q_gt _ _ (by assumption))), H', ⟨by first | omega | exact Nat.le_refl _⟩, ⟨by repeat (first | (with_reducible first | exact HB.out | apply below_alloc | apply pw_below_drewN | apply below_drew1) | exact HB.out)⟩⟩
  case rest =>
    clear HC3
    try clear p2
    try clear c3
    try clear c4
    try clear c4b0
    try clear c4b1
    obtain ⟨kq, x20_2, rfl, HA, HJ2, HB⟩ := hcut
    cases kq with
    | zero => exact absurd HA.out (by simp [laws_FnAppended.j0])
    | succ kj2 =>
      have H := HA.out
      clear HA
      simp only [laws_FnAppended.j0] at H
      by_cases c5 : x20_2 = true
      · subst c5
        have H1 : (some true) = some r := by rw [if_pos rfl] at H; exact H
        clear H
        have H := H1
        clear H1
        obtain rfl := Option.some.inj H
        go_wp2
        go_ret
        exact ⟨by first | rfl | (simp [errW_none, errW_some] <;> rfl) | (simp [*, errW_none, errW_some] <;> rfl) | (simp [*, q_isEmpty]; done) | (simp [*]; exact q_gt _ _ (by assumption)), by repeat (first | (with_reducible first | exact HB.out | apply below_alloc | apply pw_below_drewN | apply below_drew1) | exact HB.out)⟩
      · replace c5 := Bool.eq_false_iff.mpr c5
        subst c5
        have H1 : ((laws_one.f).bind fun t155 => (if t155 = true then ((laws_bare.f kj2 a0).bind fun bt156 => ((laws_bare.f kj2 a1).bind fun bt163 => (if bt156.2.2 = true then (if bt163.2.2 = true then (if 0 ≤ (wrap64 ((bt156.2.1.length : Int) - 1)) then (if (wrap64 ((bt156.2.1.length : Int) - 1)) < (bt156.2.1.length : Int) then (laws_FnAppended.j1 kj2 a0 a1 bt156.1 bt163.1 (((rd_T28 bt156.2.1 (wrap64 ((bt156.2.1.length : Int) - 1))).f0) == 3)) else (none)) else (none)) else (laws_FnAppended.j1 kj2 a0 a1 bt156.1 bt163.1 true)) else (laws_FnAppended.j1 kj2 a0 a1 bt156.1 bt163.1 true)))) else (some false))) = some r := by rw [if_neg (show ¬ (false = true) by decide)] at H; exact H
        clear H
        have H := H1
        clear H1
        replace H := Option.bind_eq_some_iff.mp H
        obtain ⟨t155, A60, H⟩ := H
        replace H : (if t155 = true then ((laws_bare.f kj2 a0).bind fun bt156 => ((laws_bare.f kj2 a1).bind fun bt163 => (if bt156.2.2 = true then (if bt163.2.2 = true then (if 0 ≤ (wrap64 ((bt156.2.1.length : Int) - 1)) then (if (wrap64 ((bt156.2.1.length : Int) - 1)) < (bt156.2.1.length : Int) then (laws_FnAppended.j1 kj2 a0 a1 bt156.1 bt163.1 (((rd_T28 bt156.2.1 (wrap64 ((bt156.2.1.length : Int) - 1))).f0) == 3)) else (none)) else (none)) else (laws_FnAppended.j1 kj2 a0 a1 bt156.1 bt163.1 true)) else (laws_FnAppended.j1 kj2 a0 a1 bt156.1 bt163.1 true)))) else (some false)) = some r := H
        have A6 := Aside0.mk A60
        clear A60
        by_cases c7 : t155 = true
        · subst c7
          have H1 : ((laws_bare.f kj2 a0).bind fun bt156 => ((laws_bare.f kj2 a1).bind fun bt163 => (if bt156.2.2 = true then (if bt163.2.2 = true then (if 0 ≤ (wrap64 ((bt156.2.1.length : Int) - 1)) then (if (wrap64 ((bt156.2.1.length : Int) - 1)) < (bt156.2.1.length : Int) then (laws_FnAppended.j1 kj2 a0 a1 bt156.1 bt163.1 (((rd_T28 bt156.2.1 (wrap64 ((bt156.2.1.length : Int) - 1))).f0) == 3)) else (none)) else (none)) else (laws_FnAppended.j1 kj2 a0 a1 bt156.1 bt163.1 true)) else (laws_FnAppended.j1 kj2 a0 a1 bt156.1 bt163.1 true)))) = some r := by rw [if_pos rfl] at H; exact H
          clear H
          have H := H1
          clear H1
          replace H := Option.bind_eq_some_iff.mp H
          obtain ⟨⟨t156, t157, t158⟩, A80, H⟩ := H
          replace H : ((laws_bare.f kj2 a1).bind fun bt163 => (if t158 = true then (if bt163.2.2 = true then (if 0 ≤ (wrap64 ((t157.length : Int) - 1)) then (if (wrap64 ((t157.length : Int) - 1)) < (t157.length : Int) then (laws_FnAppended.j1 kj2 a0 a1 t156 bt163.1 (((rd_T28 t157 (wrap64 ((t157.length : Int) - 1))).f0) == 3)) else (none)) else (none)) else (laws_FnAppended.j1 kj2 a0 a1 t156 bt163.1 true)) else (laws_FnAppended.j1 kj2 a0 a1 t156 bt163.1 true))) = some r := H
          have A8 := Aside0.mk A80
          clear A80
          replace H := Option.bind_eq_some_iff.mp H
          obtain ⟨⟨t163, t164, t165⟩, A90, H⟩ := H
          replace H : (if t158 = true then (if t165 = true then (if 0 ≤ (wrap64 ((t157.length : Int) - 1)) then (if (wrap64 ((t157.length : Int) - 1)) < (t157.length : Int) then (laws_FnAppended.j1 kj2 a0 a1 t156 t163 (((rd_T28 t157 (wrap64 ((t157.length : Int) - 1))).f0) == 3)) else (none)) else (none)) else (laws_FnAppended.j1 kj2 a0 a1 t156 t163 true)) else (laws_FnAppended.j1 kj2 a0 a1 t156 t163 true)) = some r := H
          have A9 := Aside0.mk A90
          clear A90
          have HC10 := Aside0.mk H
          clear H
          go_upto_region 7 with (first | ((with_reducible refine gate_callee (f := 6) rfl ?_); refine goesL_ (some 21) rfl rfl Tryd.func6 (by kernel_rfl) rfl #[] rfl (by (try simp only [List.map_toArray, List.map_cons, List.map_nil]); first | done | rfl | (simp only [List.length_drop, List.length_take]; rfl)) ?_; (with_reducible refine (laws_one.calls  true _ (TBq.below TB0.out (by repeat (first | (with_reducible first | exact HB.out | apply below_alloc | apply pw_below_drewN | apply below_drew1 | refine below_set ?_ (Aside0.out (by assumption))) | exact HB.out))) A6.out).mono ?_); rintro e w11 ⟨rfl, hb⟩; refine ⟨_, rfl, ?_⟩; have n0_ := Aside0.mk (below_step (by repeat (first | (with_reducible first | exact HB.out | apply below_alloc | apply pw_below_drewN | apply below_drew1) | exact HB.out)) hb); clear HB; have HB := n0_; clear n0_; (try clear hb); (try clear hb2); (try clear hk); (try clear hi)) | ((with_reducible refine gate_callee (f := 7) rfl ?_); refine goesL_ (some 25) rfl rfl Tryd.func7 (by kernel_rfl) rfl #[.string a0] rfl (by (try simp only [List.map_toArray, List.map_cons, List.map_nil]); first | done | rfl | (simp only [List.length_drop, List.length_take]; rfl)) ?_; (with_reducible refine (laws_bare.calls kj2 a0 t156 t157 t158 _ (TBq.below TB0.out (by repeat (first | (with_reducible first | exact HB.out | apply below_alloc | apply pw_below_drewN | apply below_drew1 | refine below_set ?_ (Aside0.out (by assumption))) | exact HB.out))) A8.out).mono ?_); rintro e w12 ⟨v159, v161, rfl, ho0, ho1, hb⟩; refine ⟨_, rfl, ?_⟩; have n0_ := Aside0.mk (Kd.R_lower ho0 (below_size (by repeat (first | (with_reducible first | exact HB.out | apply below_alloc | apply pw_below_drewN | apply below_drew1) | exact HB.out)))); have n1_ := Aside0.mk (Kd.R_lower ho1 (below_size (by repeat (first | (with_reducible first | exact HB.out | apply below_alloc | apply pw_below_drewN | apply below_drew1) | exact HB.out)))); have n2_ := Aside0.mk (below_step (by repeat (first | (with_reducible first | exact HB.out | apply below_alloc | apply pw_below_drewN | apply below_drew1) | exact HB.out)) hb); clear HB; have HO160 := n0_; have HO162 := n1_; have HB := n2_; clear n0_ n1_ n2_; (try clear hb); (try clear hb2); (try clear hk); (try clear hi); (try clear ho0); (try clear ho1)) | ((with_reducible refine gate_callee (f := 7) rfl ?_); refine goesL_ (some 31) rfl rfl Tryd.func7 (by kernel_rfl) rfl #[.string a1] rfl (by (try simp only [List.map_toArray, List.map_cons, List.map_nil]); first | done | rfl | (simp only [List.length_drop, List.length_take]; rfl)) ?_; (with_reducible refine (laws_bare.calls kj2 a1 t163 t164 t165 _ (TBq.below TB0.out (by repeat (first | (with_reducible first | exact HB.out | apply below_alloc | apply pw_below_drewN | apply below_drew1 | refine below_set ?_ (Aside0.out (by assumption))) | exact HB.out))) A9.out).mono ?_); rintro e w13 ⟨v166, v168, rfl, ho0, ho1, hb⟩; refine ⟨_, rfl, ?_⟩; have n0_ := Aside0.mk (Kd.R_elder' (by (with_reducible repeat (first | apply Kd.R_alloc | apply Kd.R_drewN | apply Kd.R_drew)); exact HO160.out) (Kd.R_base ho0) hb); have n1_ := Aside0.mk (Kd.R_elder' (by (with_reducible repeat (first | apply Kd.R_alloc | apply Kd.R_drewN | apply Kd.R_drew)); exact HO162.out) (Kd.R_base ho1) hb); have n2_ := Aside0.mk (Kd.R_lower (Kd.R_new' ho0 (Kd.R_lt (by (with_reducible repeat (first | apply Kd.R_alloc | apply Kd.R_drewN | apply Kd.R_drew)); exact HO160.out))) (below_size (by repeat (first | (with_reducible first | exact HB.out | apply below_alloc | apply pw_below_drewN | apply below_drew1) | exact HB.out)))); have n3_ := Aside0.mk (Kd.R_lower (Kd.R_new' ho1 (Kd.R_lt (by (with_reducible repeat (first | apply Kd.R_alloc | apply Kd.R_drewN | apply Kd.R_drew)); exact HO162.out))) (below_size (by repeat (first | (with_reducible first | exact HB.out | apply below_alloc | apply pw_below_drewN | apply below_drew1) | exact HB.out)))); have n4_ := Aside0.mk (below_step (by repeat (first | (with_reducible first | exact HB.out | apply below_alloc | apply pw_below_drewN | apply below_drew1) | exact HB.out)) hb); clear HO160; clear HO162; clear HB; have HO160 := n0_; have HO162 := n1_; have HO167 := n2_; have HO169 := n3_; have HB := n4_; clear n0_ n1_ n2_ n3_ n4_; (try clear hb); (try clear hb2); (try clear hk); (try clear hi); (try clear ho0); (try clear ho1)))
          (try simp only [Act.put, List.setIfInBounds_toArray, List.set_cons_zero, List.set_cons_succ])
          go_cut [50] (fun v50 wc => ∃ (kq : Nat) (x50_9 : Bool), v50 = .bool x50_9 ∧ Aside0 (laws_FnAppended.j1 kq a0 a1 t156 t163 x50_9 = some r) ∧ Aside0 (kq ≤ kj2) ∧ Aside0 (Kd.R k38 38 wc w.heap.size (fun k_ => some k_ ≠ (v166 : Value).ownBlock) v159 t156) ∧ Aside0 (Kd.R k38 38 wc w.heap.size (fun k_ => some k_ ≠ (v159 : Value).ownBlock) v166 t163) ∧ Aside0 (Below w.heap.size w wc))
          case first =>
            have H := HC10.out
            clear HC10
            by_cases c14 : t158 = true
            · subst c14
              have H1 : (if t165 = true then (if 0 ≤ (wrap64 ((t157.length : Int) - 1)) then (if (wrap64 ((t157.length : Int) - 1)) < (t157.length : Int) then (laws_FnAppended.j1 kj2 a0 a1 t156 t163 (((rd_T28 t157 (wrap64 ((t157.length : Int) - 1))).f0) == 3)) else (none)) else (none)) else (laws_FnAppended.j1 kj2 a0 a1 t156 t163 true)) = some r := by rw [if_pos rfl] at H; exact H
              clear H
              have H := H1
              clear H1
              by_cases c15 : t165 = true
              · subst c15
                have H1 : (if 0 ≤ (wrap64 ((t157.length : Int) - 1)) then (if (wrap64 ((t157.length : Int) - 1)) < (t157.length : Int) then (laws_FnAppended.j1 kj2 a0 a1 t156 t163 (((rd_T28 t157 (wrap64 ((t157.length : Int) - 1))).f0) == 3)) else (none)) else (none)) = some r := by rw [if_pos rfl] at H; exact H
                clear H
                have H := H1
                clear H1
                obtain ⟨ji16, hji16⟩ : ∃ j_ : Int, (wrap64 ((t157.length : Int) - 1)) = j_ := ⟨_, rfl⟩
                replace H : (if 0 ≤ (ji16) then (if (ji16) < (t157.length : Int) then (laws_FnAppended.j1 kj2 a0 a1 t156 t163 (((rd_T28 t157 (ji16)).f0) == 3)) else (none)) else (none)) = some r := by first | (rw [hji16] at H; exact H) | (simp only [hji16] at H ⊢; exact H)
                have hji16w : (IntKind.i64.wrap ((t157.length : Int) - 1)) = ji16 := (i64_w _).trans hji16
                by_cases c17 : 0 ≤ (ji16)
                · rw [if_pos c17] at H
                  have c17b0 : decide (0 ≤ (ji16)) = true := decide_eq_true c17
                  clear c17
                  (first | rw [c17b0] | (simp only [i64_w, i32_w]; rw [c17b0]) | skip)
                  by_cases c18 : (ji16) < (t157.length : Int)
                  · rw [if_pos c18] at H
                    have c18b0 : decide ((ji16) < (t157.length : Int)) = true := decide_eq_true c18
                    clear c18
                    have H' := Aside0.mk H
                    clear H
                    obtain ⟨Ao19, co19, eo19⟩ := Kd.R_slice HO162.out
                    subst eo19
                    have p170 : 0 ≤ ((ji16) : Int) := of_decide_eq_true (by first | (with_reducible assumption) | assumption)
                    have q170 : (ji16) < (t157.length : Int) := of_decide_eq_true (by first | (with_reducible assumption) | assumption)
                    obtain ⟨ad170, e170, hx170_0, hx170_1, hx170_2, hx170_3, hx170_4, hx170_5⟩ := at_T28 (Kd.R_reads' HO162.out).2.2 (ji16) p170 q170
                    cases e170
                    replace p170 := eq_true p170
                    replace q170 := eq_true q170
                    go_wp2
                    go_meet
                    case rel => exact ⟨_, ((((rd_T28 t157 (ji16)).f0) == 3)), (by first | rfl | (simp; done) | (simp only [← hji16] <;> (first | rfl | simp)) | (simp [*]; done) | (simp [*, q_isEmpty]; done) | (simp [*]; exact q_gt _ _ (by assumption))), H', ⟨by have := HJ2.out; first | omega | exact Nat.le_refl _⟩, ⟨by (with_reducible repeat (first | apply Kd.R_alloc | apply Kd.R_drewN | apply Kd.R_drew)); exact Kd.R_mono HO160.out (fun _ hk => hk.2)⟩, ⟨by (with_reducible repeat (first | apply Kd.R_alloc | apply Kd.R_drewN | apply Kd.R_drew)); exact Kd.R_mono HO167.out (fun _ hk => hk.2)⟩, ⟨by repeat (first | (with_reducible first | exact HB.out | apply below_alloc | apply pw_below_drewN | apply below_drew1) | exact HB.out)⟩⟩
                  · rw [if_neg c18] at H
                    exact absurd H (by simp)
                · rw [if_neg c17] at H
                  exact absurd H (by simp)
              · replace c15 := Bool.eq_false_iff.mpr c15
                subst c15
                have H1 : (laws_FnAppended.j1 kj2 a0 a1 t156 t163 true) = some r := by rw [if_neg (show ¬ (false = true) by decide)] at H; exact H
                clear H
                have H := H1
                clear H1
                have H' := Aside0.mk H
                clear H
                go_wp2
                go_meet
                case rel => exact ⟨_, (true), (by first | rfl | (simp; done) | (simp [*]; done) | (simp [*, q_isEmpty]; done) | (simp [*]; exact q_gt _ _ (by assumption))), H', ⟨by have := HJ2.out; first | omega | exact Nat.le_refl _⟩, ⟨by (with_reducible repeat (first | apply Kd.R_alloc | apply Kd.R_drewN | apply Kd.R_drew)); exact Kd.R_mono HO160.out (fun _ hk => hk.2)⟩, ⟨by (with_reducible repeat (first | apply Kd.R_alloc | apply Kd.R_drewN | apply Kd.R_drew)); exact Kd.R_mono HO167.out (fun _ hk => hk.2)⟩, ⟨by repeat (first | (with_reducible first | exact HB.out | apply below_alloc | apply pw_below_drewN | apply below_drew1) | exact HB.out)⟩⟩
            · replace c14 := Bool.eq_false_iff.mpr c14
              subst c14
              have H1 : (laws_FnAppended.j1 kj2 a0 a1 t156 t163 true) = some r := by rw [if_neg (show ¬ (false = true) by decide)] at H; exact H
              clear H
              have H := H1
              clear H1
              have H' := Aside0.mk H
              clear H
              go_wp2
              go_meet
              case rel => exact ⟨_, (true), (by first | rfl | (simp; done) | (simp [*]; done) | (simp [*, q_isEmpty]; done) | (simp [*]; exact q_gt _ _ (by assumption))), H', ⟨by have := HJ2.out; first | omega | exact Nat.le_refl _⟩, ⟨by (with_reducible repeat (first | apply Kd.R_alloc | apply Kd.R_drewN | apply Kd.R_drew)); exact Kd.R_mono HO160.out (fun _ hk => hk.2)⟩, ⟨by (with_reducible repeat (first | apply Kd.R_alloc | apply Kd.R_drewN | apply Kd.R_drew)); exact Kd.R_mono HO167.out (fun _ hk => hk.2)⟩, ⟨by repeat (first | (with_reducible first | exact HB.out | apply below_alloc | apply pw_below_drewN | apply below_drew1) | exact HB.out)⟩⟩
          case rest =>
            clear HC10
            try clear c1
            try clear p1
            try clear q1
            try clear hx1
            try clear p2
            try clear c3
            try clear c4
            try clear c4b0
            try clear c4b1
            try clear c5
            try clear c6
            try clear p6
            try clear c7
            try clear c14
            try clear c15
            try clear c17
            try clear c17b0
            try clear p17
            try clear q17
            try clear hx17
            try clear c18
            try clear c18b0
            try clear hx170_0
            try clear hx170_1
            try clear hx170_2
            try clear hx170_3
            try clear hx170_4
            try clear hx170_5
            try clear p170
            try clear p2
            try clear q170
            obtain ⟨kq, x50_9, rfl, HA, HJ9, HO_5, HO_8, HB⟩ := hcut
            cases kq with
            | zero => exact absurd HA.out (by simp [laws_FnAppended.j1])
            | succ kj9 =>
              have H := HA.out
              clear HA
              simp only [laws_FnAppended.j1] at H
              by_cases c20 : x50_9 = true
              · subst c20
                have H1 : (some true) = some r := by rw [if_pos rfl] at H; exact H
                clear H
                have H := H1
                clear H1
                obtain rfl := Option.some.inj H
                go_wp2
                go_ret
                exact ⟨by first | rfl | (simp [errW_none, errW_some] <;> rfl) | (simp [*, errW_none, errW_some] <;> rfl) | (simp [*, q_isEmpty]; done) | (simp [*]; exact q_gt _ _ (by assumption)), by repeat (first | (with_reducible first | exact HB.out | apply below_alloc | apply pw_below_drewN | apply below_drew1) | exact HB.out)⟩
              · replace c20 := Bool.eq_false_iff.mpr c20
                subst c20
                have H1 : (if a0.size + 1 ≤ 9223372036854775807 then (if (a0 ++ (⟨#[44]⟩ : ByteArray)).size + a1.size ≤ 9223372036854775807 then ((impl_ParseMatchers.f ((a0 ++ (⟨#[44]⟩ : ByteArray)) ++ a1)).bind fun bt171 => (if bt171.2 = true then ((some (([] : List (S38)) : List (S38))).bind fun y175 => (if y175.length + t156.length < 3518437208883 then ((some (y175 ++ t156 : List (S38))).bind fun y178 => (if y178.length + t163.length < 3518437208883 then ((laws_eqMatchers.f kj9 bt171.1 (y178 ++ t163)).bind fun t184 => (some t184)) else (none))) else (none))) else (some false))) else (none)) else (none)) = some r := by rw [if_neg (show ¬ (false = true) by decide)] at H; exact H
                clear H
                have H := H1
                clear H1
                by_cases c21 : a0.size + 1 ≤ 9223372036854775807
                · rw [if_pos c21] at H
                  have c21b0 := eq_true c21
                  have c21b1 : decide (a0.size + 1 ≤ 9223372036854775807) = true := decide_eq_true c21
                  try have c21b2 : (9223372036854775807 < a0.size + 1) = False := eq_false (Nat.not_lt.2 c21)
                  by_cases c22 : (a0 ++ (⟨#[44]⟩ : ByteArray)).size + a1.size ≤ 9223372036854775807
                  · rw [if_pos c22] at H
                    have c22b0 := eq_true c22
                    have c22b1 : decide ((a0 ++ (⟨#[44]⟩ : ByteArray)).size + a1.size ≤ 9223372036854775807) = true := decide_eq_true c22
                    try have c22b2 : (9223372036854775807 < (a0 ++ (⟨#[44]⟩ : ByteArray)).size + a1.size) = False := eq_false (Nat.not_lt.2 c22)
                    replace H := Option.bind_eq_some_iff.mp H
                    obtain ⟨⟨t171, t172⟩, A230, H⟩ := H
                    replace H : (if t172 = true then ((some (([] : List (S38)) : List (S38))).bind fun y175 => (if y175.length + t156.length < 3518437208883 then ((some (y175 ++ t156 : List (S38))).bind fun y178 => (if y178.length + t163.length < 3518437208883 then ((laws_eqMatchers.f kj9 t171 (y178 ++ t163)).bind fun t184 => (some t184)) else (none))) else (none))) else (some false)) = some r := H
                    have A23 := Aside0.mk A230
                    clear A230
                    by_cases c24 : t172 = true
                    · subst c24
                      have H1 : ((some (([] : List (S38)) : List (S38))).bind fun y175 => (if y175.length + t156.length < 3518437208883 then ((some (y175 ++ t156 : List (S38))).bind fun y178 => (if y178.length + t163.length < 3518437208883 then ((laws_eqMatchers.f kj9 t171 (y178 ++ t163)).bind fun t184 => (some t184)) else (none))) else (none))) = some r := by rw [if_pos rfl] at H; exact H
                      clear H
                      have H := H1
                      clear H1
                      obtain ⟨y175, hy175⟩ : ∃ y_ : List (S38), y_ = (([] : List (S38))) := ⟨_, rfl⟩
                      replace H : (if y175.length + t156.length < 3518437208883 then ((some (y175 ++ t156 : List (S38))).bind fun y178 => (if y178.length + t163.length < 3518437208883 then ((laws_eqMatchers.f kj9 t171 (y178 ++ t163)).bind fun t184 => (some t184)) else (none))) else (none)) = some r := by first | (rw [hy175]; with_reducible exact H) | (have H2_ := (Option.bind_some _ _).symm.trans H; rw [hy175]; with_reducible exact H2_) | (have H2_ := (Option.bind_some _ _).symm.trans H; with_reducible exact H2_) | with_reducible exact H | (rw [hy175]; exact H) | exact H
                      have Ny175 := Aside0.mk hy175
                      clear hy175
                      by_cases c25 : y175.length + t156.length < 3518437208883
                      · rw [if_pos c25] at H
                        have LMc25 := Aside0.mk c25
                        clear c25
                        obtain ⟨y178, hy178⟩ : ∃ y_ : List (S38), y_ = (y175 ++ t156) := ⟨_, rfl⟩
                        replace H : (if y178.length + t163.length < 3518437208883 then ((laws_eqMatchers.f kj9 t171 (y178 ++ t163)).bind fun t184 => (some t184)) else (none)) = some r := by first | (rw [hy178]; with_reducible exact H) | (have H2_ := (Option.bind_some _ _).symm.trans H; rw [hy178]; with_reducible exact H2_) | (have H2_ := (Option.bind_some _ _).symm.trans H; with_reducible exact H2_) | with_reducible exact H | (rw [hy178]; exact H) | exact H
                        have Ny178 := Aside0.mk hy178
                        clear hy178
                        by_cases c26 : y178.length + t163.length < 3518437208883
                        · rw [if_pos c26] at H
                          have LMc26 := Aside0.mk c26
                          clear c26
                          obtain ⟨y181, hy181⟩ : ∃ y_ : List (S38), y_ = (y178 ++ t163) := ⟨_, rfl⟩
                          replace H : ((laws_eqMatchers.f kj9 t171 y181).bind fun t184 => (some t184)) = some r := by first | (rw [hy181]; with_reducible exact H) | (have H2_ := (Option.bind_some _ _).symm.trans H; rw [hy181]; with_reducible exact H2_) | (have H2_ := (Option.bind_some _ _).symm.trans H; with_reducible exact H2_) | with_reducible exact H | (rw [hy181]; exact H) | exact H
                          have Ny181 := Aside0.mk hy181
                          clear hy181
                          replace H := Option.bind_eq_some_iff.mp H
                          obtain ⟨t184, A270, H⟩ := H
                          replace H : (some t184) = some r := H
                          have A27 := Aside0.mk A270
                          clear A270
                          obtain rfl := Option.some.inj H
                          go_wp2_with (first | ((with_reducible refine gate_callee (f := 8) rfl ?_); refine goesL_ (some 56) rfl rfl Tryd.func8 (by kernel_rfl) rfl #[.string ((a0 ++ (⟨#[44]⟩ : ByteArray)) ++ a1)] rfl (by (try simp only [List.map_toArray, List.map_cons, List.map_nil]); first | done | rfl | (simp only [List.length_drop, List.length_take]; rfl)) ?_; (with_reducible refine (impl_ParseMatchers.calls ((a0 ++ (⟨#[44]⟩ : ByteArray)) ++ a1) t171 true _ (TBq.below TB0.out (by repeat (first | (with_reducible first | exact HB.out | apply below_alloc | apply pw_below_drewN | apply below_drew1 | refine below_set ?_ (Aside0.out (by assumption))) | exact HB.out))) A23.out).mono ?_); rintro e w28 ⟨v173, rfl, ho0, hb⟩; refine ⟨_, rfl, ?_⟩; have n0_ := Aside0.mk (Kd.R_elder' (by (with_reducible repeat (first | apply Kd.R_alloc | apply Kd.R_drewN | apply Kd.R_drew)); exact HO_5.out) (Kd.R_base ho0) hb); have n1_ := Aside0.mk (Kd.R_elder' (by (with_reducible repeat (first | apply Kd.R_alloc | apply Kd.R_drewN | apply Kd.R_drew)); exact HO_8.out) (Kd.R_base ho0) hb); have n2_ := Aside0.mk (Kd.R_lower (Kd.R_new' (Kd.R_new' ho0 (Kd.R_lt (by (with_reducible repeat (first | apply Kd.R_alloc | apply Kd.R_drewN | apply Kd.R_drew)); exact HO_5.out))) (Kd.R_lt (by (with_reducible repeat (first | apply Kd.R_alloc | apply Kd.R_drewN | apply Kd.R_drew)); exact HO_8.out))) (below_size (by repeat (first | (with_reducible first | exact HB.out | apply below_alloc | apply pw_below_drewN | apply below_drew1) | exact HB.out)))); have n3_ := Aside0.mk (below_step (by repeat (first | (with_reducible first | exact HB.out | apply below_alloc | apply pw_below_drewN | apply below_drew1) | exact HB.out)) hb); clear HO_5; clear HO_8; clear HB; have HO_5 := n0_; have HO_8 := n1_; have HO174 := n2_; have HB := n3_; clear n0_ n1_ n2_ n3_; (try clear hb); (try clear hb2); (try clear hk); (try clear hi); (try clear ho0)) | ((with_reducible refine gate_dst (N := 62) rfl ?_); (try (refine gate_guard (by rfl) ?_; dsimp only)); refine Kd.R_lit k38 _ 38 ?hg (N := 62) ?hd (xs := ([] : List (S38))) (inner := []) (ok := fun _ => True) (okp := fun _ => True) ?hr ?hp (fun _ hk => hk) trivial (Below.refl _ _) (Nat.le_refl _) (by simp) ?_; (case hd => rfl); (case hg => rfl); (case hr => first | (go_simp; done) | (go_simp; rfl)); (case hp => exact (Reps.none _ _)); intro v176 w29 ho30 hb hg_ hnew_; clear hg_ hnew_; (first | rw [← Ny175.out] at ho30 | (simp only [Int.reduceToNat] at ho30; rw [← Ny175.out] at ho30)); have n0_ := Aside0.mk (Kd.R_elder' (by (with_reducible repeat (first | apply Kd.R_alloc | apply Kd.R_drewN | apply Kd.R_drew)); exact HO_5.out) (Kd.R_base ho30) hb); have n1_ := Aside0.mk (Kd.R_elder' (by (with_reducible repeat (first | apply Kd.R_alloc | apply Kd.R_drewN | apply Kd.R_drew)); exact HO_8.out) (Kd.R_base ho30) hb); have n2_ := Aside0.mk (Kd.R_elder' (by (with_reducible repeat (first | apply Kd.R_alloc | apply Kd.R_drewN | apply Kd.R_drew)); exact HO174.out) (Kd.R_base ho30) hb); have n3_ := Aside0.mk (Kd.R_lower (Kd.R_new' (Kd.R_new' (Kd.R_new' ho30 (Kd.R_lt (by (with_reducible repeat (first | apply Kd.R_alloc | apply Kd.R_drewN | apply Kd.R_drew)); exact HO_5.out))) (Kd.R_lt (by (with_reducible repeat (first | apply Kd.R_alloc | apply Kd.R_drewN | apply Kd.R_drew)); exact HO_8.out))) (Kd.R_lt (by (with_reducible repeat (first | apply Kd.R_alloc | apply Kd.R_drewN | apply Kd.R_drew)); exact HO174.out))) (below_size (by repeat (first | (with_reducible first | exact HB.out | apply below_alloc | apply pw_below_drewN | apply below_drew1) | exact HB.out)))); have n4_ := Aside0.mk (below_step (by repeat (first | (with_reducible first | exact HB.out | apply below_alloc | apply pw_below_drewN | apply below_drew1) | exact HB.out)) hb); clear HO_5; clear HO_8; clear HO174; clear HB; have HO_5 := n0_; have HO_8 := n1_; have HO174 := n2_; have HO177 := n3_; have HB := n4_; clear n0_ n1_ n2_ n3_ n4_; clear hb ho30; obtain ⟨Ao32, co32, eo32⟩ := Kd.R_slice HO_5.out; subst eo32) | ((with_reducible refine gate_builtin (b := .append) (xs := #[.tmp 62, .tmp 63]) rfl ?_); (try (refine gate_guard (by rfl) ?_; dsimp only)); at_builtin; refine Kd.R_append_rows k38 (w0 := w) w.heap.size rfl (.tmp 62) (.tmp 63) 23 38 (.agg #[(.int .i64 0), (.string ⟨#[]⟩), (.string ⟨#[]⟩)]) 40 rfl Tryd.underlying23 info38 rfl (by decide) (by omega) v176 y175 t156 _ _ _ (fun k_ => some k_ ≠ (.slice Ao32 t156.length co32 : Value).ownBlock ∧ some k_ ≠ (v166 : Value).ownBlock ∧ some k_ ≠ (v173 : Value).ownBlock) (fun _ => False) rfl rfl ?aO ?aR (fun _ _ h => h) (fun _ h => h.elim) ?aF ?aB ?aS ?aL ?_; (case aR => repeat (first | exact (Kd.R_reads' HO_5.out).2.2 | (with_reducible refine Kd.C_alloc ?_ _) | (with_reducible refine Kd.C_drewN ?_ _) | (with_reducible refine Kd.C_drew ?_))); (case aB => exact (by repeat (first | (with_reducible first | exact HB.out | apply below_alloc | apply pw_below_drewN | apply below_drew1) | exact HB.out))); (case aF => exact (fun k_ hk => ⟨Kd.fresh' (Kd.R_lt (by (with_reducible repeat (first | apply Kd.R_alloc | apply Kd.R_drewN | apply Kd.R_drew)); exact HO_5.out)) k_ hk, Kd.fresh' (Kd.R_lt (by (with_reducible repeat (first | apply Kd.R_alloc | apply Kd.R_drewN | apply Kd.R_drew)); exact HO_8.out)) k_ hk, Kd.fresh' (Kd.R_lt (by (with_reducible repeat (first | apply Kd.R_alloc | apply Kd.R_drewN | apply Kd.R_drew)); exact HO174.out)) k_ hk⟩)); (case aO => exact (by (with_reducible repeat (first | apply Kd.R_alloc | apply Kd.R_drewN | apply Kd.R_drew)); exact Kd.R_mono HO177.out (fun _ hk => ⟨hk.1.1.2, ⟨hk.1.2, hk.2⟩⟩))); (case aS => exact (below_size (by repeat (first | (with_reducible first | exact HB.out | apply below_alloc | apply pw_below_drewN | apply below_drew1) | exact HB.out)))); (case aL => have := LMc25.out; omega); intro v179 w31 ho hb hg hat; rw [← Ny178.out] at ho; have n0_ := Aside0.mk (Kd.R_after (ok := (fun k_ => some k_ ≠ (v166 : Value).ownBlock ∧ some k_ ≠ (v173 : Value).ownBlock)) (by (with_reducible repeat (first | apply Kd.R_alloc | apply Kd.R_drewN | apply Kd.R_drew)); exact HO_5.out) hg hat); have n1_ := Aside0.mk (Kd.R_after (ok := (fun k_ => some k_ ≠ (.slice Ao32 t156.length co32 : Value).ownBlock ∧ some k_ ≠ (v173 : Value).ownBlock)) (by (with_reducible repeat (first | apply Kd.R_alloc | apply Kd.R_drewN | apply Kd.R_drew)); exact HO_8.out) hg hat); have n2_ := Aside0.mk (Kd.R_after (ok := (fun k_ => some k_ ≠ (.slice Ao32 t156.length co32 : Value).ownBlock ∧ some k_ ≠ (v166 : Value).ownBlock)) (by (with_reducible repeat (first | apply Kd.R_alloc | apply Kd.R_drewN | apply Kd.R_drew)); exact Kd.R_mono HO174.out (fun _ hk => ⟨⟨hk.1.1.2, hk.1.2⟩, hk.2⟩)) hg hat); have n3_ := Aside0.mk (hb); have n4_ := Aside0.mk (ho); clear HO_5; clear HO_8; clear HO174; clear HB; clear HO177; have HO_5 := n0_; have HO_8 := n1_; have HO174 := n2_; have HB := n3_; have HO180 := n4_; clear n0_ n1_ n2_ n3_ n4_; clear ho hb hg hat; obtain ⟨Ao34, co34, eo34⟩ := Kd.R_slice HO_8.out; subst eo34) | ((with_reducible refine gate_builtin (b := .append) (xs := #[.tmp 64, .tmp 65]) rfl ?_); (try (refine gate_guard (by rfl) ?_; dsimp only)); at_builtin; refine Kd.R_append_rows k38 (w0 := w) w.heap.size rfl (.tmp 64) (.tmp 65) 23 38 (.agg #[(.int .i64 0), (.string ⟨#[]⟩), (.string ⟨#[]⟩)]) 40 rfl Tryd.underlying23 info38 rfl (by decide) (by omega) v179 y178 t163 _ _ _ (fun k_ => some k_ ≠ (.slice Ao32 t156.length co32 : Value).ownBlock ∧ some k_ ≠ (.slice Ao34 t163.length co34 : Value).ownBlock ∧ some k_ ≠ (v173 : Value).ownBlock) (fun _ => False) rfl rfl ?aO ?aR (fun _ _ h => h) (fun _ h => h.elim) ?aF ?aB ?aS ?aL ?_; (case aR => repeat (first | exact (Kd.R_reads' HO_8.out).2.2 | (with_reducible refine Kd.C_alloc ?_ _) | (with_reducible refine Kd.C_drewN ?_ _) | (with_reducible refine Kd.C_drew ?_))); (case aB => exact (by repeat (first | (with_reducible first | exact HB.out | apply below_alloc | apply pw_below_drewN | apply below_drew1) | exact HB.out))); (case aF => exact (fun k_ hk => ⟨Kd.fresh' (Kd.R_lt (by (with_reducible repeat (first | apply Kd.R_alloc | apply Kd.R_drewN | apply Kd.R_drew)); exact HO_5.out)) k_ hk, Kd.fresh' (Kd.R_lt (by (with_reducible repeat (first | apply Kd.R_alloc | apply Kd.R_drewN | apply Kd.R_drew)); exact HO_8.out)) k_ hk, Kd.fresh' (Kd.R_lt (by (with_reducible repeat (first | apply Kd.R_alloc | apply Kd.R_drewN | apply Kd.R_drew)); exact HO174.out)) k_ hk⟩)); (case aO => exact (by (with_reducible repeat (first | apply Kd.R_alloc | apply Kd.R_drewN | apply Kd.R_drew)); exact HO180.out)); (case aS => exact (below_size (by repeat (first | (with_reducible first | exact HB.out | apply below_alloc | apply pw_below_drewN | apply below_drew1) | exact HB.out)))); (case aL => have := LMc26.out; omega); intro v182 w33 ho hb hg hat; rw [← Ny181.out] at ho; have n0_ := Aside0.mk (Kd.R_after (ok := (fun k_ => some k_ ≠ (.slice Ao34 t163.length co34 : Value).ownBlock ∧ some k_ ≠ (v173 : Value).ownBlock)) (by (with_reducible repeat (first | apply Kd.R_alloc | apply Kd.R_drewN | apply Kd.R_drew)); exact HO_5.out) hg hat); have n1_ := Aside0.mk (Kd.R_after (ok := (fun k_ => some k_ ≠ (.slice Ao32 t156.length co32 : Value).ownBlock ∧ some k_ ≠ (v173 : Value).ownBlock)) (by (with_reducible repeat (first | apply Kd.R_alloc | apply Kd.R_drewN | apply Kd.R_drew)); exact HO_8.out) hg hat); have n2_ := Aside0.mk (Kd.R_after (ok := (fun k_ => some k_ ≠ (.slice Ao32 t156.length co32 : Value).ownBlock ∧ some k_ ≠ (.slice Ao34 t163.length co34 : Value).ownBlock)) (by (with_reducible repeat (first | apply Kd.R_alloc | apply Kd.R_drewN | apply Kd.R_drew)); exact HO174.out) hg hat); have n3_ := Aside0.mk (hb); have n4_ := Aside0.mk (ho); clear HO_5; clear HO_8; clear HO174; clear HB; clear HO180; have HO_5 := n0_; have HO_8 := n1_; have HO174 := n2_; have HB := n3_; have HO183 := n4_; clear n0_ n1_ n2_ n3_ n4_; clear ho hb hg hat; obtain ⟨Ao35, co35, eo35⟩ := Kd.R_slice HO174.out; subst eo35; obtain ⟨Ao36, co36, eo36⟩ := Kd.R_slice HO183.out; subst eo36) | (go_at_call 9; (with_reducible refine (laws_eqMatchers.calls kj9 _ _ t171 _ _ y181 t184 _ ?side1 ?side2 ?side3 ?side4 A27.out).mono ?_); (case side1 => repeat (first | exact (Kd.R_reads' HO174.out).2.2 | (with_reducible refine Kd.C_alloc ?_ _) | (with_reducible refine Kd.C_drewN ?_ _) | (with_reducible refine Kd.C_drew ?_))); (case side2 => exact (Kd.R_reads' HO174.out).2.1); (case side3 => repeat (first | exact (Kd.R_reads' HO183.out).2.2 | (with_reducible refine Kd.C_alloc ?_ _) | (with_reducible refine Kd.C_drewN ?_ _) | (with_reducible refine Kd.C_drew ?_))); (case side4 => exact (Kd.R_reads' HO183.out).2.1); rintro e w' ⟨rfl, ⟨nd, rfl⟩⟩))
                          go_ret
                          exact ⟨by first | rfl | (simp [errW_none, errW_some] <;> rfl) | (simp [*, errW_none, errW_some] <;> rfl) | (simp [*, q_isEmpty]; done) | (simp [*]; exact q_gt _ _ (by assumption)), by repeat (first | (with_reducible first | exact HB.out | apply below_alloc | apply pw_below_drewN | apply below_drew1) | exact HB.out)⟩
                        · rw [if_neg c26] at H
                          exact absurd H (by simp)
                      · rw [if_neg c25] at H
                        exact absurd H (by simp)
                    · replace c24 := Bool.eq_false_iff.mpr c24
                      subst c24
                      have H1 : (some false) = some r := by rw [if_neg (show ¬ (false = true) by decide)] at H; exact H
                      clear H
                      have H := H1
                      clear H1
                      obtain rfl := Option.some.inj H
                      go_wp2_with (first | ((with_reducible refine gate_callee (f := 8) rfl ?_); refine goesL_ (some 56) rfl rfl Tryd.func8 (by kernel_rfl) rfl #[.string ((a0 ++ (⟨#[44]⟩ : ByteArray)) ++ a1)] rfl (by (try simp only [List.map_toArray, List.map_cons, List.map_nil]); first | done | rfl | (simp only [List.length_drop, List.length_take]; rfl)) ?_; (with_reducible refine (impl_ParseMatchers.calls ((a0 ++ (⟨#[44]⟩ : ByteArray)) ++ a1) t171 false _ (TBq.below TB0.out (by repeat (first | (with_reducible first | exact HB.out | apply below_alloc | apply pw_below_drewN | apply below_drew1 | refine below_set ?_ (Aside0.out (by assumption))) | exact HB.out))) A23.out).mono ?_); rintro e w37 ⟨v173, rfl, ho0, hb⟩; refine ⟨_, rfl, ?_⟩; have n0_ := Aside0.mk (Kd.R_elder' (by (with_reducible repeat (first | apply Kd.R_alloc | apply Kd.R_drewN | apply Kd.R_drew)); exact HO_5.out) (Kd.R_base ho0) hb); have n1_ := Aside0.mk (Kd.R_elder' (by (with_reducible repeat (first | apply Kd.R_alloc | apply Kd.R_drewN | apply Kd.R_drew)); exact HO_8.out) (Kd.R_base ho0) hb); have n2_ := Aside0.mk (Kd.R_lower (Kd.R_new' (Kd.R_new' ho0 (Kd.R_lt (by (with_reducible repeat (first | apply Kd.R_alloc | apply Kd.R_drewN | apply Kd.R_drew)); exact HO_5.out))) (Kd.R_lt (by (with_reducible repeat (first | apply Kd.R_alloc | apply Kd.R_drewN | apply Kd.R_drew)); exact HO_8.out))) (below_size (by repeat (first | (with_reducible first | exact HB.out | apply below_alloc | apply pw_below_drewN | apply below_drew1) | exact HB.out)))); have n3_ := Aside0.mk (below_step (by repeat (first | (with_reducible first | exact HB.out | apply below_alloc | apply pw_below_drewN | apply below_drew1) | exact HB.out)) hb); clear HO_5; clear HO_8; clear HB; have HO_5 := n0_; have HO_8 := n1_; have HO174 := n2_; have HB := n3_; clear n0_ n1_ n2_ n3_; (try clear hb); (try clear hb2); (try clear hk); (try clear hi); (try clear ho0)))
                      go_ret
                      exact ⟨by first | rfl | (simp [errW_none, errW_some] <;> rfl) | (simp [*, errW_none, errW_some] <;> rfl) | (simp [*, q_isEmpty]; done) | (simp [*]; exact q_gt _ _ (by assumption)), by repeat (first | (with_reducible first | exact HB.out | apply below_alloc | apply pw_below_drewN | apply below_drew1) | exact HB.out)⟩
                  · rw [if_neg c22] at H
                    exact absurd H (by simp)
                · rw [if_neg c21] at H
                  exact absurd H (by simp)
        · replace c7 := Bool.eq_false_iff.mpr c7
          subst c7
          have H1 : (some false) = some r := by rw [if_neg (show ¬ (false = true) by decide)] at H; exact H
          clear H
          have H := H1
          clear H1
          obtain rfl := Option.some.inj H
          go_wp2_with (first | ((with_reducible refine gate_callee (f := 6) rfl ?_); refine goesL_ (some 21) rfl rfl Tryd.func6 (by kernel_rfl) rfl #[] rfl (by (try simp only [List.map_toArray, List.map_cons, List.map_nil]); first | done | rfl | (simp only [List.length_drop, List.length_take]; rfl)) ?_; (with_reducible refine (laws_one.calls  false _ (TBq.below TB0.out (by repeat (first | (with_reducible first | exact HB.out | apply below_alloc | apply pw_below_drewN | apply below_drew1 | refine below_set ?_ (Aside0.out (by assumption))) | exact HB.out))) A6.out).mono ?_); rintro e w38 ⟨rfl, hb⟩; refine ⟨_, rfl, ?_⟩; have n0_ := Aside0.mk (below_step (by repeat (first | (with_reducible first | exact HB.out | apply below_alloc | apply pw_below_drewN | apply below_drew1) | exact HB.out)) hb); clear HB; have HB := n0_; clear n0_; (try clear hb); (try clear hb2); (try clear hk); (try clear hi)))
          go_ret
          exact ⟨by first | rfl | (simp [errW_none, errW_some] <;> rfl) | (simp [*, errW_none, errW_some] <;> rfl) | (simp [*, q_isEmpty]; done) | (simp [*]; exact q_gt _ _ (by assumption)), by repeat (first | (with_reducible first | exact HB.out | apply below_alloc | apply pw_below_drewN | apply below_drew1) | exact HB.out)⟩

end Go.Proofs.YtblcgkkncoojeaaDoor.Q
