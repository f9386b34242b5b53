-- Printed for this seat by wip/pp.py of this repo; nothing here is trusted: Lean checks it.
import Derived.Test.YtnnhehlieakedaaGreatDoorHTabQR
import Derived.Test.YtnnhehlieakedaaGreatDoorQ0
import Derived.Test.YtnnhehlieakedaaGreatDoorHParseM
import Derived.Test.YtnnhehlieakedaaGreatDoorHPrM
import Derived.Test.YtnnhehlieakedaaGreatDoorQlawseqMatchers
import Derived.Test.YtnnhehlieakedaaGreatDoorQlawshas
import Derived.Test.YtnnhehlieakedaaGreatDoorQlawslong
import Derived.Test.YtnnhehlieakedaaGreatDoorQlawsone
namespace Go.Proofs.YtnnhehlieakedaaGreatDoor.Q
open Go.RowKit Go.Proofs.YtnnhehlieakedaaGreatDoorW.PrintWords Go.Proofs.YtnnhehlieakedaaGreatDoorW.PrintLast Go.Proofs.YtnnhehlieakedaaGreatDoorW.PrintMore
attribute [local go_sem] max2_int min2_int max_two min_two max_three min_three max_four min_four   -- for this text's walks alone
set_option linter.unusedVariables false
set_option linter.unusedSimpArgs false

/-! ### laws_FnReadPrinted: function 4 -/
mutual
def laws_FnReadPrinted.j0 : Nat → ByteArray → Bool → Option (Bool)
  | 0, _, _ => none
  | k + 1, x0, x18 => if x18 = true then (some true) else ((impl_ParseMatchers.f x0).bind fun bt248 => (if bt248.2 = true then ((laws_allPlain.f bt248.1).bind fun t252 => (laws_FnReadPrinted.j1 k bt248.1 (!t252))) else (laws_FnReadPrinted.j1 k bt248.1 true)))
def laws_FnReadPrinted.j1 : Nat → List (S25) → Bool → Option (Bool)
  | 0, _, _ => none
  | k + 1, x3, x30 => if x30 = true then (some true) else ((impl_PrintMatchers.f x3).bind fun t253 => ((impl_ParseMatchers.f t253).bind fun bt254 => (if bt254.2 = true then ((laws_eqMatchers.f k bt254.1 x3).bind fun t258 => (if t258 = true then ((impl_PrintMatchers.f bt254.1).bind fun t259 => (some (t259.toList == t253.toList))) else (some false))) else (some false))))
end
def laws_FnReadPrinted.f (k : Nat) (a0 : ByteArray) : Option (Bool) := if (a0.size : Int) > 2147483647 then (some true) else ((laws_one.f).bind fun t245 => (if t245 = true then ((laws_long.f a0).bind fun t246 => (if t246 = true then (laws_FnReadPrinted.j0 k a0 true) else ((laws_has.f k a0 126).bind fun t247 => (laws_FnReadPrinted.j0 k a0 t247)))) else (some false)))
theorem laws_FnReadPrinted.mono_l : ∀ k, (∀ y0 y1, LeO (laws_FnReadPrinted.j0 k y0 y1) (laws_FnReadPrinted.j0 (k + 1) y0 y1)) ∧ (∀ y0 y1, LeO (laws_FnReadPrinted.j1 k y0 y1) (laws_FnReadPrinted.j1 (k + 1) y0 y1))
  | 0 => ⟨fun _ _ r h => by simp [laws_FnReadPrinted.j0] at h, fun _ _ r h => by simp [laws_FnReadPrinted.j1] at h⟩
  | k + 1 => by
    obtain ⟨ih0, ih1⟩ := laws_FnReadPrinted.mono_l k
    refine ⟨?_, ?_⟩
    · intro y0 y1
      unfold laws_FnReadPrinted.j0
      repeat' first
      | (with_reducible exact ih0 _ _)
      | (with_reducible exact ih1 _ _)
      | (with_reducible exact laws_eqMatchers.mono _ _ _)
      | (with_reducible exact laws_has.mono _ _ _)
      | (with_reducible exact LeO.refl _)
      | (with_reducible exact LeO.none _)
      | (with_reducible refine LeO.ite ?_ ?_)
      | (with_reducible refine LeO.bind ?_ (fun _ => ?_))
      | exact ih0 _ _
      | exact ih1 _ _
      | exact laws_eqMatchers.mono _ _ _
      | exact laws_has.mono _ _ _
      | exact LeO.none _
      | refine LeO.ite ?_ ?_
      | refine LeO.bind ?_ (fun _ => ?_)
    · intro y0 y1
      unfold laws_FnReadPrinted.j1
      repeat' first
      | (with_reducible exact ih0 _ _)
      | (with_reducible exact ih1 _ _)
      | (with_reducible exact laws_eqMatchers.mono _ _ _)
      | (with_reducible exact laws_has.mono _ _ _)
      | (with_reducible exact LeO.refl _)
      | (with_reducible exact LeO.none _)
      | (with_reducible refine LeO.ite ?_ ?_)
      | (with_reducible refine LeO.bind ?_ (fun _ => ?_))
      | exact ih0 _ _
      | exact ih1 _ _
      | exact laws_eqMatchers.mono _ _ _
      | exact laws_has.mono _ _ _
      | exact LeO.none _
      | refine LeO.ite ?_ ?_
      | refine LeO.bind ?_ (fun _ => ?_)
theorem laws_FnReadPrinted.mono : ∀ a0 k, LeO (laws_FnReadPrinted.f k a0) (laws_FnReadPrinted.f (k + 1) a0) := by
  intro a0 k
  obtain ⟨ih0, ih1⟩ := laws_FnReadPrinted.mono_l k
  unfold laws_FnReadPrinted.f
  repeat' first
      | (with_reducible exact ih0 _ _)
      | (with_reducible exact ih1 _ _)
      | (with_reducible exact laws_eqMatchers.mono _ _ _)
      | (with_reducible exact laws_has.mono _ _ _)
      | (with_reducible exact LeO.refl _)
      | (with_reducible exact LeO.none _)
      | (with_reducible refine LeO.ite ?_ ?_)
      | (with_reducible refine LeO.bind ?_ (fun _ => ?_))
      | exact ih0 _ _
      | exact ih1 _ _
      | exact laws_eqMatchers.mono _ _ _
      | exact laws_has.mono _ _ _
      | exact LeO.none _
      | refine LeO.ite ?_ ?_
      | refine LeO.bind ?_ (fun _ => ?_)
set_option maxHeartbeats 8000000 in
set_option maxRecDepth 100000 in
theorem laws_FnReadPrinted.calls (k : Nat) (a0 : ByteArray) (r : Bool) (w : World) (tb : TBr w) (h : laws_FnReadPrinted.f k a0 = some r) :
    Calls Tryz.prog 4 #[.string a0] w fun e w' => e = .returned (.bool r) ∧ Below w.heap.size w w' := by
  have HB := Aside0.mk (Below.refl w.heap.size w)
  have TB0 := Aside0.mk tb
  clear tb
  have H : (if (a0.size : Int) > 2147483647 then (some true) else ((laws_one.f).bind fun t245 => (if t245 = true then ((laws_long.f a0).bind fun t246 => (if t246 = true then (laws_FnReadPrinted.j0 k a0 true) else ((laws_has.f k a0 126).bind fun t247 => (laws_FnReadPrinted.j0 k a0 t247)))) else (some false)))) = some r := h
  clear h
  by_cases c2 : (a0.size : Int) > 2147483647
  · rw [if_pos c2] at H
    have c2b0 : decide (2147483647 < (a0.size : Int)) = true := decide_eq_true c2
    have c2b1 : decide (2147483647 < a0.size) = true := decide_eq_true (by omega)
    clear c2
    obtain rfl := Option.some.inj H
    go_enter Tryz.func4, Tryz.ntmps4
    go_wp2
    go_ret
    exact ⟨by first | rfl | (simp [errW_none, errW_some] <;> rfl) | (simp [*, errW_none, errW_some] <;> rfl) | (simp [*, q_isEmpty]; done) | (simp [*]; exact q_gt _ _ (by assumption)), by repeat (first | (with_reducible first | exact HB.out | apply below_alloc | apply pw_below_drewN | apply below_drew1) | exact HB.out)⟩
  · rw [if_neg c2] at H
    have c2b0 : decide (2147483647 < (a0.size : Int)) = false := decide_eq_false c2
    have c2b1 : decide (2147483647 < a0.size) = false := decide_eq_false (by omega)
    clear c2
    replace H := Option.bind_eq_some_iff.mp H
    obtain ⟨t245, A30, H⟩ := H
    replace H : (if t245 = true then ((laws_long.f a0).bind fun t246 => (if t246 = true then (laws_FnReadPrinted.j0 k a0 true) else ((laws_has.f k a0 126).bind fun t247 => (laws_FnReadPrinted.j0 k a0 t247)))) else (some false)) = some r := H
    have A3 := Aside0.mk A30
    clear A30
    by_cases c4 : t245 = true
    · subst c4
      have H1 : ((laws_long.f a0).bind fun t246 => (if t246 = true then (laws_FnReadPrinted.j0 k a0 true) else ((laws_has.f k a0 126).bind fun t247 => (laws_FnReadPrinted.j0 k a0 t247)))) = some r := by rw [if_pos rfl] at H; exact H
      clear H
      have H := H1
      clear H1
      have HC5 := Aside0.mk H
      clear H
      go_enter Tryz.func4, Tryz.ntmps4
      go_upto_region 5 with (first | ((with_reducible refine gate_callee (f := 7) rfl ?_); refine goesL_ (some 11) rfl rfl Tryz.func7 (by kernel_rfl) rfl #[] rfl (by (try simp only [List.map_toArray, List.map_cons, List.map_nil]); first | done | rfl | (simp only [List.length_drop, List.length_take]; rfl)) ?_; (with_reducible refine (laws_one.calls  true _ (TBr.q TB0.out (by repeat (first | (with_reducible first | exact HB.out | apply below_alloc | apply pw_below_drewN | apply below_drew1 | refine below_set ?_ (Aside0.out (by assumption))) | exact HB.out))) A3.out).mono ?_); rintro e w6 ⟨rfl, hb⟩; refine ⟨_, rfl, ?_⟩; have n0_ := Aside0.mk (below_step (by repeat (first | (with_reducible first | exact HB.out | apply below_alloc | apply pw_below_drewN | apply below_drew1) | exact HB.out)) hb); clear HB; have HB := n0_; clear n0_; (try clear hb); (try clear hb2); (try clear hk); (try clear hi)))
      (try simp only [Act.put, List.setIfInBounds_toArray, List.set_cons_zero, List.set_cons_succ])
      go_cut [18] (fun v18 wc => ∃ (kq : Nat) (x18_4 : Bool), v18 = .bool x18_4 ∧ Aside0 (laws_FnReadPrinted.j0 kq a0 x18_4 = some r) ∧ Aside0 (kq ≤ k) ∧ Aside0 (Below w.heap.size w wc))
      case first =>
        have H := HC5.out
        clear HC5
        replace H := Option.bind_eq_some_iff.mp H
        obtain ⟨t246, A70, H⟩ := H
        replace H : (if t246 = true then (laws_FnReadPrinted.j0 k a0 true) else ((laws_has.f k a0 126).bind fun t247 => (laws_FnReadPrinted.j0 k a0 t247))) = some r := H
        have A7 := Aside0.mk A70
        clear A70
        by_cases c8 : t246 = true
        · subst c8
          have H1 : (laws_FnReadPrinted.j0 k a0 true) = some r := by rw [if_pos rfl] at H; exact H
          clear H
          have H := H1
          clear H1
          have H' := Aside0.mk H
          clear H
          go_wp2_with (first | ((with_reducible refine gate_callee (f := 11) rfl ?_); refine goesL_ (some 14) rfl rfl Tryz.func11 (by kernel_rfl) rfl #[.string a0] rfl (by (try simp only [List.map_toArray, List.map_cons, List.map_nil]); first | done | rfl | (simp only [List.length_drop, List.length_take]; rfl)) ?_; (with_reducible refine (laws_long.calls a0 true _ A7.out).mono ?_); rintro e w' ⟨rfl, ⟨nd, rfl⟩⟩; refine ⟨_, rfl, ?_⟩))
          go_meet
          case rel => exact ⟨_, (true), (by first | rfl | (simp; done) | (simp [*]; done) | (simp [*, q_isEmpty]; done) | (simp [*]; exact q_gt _ _ (by assumption))), H', ⟨by first | omega | exact Nat.le_refl _⟩, ⟨by repeat (first | (with_reducible first | exact HB.out | apply below_alloc | apply pw_below_drewN | apply below_drew1) | exact HB.out)⟩⟩
        · replace c8 := Bool.eq_false_iff.mpr c8
          subst c8
          have H1 : ((laws_has.f k a0 126).bind fun t247 => (laws_FnReadPrinted.j0 k a0 t247)) = some r := by rw [if_neg (show ¬ (false = true) by decide)] at H; exact H
          clear H
          have H := H1
          clear H1
          replace H := Option.bind_eq_some_iff.mp H
          obtain ⟨t247, A90, H⟩ := H
          replace H : (laws_FnReadPrinted.j0 k a0 t247) = some r := H
          have A9 := Aside0.mk A90
          clear A90
          have H' := Aside0.mk H
          clear H
          go_wp2_with (first | ((with_reducible refine gate_callee (f := 11) rfl ?_); refine goesL_ (some 14) rfl rfl Tryz.func11 (by kernel_rfl) rfl #[.string a0] rfl (by (try simp only [List.map_toArray, List.map_cons, List.map_nil]); first | done | rfl | (simp only [List.length_drop, List.length_take]; rfl)) ?_; (with_reducible refine (laws_long.calls a0 false _ A7.out).mono ?_); rintro e w' ⟨rfl, ⟨nd, rfl⟩⟩; refine ⟨_, rfl, ?_⟩) | (go_at_call 8; (with_reducible refine (laws_has.calls k a0 126 t247 _ A9.out).mono ?_); rintro e w' ⟨rfl, ⟨nd, rfl⟩⟩))
          go_meet
          case rel => exact ⟨_, (t247), (by first | rfl | (simp; done) | (simp [*]; done) | (simp [*, q_isEmpty]; done) | (simp [*]; exact q_gt _ _ (by assumption))), H', ⟨by first | omega | exact Nat.le_refl _⟩, ⟨by repeat (first | (with_reducible first | exact HB.out | apply below_alloc | apply pw_below_drewN | apply below_drew1) | exact HB.out)⟩⟩
      case rest =>
        clear HC5
        try clear c1
        try clear c2
        try clear c2b0
        try clear c2b1
        try clear p2
        try clear c4
        try clear c7
        try clear c8
        obtain ⟨kq, x18_4, rfl, HA, HJ4, HB⟩ := hcut
        cases kq with
        | zero => exact absurd HA.out (by simp [laws_FnReadPrinted.j0])
        | succ kj4 =>
          have H := HA.out
          clear HA
          simp only [laws_FnReadPrinted.j0] at H
          by_cases c10 : x18_4 = true
          · subst c10
            have H1 : (some true) = some r := by rw [if_pos rfl] at H; exact H
            clear H
            have H := H1
            clear H1
            obtain rfl := Option.some.inj H
            go_wp2
            go_ret
            exact ⟨by first | rfl | (simp [errW_none, errW_some] <;> rfl) | (simp [*, errW_none, errW_some] <;> rfl) | (simp [*, q_isEmpty]; done) | (simp [*]; exact q_gt _ _ (by assumption)), by repeat (first | (with_reducible first | exact HB.out | apply below_alloc | apply pw_below_drewN | apply below_drew1) | exact HB.out)⟩
          · replace c10 := Bool.eq_false_iff.mpr c10
            subst c10
            have H1 : ((impl_ParseMatchers.f a0).bind fun bt248 => (if bt248.2 = true then ((laws_allPlain.f bt248.1).bind fun t252 => (laws_FnReadPrinted.j1 kj4 bt248.1 (!t252))) else (laws_FnReadPrinted.j1 kj4 bt248.1 true))) = some r := by rw [if_neg (show ¬ (false = true) by decide)] at H; exact H
            clear H
            have H := H1
            clear H1
            replace H := Option.bind_eq_some_iff.mp H
            obtain ⟨⟨t248, t249⟩, A110, H⟩ := H
            replace H : (if t249 = true then ((laws_allPlain.f t248).bind fun t252 => (laws_FnReadPrinted.j1 kj4 t248 (!t252))) else (laws_FnReadPrinted.j1 kj4 t248 true)) = some r := H
            have A11 := Aside0.mk A110
            clear A110
            have HC12 := Aside0.mk H
            clear H
            go_upto_region 8 with (first | ((with_reducible refine gate_callee (f := 12) rfl ?_); refine goesL_ (some 21) rfl rfl Tryz.func12 (by kernel_rfl) rfl #[.string a0] rfl (by (try simp only [List.map_toArray, List.map_cons, List.map_nil]); first | done | rfl | (simp only [List.length_drop, List.length_take]; rfl)) ?_; (with_reducible refine (impl_ParseMatchers.calls a0 t248 t249 _ (TBr.q TB0.out (by repeat (first | (with_reducible first | exact HB.out | apply below_alloc | apply pw_below_drewN | apply below_drew1 | refine below_set ?_ (Aside0.out (by assumption))) | exact HB.out))) A11.out).mono ?_); rintro e w13 ⟨v250, rfl, ho0, hb⟩; refine ⟨_, rfl, ?_⟩; have n0_ := Aside0.mk (Kd.R_lower ho0 (below_size (by repeat (first | (with_reducible first | exact HB.out | apply below_alloc | apply pw_below_drewN | apply below_drew1) | exact HB.out)))); have n1_ := Aside0.mk (below_step (by repeat (first | (with_reducible first | exact HB.out | apply below_alloc | apply pw_below_drewN | apply below_drew1) | exact HB.out)) hb); clear HB; have HO251 := n0_; have HB := n1_; clear n0_ n1_; (try clear hb); (try clear hb2); (try clear hk); (try clear hi); (try clear ho0)))
            (try simp only [Act.put, List.setIfInBounds_toArray, List.set_cons_zero, List.set_cons_succ])
            go_cut [30] (fun v30 wc => ∃ (kq : Nat) (x30_11 : Bool), v30 = .bool x30_11 ∧ Aside0 (laws_FnReadPrinted.j1 kq t248 x30_11 = some r) ∧ Aside0 (kq ≤ kj4) ∧ Aside0 (Kd.R k25 25 wc w.heap.size (fun _ => True) v250 t248) ∧ Aside0 (Below w.heap.size w wc))
            case first =>
              have H := HC12.out
              clear HC12
              by_cases c14 : t249 = true
              · subst c14
                have H1 : ((laws_allPlain.f t248).bind fun t252 => (laws_FnReadPrinted.j1 kj4 t248 (!t252))) = some r := by rw [if_pos rfl] at H; exact H
                clear H
                have H := H1
                clear H1
                replace H := Option.bind_eq_some_iff.mp H
                obtain ⟨t252, A150, H⟩ := H
                replace H : (laws_FnReadPrinted.j1 kj4 t248 (!t252)) = some r := H
                have A15 := Aside0.mk A150
                clear A150
                have H' := Aside0.mk H
                clear H
                obtain ⟨Ao16, co16, eo16⟩ := Kd.R_slice HO251.out
                subst eo16
                go_wp2_with (first | (go_at_call 13; (with_reducible refine (laws_allPlain.calls _ _ t248 t252 _ ?side1 ?side2 A15.out).mono ?_); (case side1 => repeat (first | exact (Kd.R_reads' HO251.out).2.2 | (with_reducible refine Kd.C_alloc ?_ _) | (with_reducible refine Kd.C_drewN ?_ _) | (with_reducible refine Kd.C_drew ?_))); (case side2 => exact (Kd.R_reads' HO251.out).2.1); rintro e w17 ⟨rfl, hb⟩; have n0_ := Aside0.mk (Kd.R_below (by (with_reducible repeat (first | apply Kd.R_alloc | apply Kd.R_drewN | apply Kd.R_drew)); exact HO251.out) hb); have n1_ := Aside0.mk (below_step (by repeat (first | (with_reducible first | exact HB.out | apply below_alloc | apply pw_below_drewN | apply below_drew1) | exact HB.out)) hb); clear HO251; clear HB; have HO251 := n0_; have HB := n1_; clear n0_ n1_; (try clear hb); (try clear hb2); (try clear hk); (try clear hi)))
                go_meet
                case rel => exact ⟨_, (!t252), (by first | rfl | (simp; done) | (simp [*]; done) | (simp [*, q_isEmpty]; done) | (simp [*]; exact q_gt _ _ (by assumption))), H', ⟨by have := HJ4.out; first | omega | exact Nat.le_refl _⟩, ⟨by (with_reducible repeat (first | apply Kd.R_alloc | apply Kd.R_drewN | apply Kd.R_drew)); exact HO251.out⟩, ⟨by repeat (first | (with_reducible first | exact HB.out | apply below_alloc | apply pw_below_drewN | apply below_drew1) | exact HB.out)⟩⟩
              · replace c14 := Bool.eq_false_iff.mpr c14
                subst c14
                have H1 : (laws_FnReadPrinted.j1 kj4 t248 true) = some r := by rw [if_neg (show ¬ (false = true) by decide)] at H; exact H
                clear H
                have H := H1
                clear H1
                have H' := Aside0.mk H
                clear H
                go_wp2
                go_meet
                case rel => exact ⟨_, (true), (by first | rfl | (simp; done) | (simp [*]; done) | (simp [*, q_isEmpty]; done) | (simp [*]; exact q_gt _ _ (by assumption))), H', ⟨by have := HJ4.out; first | omega | exact Nat.le_refl _⟩, ⟨by (with_reducible repeat (first | apply Kd.R_alloc | apply Kd.R_drewN | apply Kd.R_drew)); exact HO251.out⟩, ⟨by repeat (first | (with_reducible first | exact HB.out | apply below_alloc | apply pw_below_drewN | apply below_drew1) | exact HB.out)⟩⟩
            case rest =>
              clear HC12
              try clear c1
              try clear c2
              try clear c2b0
              try clear c2b1
              try clear p2
              try clear c4
              try clear c7
              try clear c8
              try clear c10
              try clear c11
              try clear c12
              try clear c14
              try clear p2
              obtain ⟨kq, x30_11, rfl, HA, HJ11, HO_3, HB⟩ := hcut
              cases kq with
              | zero => exact absurd HA.out (by simp [laws_FnReadPrinted.j1])
              | succ kj11 =>
                have H := HA.out
                clear HA
                simp only [laws_FnReadPrinted.j1] at H
                by_cases c18 : x30_11 = true
                · subst c18
                  have H1 : (some true) = some r := by rw [if_pos rfl] at H; exact H
                  clear H
                  have H := H1
                  clear H1
                  obtain rfl := Option.some.inj H
                  go_wp2
                  go_ret
                  exact ⟨by first | rfl | (simp [errW_none, errW_some] <;> rfl) | (simp [*, errW_none, errW_some] <;> rfl) | (simp [*, q_isEmpty]; done) | (simp [*]; exact q_gt _ _ (by assumption)), by repeat (first | (with_reducible first | exact HB.out | apply below_alloc | apply pw_below_drewN | apply below_drew1) | exact HB.out)⟩
                · replace c18 := Bool.eq_false_iff.mpr c18
                  subst c18
                  have H1 : ((impl_PrintMatchers.f t248).bind fun t253 => ((impl_ParseMatchers.f t253).bind fun bt254 => (if bt254.2 = true then ((laws_eqMatchers.f kj11 bt254.1 t248).bind fun t258 => (if t258 = true then ((impl_PrintMatchers.f bt254.1).bind fun t259 => (some (t259.toList == t253.toList))) else (some false))) else (some false)))) = some r := by rw [if_neg (show ¬ (false = true) by decide)] at H; exact H
                  clear H
                  have H := H1
                  clear H1
                  replace H := Option.bind_eq_some_iff.mp H
                  obtain ⟨t253, A190, H⟩ := H
                  replace H : ((impl_ParseMatchers.f t253).bind fun bt254 => (if bt254.2 = true then ((laws_eqMatchers.f kj11 bt254.1 t248).bind fun t258 => (if t258 = true then ((impl_PrintMatchers.f bt254.1).bind fun t259 => (some (t259.toList == t253.toList))) else (some false))) else (some false))) = some r := H
                  have A19 := Aside0.mk A190
                  clear A190
                  replace H := Option.bind_eq_some_iff.mp H
                  obtain ⟨⟨t254, t255⟩, A200, H⟩ := H
                  replace H : (if t255 = true then ((laws_eqMatchers.f kj11 t254 t248).bind fun t258 => (if t258 = true then ((impl_PrintMatchers.f t254).bind fun t259 => (some (t259.toList == t253.toList))) else (some false))) else (some false)) = some r := H
                  have A20 := Aside0.mk A200
                  clear A200
                  by_cases c21 : t255 = true
                  · subst c21
                    have H1 : ((laws_eqMatchers.f kj11 t254 t248).bind fun t258 => (if t258 = true then ((impl_PrintMatchers.f t254).bind fun t259 => (some (t259.toList == t253.toList))) else (some false))) = some r := by rw [if_pos rfl] at H; exact H
                    clear H
                    have H := H1
                    clear H1
                    replace H := Option.bind_eq_some_iff.mp H
                    obtain ⟨t258, A220, H⟩ := H
                    replace H : (if t258 = true then ((impl_PrintMatchers.f t254).bind fun t259 => (some (t259.toList == t253.toList))) else (some false)) = some r := H
                    have A22 := Aside0.mk A220
                    clear A220
                    by_cases c23 : t258 = true
                    · subst c23
                      have H1 : ((impl_PrintMatchers.f t254).bind fun t259 => (some (t259.toList == t253.toList))) = some r := by rw [if_pos rfl] at H; exact H
                      clear H
                      have H := H1
                      clear H1
                      replace H := Option.bind_eq_some_iff.mp H
                      obtain ⟨t259, A240, H⟩ := H
                      replace H : (some (t259.toList == t253.toList)) = some r := H
                      have A24 := Aside0.mk A240
                      clear A240
                      obtain rfl := Option.some.inj H
                      obtain ⟨Ao25, co25, eo25⟩ := Kd.R_slice HO_3.out
                      subst eo25
                      go_wp2_with (first | ((with_reducible refine gate_callee (f := 14) rfl ?_); refine goesL_ (some 32) rfl rfl Tryz.func14 (by kernel_rfl) rfl #[.slice Ao25 t248.length co25] rfl (by (try simp only [List.map_toArray, List.map_cons, List.map_nil]); first | done | rfl | (simp only [List.length_drop, List.length_take]; rfl)) ?_; (with_reducible refine (impl_PrintMatchers.calls _ _ t248 t253 _ (TBr.below TB0.out (by repeat (first | (with_reducible first | exact HB.out | apply below_alloc | apply pw_below_drewN | apply below_drew1 | refine below_set ?_ (Aside0.out (by assumption))) | exact HB.out))) ?side1 ?side2 A19.out).mono ?_); (case side1 => repeat (first | exact (Kd.R_reads' HO_3.out).2.2 | (with_reducible refine Kd.C_alloc ?_ _) | (with_reducible refine Kd.C_drewN ?_ _) | (with_reducible refine Kd.C_drew ?_))); (case side2 => exact (Kd.R_reads' HO_3.out).2.1); rintro e w26 ⟨rfl, hb⟩; refine ⟨_, rfl, ?_⟩; have n0_ := Aside0.mk (Kd.R_below (by (with_reducible repeat (first | apply Kd.R_alloc | apply Kd.R_drewN | apply Kd.R_drew)); exact HO_3.out) hb); have n1_ := Aside0.mk (below_step (by repeat (first | (with_reducible first | exact HB.out | apply below_alloc | apply pw_below_drewN | apply below_drew1) | exact HB.out)) hb); clear HO_3; clear HB; have HO_3 := n0_; have HB := n1_; clear n0_ n1_; (try clear hb); (try clear hb2); (try clear hk); (try clear hi)) | ((with_reducible refine gate_callee (f := 12) rfl ?_); refine goesL_ (some 35) rfl rfl Tryz.func12 (by kernel_rfl) rfl #[.string t253] rfl (by (try simp only [List.map_toArray, List.map_cons, List.map_nil]); first | done | rfl | (simp only [List.length_drop, List.length_take]; rfl)) ?_; (with_reducible refine (impl_ParseMatchers.calls t253 t254 true _ (TBr.q TB0.out (by repeat (first | (with_reducible first | exact HB.out | apply below_alloc | apply pw_below_drewN | apply below_drew1 | refine below_set ?_ (Aside0.out (by assumption))) | exact HB.out))) A20.out).mono ?_); rintro e w27 ⟨v256, rfl, ho0, hb⟩; refine ⟨_, rfl, ?_⟩; have n0_ := Aside0.mk (Kd.R_elder' (by (with_reducible repeat (first | apply Kd.R_alloc | apply Kd.R_drewN | apply Kd.R_drew)); exact HO_3.out) (Kd.R_base ho0) hb); have n1_ := Aside0.mk (Kd.R_lower (Kd.R_new' ho0 (Kd.R_lt (by (with_reducible repeat (first | apply Kd.R_alloc | apply Kd.R_drewN | apply Kd.R_drew)); exact HO_3.out))) (below_size (by repeat (first | (with_reducible first | exact HB.out | apply below_alloc | apply pw_below_drewN | apply below_drew1) | exact HB.out)))); have n2_ := Aside0.mk (below_step (by repeat (first | (with_reducible first | exact HB.out | apply below_alloc | apply pw_below_drewN | apply below_drew1) | exact HB.out)) hb); clear HO_3; clear HB; have HO_3 := n0_; have HO257 := n1_; have HB := n2_; clear n0_ n1_ n2_; (try clear hb); (try clear hb2); (try clear hk); (try clear hi); (try clear ho0); obtain ⟨Ao28, co28, eo28⟩ := Kd.R_slice HO257.out; subst eo28) | (go_at_call 15; (with_reducible refine (laws_eqMatchers.calls kj11 _ _ t254 _ _ t248 true _ ?side1 ?side2 ?side3 ?side4 A22.out).mono ?_); (case side1 => repeat (first | exact (Kd.R_reads' HO257.out).2.2 | (with_reducible refine Kd.C_alloc ?_ _) | (with_reducible refine Kd.C_drewN ?_ _) | (with_reducible refine Kd.C_drew ?_))); (case side2 => exact (Kd.R_reads' HO257.out).2.1); (case side3 => repeat (first | exact (Kd.R_reads' HO_3.out).2.2 | (with_reducible refine Kd.C_alloc ?_ _) | (with_reducible refine Kd.C_drewN ?_ _) | (with_reducible refine Kd.C_drew ?_))); (case side4 => exact (Kd.R_reads' HO_3.out).2.1); rintro e w' ⟨rfl, ⟨nd, rfl⟩⟩) | (go_at_call 14; (with_reducible refine (impl_PrintMatchers.calls _ _ t254 t259 _ (TBr.below TB0.out (by repeat (first | (with_reducible first | exact HB.out | apply below_alloc | apply pw_below_drewN | apply below_drew1 | refine below_set ?_ (Aside0.out (by assumption))) | exact HB.out))) ?side1 ?side2 A24.out).mono ?_); (case side1 => repeat (first | exact (Kd.R_reads' HO257.out).2.2 | (with_reducible refine Kd.C_alloc ?_ _) | (with_reducible refine Kd.C_drewN ?_ _) | (with_reducible refine Kd.C_drew ?_))); (case side2 => exact (Kd.R_reads' HO257.out).2.1); rintro e w29 ⟨rfl, hb⟩; have n0_ := Aside0.mk (Kd.R_below (by (with_reducible repeat (first | apply Kd.R_alloc | apply Kd.R_drewN | apply Kd.R_drew)); exact HO_3.out) hb); have n1_ := Aside0.mk (Kd.R_below (by (with_reducible repeat (first | apply Kd.R_alloc | apply Kd.R_drewN | apply Kd.R_drew)); exact HO257.out) hb); have n2_ := Aside0.mk (below_step (by repeat (first | (with_reducible first | exact HB.out | apply below_alloc | apply pw_below_drewN | apply below_drew1) | exact HB.out)) hb); clear HO_3; clear HO257; clear HB; have HO_3 := n0_; have HO257 := n1_; have HB := n2_; clear n0_ n1_ n2_; (try clear hb); (try clear hb2); (try clear hk); (try clear hi)))
                      go_ret
                      exact ⟨by first | rfl | (simp [errW_none, errW_some] <;> rfl) | (simp [*, errW_none, errW_some] <;> rfl) | (simp [*, q_isEmpty]; done) | (simp [*]; exact q_gt _ _ (by assumption)), by repeat (first | (with_reducible first | exact HB.out | apply below_alloc | apply pw_below_drewN | apply below_drew1) | exact HB.out)⟩
                    · replace c23 := Bool.eq_false_iff.mpr c23
                      subst c23
                      have H1 : (some false) = some r := by rw [if_neg (show ¬ (false = true) by decide)] at H; exact H
                      clear H
                      have H := H1
                      clear H1
                      obtain rfl := Option.some.inj H
                      obtain ⟨Ao30, co30, eo30⟩ := Kd.R_slice HO_3.out
                      subst eo30
                      go_wp2_with (first | ((with_reducible refine gate_callee (f := 14) rfl ?_); refine goesL_ (some 32) rfl rfl Tryz.func14 (by kernel_rfl) rfl #[.slice Ao30 t248.length co30] rfl (by (try simp only [List.map_toArray, List.map_cons, List.map_nil]); first | done | rfl | (simp only [List.length_drop, List.length_take]; rfl)) ?_; (with_reducible refine (impl_PrintMatchers.calls _ _ t248 t253 _ (TBr.below TB0.out (by repeat (first | (with_reducible first | exact HB.out | apply below_alloc | apply pw_below_drewN | apply below_drew1 | refine below_set ?_ (Aside0.out (by assumption))) | exact HB.out))) ?side1 ?side2 A19.out).mono ?_); (case side1 => repeat (first | exact (Kd.R_reads' HO_3.out).2.2 | (with_reducible refine Kd.C_alloc ?_ _) | (with_reducible refine Kd.C_drewN ?_ _) | (with_reducible refine Kd.C_drew ?_))); (case side2 => exact (Kd.R_reads' HO_3.out).2.1); rintro e w31 ⟨rfl, hb⟩; refine ⟨_, rfl, ?_⟩; have n0_ := Aside0.mk (Kd.R_below (by (with_reducible repeat (first | apply Kd.R_alloc | apply Kd.R_drewN | apply Kd.R_drew)); exact HO_3.out) hb); have n1_ := Aside0.mk (below_step (by repeat (first | (with_reducible first | exact HB.out | apply below_alloc | apply pw_below_drewN | apply below_drew1) | exact HB.out)) hb); clear HO_3; clear HB; have HO_3 := n0_; have HB := n1_; clear n0_ n1_; (try clear hb); (try clear hb2); (try clear hk); (try clear hi)) | ((with_reducible refine gate_callee (f := 12) rfl ?_); refine goesL_ (some 35) rfl rfl Tryz.func12 (by kernel_rfl) rfl #[.string t253] rfl (by (try simp only [List.map_toArray, List.map_cons, List.map_nil]); first | done | rfl | (simp only [List.length_drop, List.length_take]; rfl)) ?_; (with_reducible refine (impl_ParseMatchers.calls t253 t254 true _ (TBr.q TB0.out (by repeat (first | (with_reducible first | exact HB.out | apply below_alloc | apply pw_below_drewN | apply below_drew1 | refine below_set ?_ (Aside0.out (by assumption))) | exact HB.out))) A20.out).mono ?_); rintro e w32 ⟨v256, rfl, ho0, hb⟩; refine ⟨_, rfl, ?_⟩; have n0_ := Aside0.mk (Kd.R_elder' (by (with_reducible repeat (first | apply Kd.R_alloc | apply Kd.R_drewN | apply Kd.R_drew)); exact HO_3.out) (Kd.R_base ho0) hb); have n1_ := Aside0.mk (Kd.R_lower (Kd.R_new' ho0 (Kd.R_lt (by (with_reducible repeat (first | apply Kd.R_alloc | apply Kd.R_drewN | apply Kd.R_drew)); exact HO_3.out))) (below_size (by repeat (first | (with_reducible first | exact HB.out | apply below_alloc | apply pw_below_drewN | apply below_drew1) | exact HB.out)))); have n2_ := Aside0.mk (below_step (by repeat (first | (with_reducible first | exact HB.out | apply below_alloc | apply pw_below_drewN | apply below_drew1) | exact HB.out)) hb); clear HO_3; clear HB; have HO_3 := n0_; have HO257 := n1_; have HB := n2_; clear n0_ n1_ n2_; (try clear hb); (try clear hb2); (try clear hk); (try clear hi); (try clear ho0); obtain ⟨Ao33, co33, eo33⟩ := Kd.R_slice HO257.out; subst eo33) | (go_at_call 15; (with_reducible refine (laws_eqMatchers.calls kj11 _ _ t254 _ _ t248 false _ ?side1 ?side2 ?side3 ?side4 A22.out).mono ?_); (case side1 => repeat (first | exact (Kd.R_reads' HO257.out).2.2 | (with_reducible refine Kd.C_alloc ?_ _) | (with_reducible refine Kd.C_drewN ?_ _) | (with_reducible refine Kd.C_drew ?_))); (case side2 => exact (Kd.R_reads' HO257.out).2.1); (case side3 => repeat (first | exact (Kd.R_reads' HO_3.out).2.2 | (with_reducible refine Kd.C_alloc ?_ _) | (with_reducible refine Kd.C_drewN ?_ _) | (with_reducible refine Kd.C_drew ?_))); (case side4 => exact (Kd.R_reads' HO_3.out).2.1); rintro e w' ⟨rfl, ⟨nd, rfl⟩⟩))
                      go_ret
                      exact ⟨by first | rfl | (simp [errW_none, errW_some] <;> rfl) | (simp [*, errW_none, errW_some] <;> rfl) | (simp [*, q_isEmpty]; done) | (simp [*]; exact q_gt _ _ (by assumption)), by repeat (first | (with_reducible first | exact HB.out | apply below_alloc | apply pw_below_drewN | apply below_drew1) | exact HB.out)⟩
                  · replace c21 := Bool.eq_false_iff.mpr c21
                    subst c21
                    have H1 : (some false) = some r := by rw [if_neg (show ¬ (false = true) by decide)] at H; exact H
                    clear H
                    have H := H1
                    clear H1
                    obtain rfl := Option.some.inj H
                    obtain ⟨Ao34, co34, eo34⟩ := Kd.R_slice HO_3.out
                    subst eo34
                    go_wp2_with (first | ((with_reducible refine gate_callee (f := 14) rfl ?_); refine goesL_ (some 32) rfl rfl Tryz.func14 (by kernel_rfl) rfl #[.slice Ao34 t248.length co34] rfl (by (try simp only [List.map_toArray, List.map_cons, List.map_nil]); first | done | rfl | (simp only [List.length_drop, List.length_take]; rfl)) ?_; (with_reducible refine (impl_PrintMatchers.calls _ _ t248 t253 _ (TBr.below TB0.out (by repeat (first | (with_reducible first | exact HB.out | apply below_alloc | apply pw_below_drewN | apply below_drew1 | refine below_set ?_ (Aside0.out (by assumption))) | exact HB.out))) ?side1 ?side2 A19.out).mono ?_); (case side1 => repeat (first | exact (Kd.R_reads' HO_3.out).2.2 | (with_reducible refine Kd.C_alloc ?_ _) | (with_reducible refine Kd.C_drewN ?_ _) | (with_reducible refine Kd.C_drew ?_))); (case side2 => exact (Kd.R_reads' HO_3.out).2.1); rintro e w35 ⟨rfl, hb⟩; refine ⟨_, rfl, ?_⟩; have n0_ := Aside0.mk (Kd.R_below (by (with_reducible repeat (first | apply Kd.R_alloc | apply Kd.R_drewN | apply Kd.R_drew)); exact HO_3.out) hb); have n1_ := Aside0.mk (below_step (by repeat (first | (with_reducible first | exact HB.out | apply below_alloc | apply pw_below_drewN | apply below_drew1) | exact HB.out)) hb); clear HO_3; clear HB; have HO_3 := n0_; have HB := n1_; clear n0_ n1_; (try clear hb); (try clear hb2); (try clear hk); (try clear hi)) | ((with_reducible refine gate_callee (f := 12) rfl ?_); refine goesL_ (some 35) rfl rfl Tryz.func12 (by kernel_rfl) rfl #[.string t253] rfl (by (try simp only [List.map_toArray, List.map_cons, List.map_nil]); first | done | rfl | (simp only [List.length_drop, List.length_take]; rfl)) ?_; (with_reducible refine (impl_ParseMatchers.calls t253 t254 false _ (TBr.q TB0.out (by repeat (first | (with_reducible first | exact HB.out | apply below_alloc | apply pw_below_drewN | apply below_drew1 | refine below_set ?_ (Aside0.out (by assumption))) | exact HB.out))) A20.out).mono ?_); rintro e w36 ⟨v256, rfl, ho0, hb⟩; refine ⟨_, rfl, ?_⟩; have n0_ := Aside0.mk (Kd.R_elder' (by (with_reducible repeat (first | apply Kd.R_alloc | apply Kd.R_drewN | apply Kd.R_drew)); exact HO_3.out) (Kd.R_base ho0) hb); have n1_ := Aside0.mk (Kd.R_lower (Kd.R_new' ho0 (Kd.R_lt (by (with_reducible repeat (first | apply Kd.R_alloc | apply Kd.R_drewN | apply Kd.R_drew)); exact HO_3.out))) (below_size (by repeat (first | (with_reducible first | exact HB.out | apply below_alloc | apply pw_below_drewN | apply below_drew1) | exact HB.out)))); have n2_ := Aside0.mk (below_step (by repeat (first | (with_reducible first | exact HB.out | apply below_alloc | apply pw_below_drewN | apply below_drew1) | exact HB.out)) hb); clear HO_3; clear HB; have HO_3 := n0_; have HO257 := n1_; have HB := n2_; clear n0_ n1_ n2_; (try clear hb); (try clear hb2); (try clear hk); (try clear hi); (try clear ho0)))
                    go_ret
                    exact ⟨by first | rfl | (simp [errW_none, errW_some] <;> rfl) | (simp [*, errW_none, errW_some] <;> rfl) | (simp [*, q_isEmpty]; done) | (simp [*]; exact q_gt _ _ (by assumption)), by repeat (first | (with_reducible first | exact HB.out | apply below_alloc | apply pw_below_drewN | apply below_drew1) | exact HB.out)⟩
    · replace c4 := Bool.eq_false_iff.mpr c4
      subst c4
      have H1 : (some false) = some r := by rw [if_neg (show ¬ (false = true) by decide)] at H; exact H
      clear H
      have H := H1
      clear H1
      obtain rfl := Option.some.inj H
      go_enter Tryz.func4, Tryz.ntmps4
      go_wp2_with (first | ((with_reducible refine gate_callee (f := 7) rfl ?_); refine goesL_ (some 11) rfl rfl Tryz.func7 (by kernel_rfl) rfl #[] rfl (by (try simp only [List.map_toArray, List.map_cons, List.map_nil]); first | done | rfl | (simp only [List.length_drop, List.length_take]; rfl)) ?_; (with_reducible refine (laws_one.calls  false _ (TBr.q TB0.out (by repeat (first | (with_reducible first | exact HB.out | apply below_alloc | apply pw_below_drewN | apply below_drew1 | refine below_set ?_ (Aside0.out (by assumption))) | exact HB.out))) A3.out).mono ?_); rintro e w37 ⟨rfl, hb⟩; refine ⟨_, rfl, ?_⟩; have n0_ := Aside0.mk (below_step (by repeat (first | (with_reducible first | exact HB.out | apply below_alloc | apply pw_below_drewN | apply below_drew1) | exact HB.out)) hb); clear HB; have HB := n0_; clear n0_; (try clear hb); (try clear hb2); (try clear hk); (try clear hi)))
      go_ret
      exact ⟨by first | rfl | (simp [errW_none, errW_some] <;> rfl) | (simp [*, errW_none, errW_some] <;> rfl) | (simp [*, q_isEmpty]; done) | (simp [*]; exact q_gt _ _ (by assumption)), by repeat (first | (with_reducible first | exact HB.out | apply below_alloc | apply pw_below_drewN | apply below_drew1) | exact HB.out)⟩

end Go.Proofs.YtnnhehlieakedaaGreatDoor.Q
