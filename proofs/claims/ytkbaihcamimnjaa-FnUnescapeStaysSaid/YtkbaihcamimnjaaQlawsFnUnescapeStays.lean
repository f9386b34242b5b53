-- Printed for this seat by wip/pp.py of this repo; nothing here is trusted: Lean checks it.
import Derived.Test.YtkbaihcamimnjaaQ0
import Derived.Test.YtkbaihcamimnjaaHUnesc
namespace Go.Proofs.Ytkbaihcamimnjaa.Q
open Go.RowKit Go.Proofs.YtkbaihcamimnjaaW.PrintWords Go.Proofs.YtkbaihcamimnjaaW.PrintLast Go.Proofs.YtkbaihcamimnjaaW.PrintMore
attribute [local go_sem] max2_int min2_int max_two min_two max_three min_three max_four min_four   -- for this text's walks alone
set_option linter.unusedVariables false
set_option linter.unusedSimpArgs false

/-! ### laws_FnUnescapeStays: function 3 -/
def laws_FnUnescapeStays.j0 : Nat → ByteArray → Bool → Option (Bool)
  | 0, _, _ => none
  | k + 1, x0, x23 => if x23 = true then (some (decide ((x0.size : Int) > 5000))) else (if (x0.size : Int) ≥ 3 then (if 0 ≤ 3 then (if 3 ≤ (x0.size : Int) then (if (x0.extract 0 3).toList = ([85, 95, 95] : List UInt8) then (some true) else ((impl_Unescape.f x0 3).bind fun t145 => (some (t145.toList == x0.toList)))) else (none)) else (none)) else ((impl_Unescape.f x0 3).bind fun t146 => (some (t146.toList == x0.toList))))
def laws_FnUnescapeStays.f (k : Nat) (a0 : ByteArray) (a1 : Int) : Option (Bool) := if (a0.size : Int) > 2147483647 then (some true) else ((impl_Unescape.f (⟨#[85, 95, 95, 97, 95, 50, 101, 95, 98]⟩ : ByteArray) 3).bind fun t143 => (if t143.toList = ([97, 46, 98] : List UInt8) then (if (a0.size : Int) > 5000 then (laws_FnUnescapeStays.j0 k a0 true) else ((impl_Unescape.f a0 (wrap64 (Int.tmod a1 2))).bind fun t144 => (laws_FnUnescapeStays.j0 k a0 (t144.toList != a0.toList)))) else (some false)))
theorem laws_FnUnescapeStays.mono_l : ∀ k, (∀ y0 y1, LeO (laws_FnUnescapeStays.j0 k y0 y1) (laws_FnUnescapeStays.j0 (k + 1) y0 y1))
  | 0 => fun _ _ r h => by simp [laws_FnUnescapeStays.j0] at h
  | k + 1 => by
    have ih0 := laws_FnUnescapeStays.mono_l k
    · intro y0 y1
      unfold laws_FnUnescapeStays.j0
      repeat' first
      | (with_reducible exact ih0 _ _)
      | (with_reducible exact LeO.refl _)
      | (with_reducible exact LeO.none _)
      | (with_reducible refine LeO.ite ?_ ?_)
      | (with_reducible refine LeO.bind ?_ (fun _ => ?_))
      | exact ih0 _ _
      | exact LeO.none _
      | refine LeO.ite ?_ ?_
      | refine LeO.bind ?_ (fun _ => ?_)
theorem laws_FnUnescapeStays.mono : ∀ a0 a1 k, LeO (laws_FnUnescapeStays.f k a0 a1) (laws_FnUnescapeStays.f (k + 1) a0 a1) := by
  intro a0 a1 k
  have ih0 := laws_FnUnescapeStays.mono_l k
  unfold laws_FnUnescapeStays.f
  repeat' first
      | (with_reducible exact ih0 _ _)
      | (with_reducible exact LeO.refl _)
      | (with_reducible exact LeO.none _)
      | (with_reducible refine LeO.ite ?_ ?_)
      | (with_reducible refine LeO.bind ?_ (fun _ => ?_))
      | exact ih0 _ _
      | exact LeO.none _
      | refine LeO.ite ?_ ?_
      | refine LeO.bind ?_ (fun _ => ?_)
set_option maxHeartbeats 8000000 in
set_option maxRecDepth 100000 in
theorem laws_FnUnescapeStays.calls (k : Nat) (a0 : ByteArray) (a1 : Int) (r : Bool) (w : World) (h : laws_FnUnescapeStays.f k a0 a1 = some r) :
    Calls Try.prog 3 #[.string a0, .int .u8 a1] w fun e w' => e = .returned (.bool r) ∧ Below w.heap.size w w' := by
  have HB := Aside0.mk (Below.refl w.heap.size w)
  have H : (if (a0.size : Int) > 2147483647 then (some true) else ((impl_Unescape.f (⟨#[85, 95, 95, 97, 95, 50, 101, 95, 98]⟩ : ByteArray) 3).bind fun t143 => (if t143.toList = ([97, 46, 98] : List UInt8) then (if (a0.size : Int) > 5000 then (laws_FnUnescapeStays.j0 k a0 true) else ((impl_Unescape.f a0 (wrap64 (Int.tmod a1 2))).bind fun t144 => (laws_FnUnescapeStays.j0 k a0 (t144.toList != a0.toList)))) else (some false)))) = some r := h
  clear h
  by_cases c3 : (a0.size : Int) > 2147483647
  · rw [if_pos c3] at H
    have c3b0 : decide (2147483647 < (a0.size : Int)) = true := decide_eq_true c3
    have c3b1 : decide (2147483647 < a0.size) = true := decide_eq_true (by omega)
    clear c3
    obtain rfl := Option.some.inj H
    go_enter Try.func3, Try.ntmps3
    go_wp2
    go_ret
    exact ⟨by first | rfl | (simp [errW_none, errW_some] <;> rfl) | (simp [*, errW_none, errW_some] <;> rfl) | (simp [*, q_isEmpty]; done) | (simp [*]; exact q_gt _ _ (by assumption)), by repeat (first | (with_reducible first | exact HB.out | apply below_alloc | apply pw_below_drewN | apply below_drew1) | exact HB.out)⟩
  · rw [if_neg c3] at H
    have c3b0 : decide (2147483647 < (a0.size : Int)) = false := decide_eq_false c3
    have c3b1 : decide (2147483647 < a0.size) = false := decide_eq_false (by omega)
    clear c3
    replace H := Option.bind_eq_some_iff.mp H
    obtain ⟨t143, A40, H⟩ := H
    replace H : (if t143.toList = ([97, 46, 98] : List UInt8) then (if (a0.size : Int) > 5000 then (laws_FnUnescapeStays.j0 k a0 true) else ((impl_Unescape.f a0 (wrap64 (Int.tmod a1 2))).bind fun t144 => (laws_FnUnescapeStays.j0 k a0 (t144.toList != a0.toList)))) else (some false)) = some r := H
    have A4 := Aside0.mk A40
    clear A40
    by_cases c5 : t143.toList = ([97, 46, 98] : List UInt8)
    · rw [if_pos c5] at H
      have c5b0 : (t143.toList == ([97, 46, 98] : List UInt8)) = true := beq_iff_eq.mpr c5
      have c5b1 : (t143.toList != ([97, 46, 98] : List UInt8)) = false := bne_eq_false_iff_eq.mpr c5
      clear c5
      have HC6 := Aside0.mk H
      clear H
      go_enter Try.func3, Try.ntmps3
      go_upto_region 6 with (first | ((with_reducible refine gate_callee (f := 6) rfl ?_); refine goesL_ (some 9) rfl rfl Try.func6 (by kernel_rfl) rfl #[.string (⟨#[85, 95, 95, 97, 95, 50, 101, 95, 98]⟩ : ByteArray), .int .i64 3] rfl (by (try simp only [List.map_toArray, List.map_cons, List.map_nil]); first | done | rfl | (simp only [List.length_drop, List.length_take]; rfl)) ?_; (with_reducible refine (impl_Unescape.calls (⟨#[85, 95, 95, 97, 95, 50, 101, 95, 98]⟩ : ByteArray) 3 t143 _ A4.out).mono ?_); rintro e w7 ⟨rfl, hb⟩; refine ⟨_, rfl, ?_⟩; have n0_ := Aside0.mk (below_step (by repeat (first | (with_reducible first | exact HB.out | apply below_alloc | apply pw_below_drewN | apply below_drew1) | exact HB.out)) hb); clear HB; have HB := n0_; clear n0_; (try clear hb); (try clear hb2); (try clear hk); (try clear hi)))
      (try simp only [Act.put, List.setIfInBounds_toArray, List.set_cons_zero, List.set_cons_succ])
      go_cut [23] (fun v23 wc => ∃ (kq : Nat) (x23_5 : Bool), v23 = .bool x23_5 ∧ Aside0 (laws_FnUnescapeStays.j0 kq a0 x23_5 = some r) ∧ Aside0 (kq ≤ k) ∧ Aside0 (Below w.heap.size w wc))
      case first =>
        have H := HC6.out
        clear HC6
        by_cases c8 : (a0.size : Int) > 5000
        · rw [if_pos c8] at H
          have c8b0 : decide (5000 < (a0.size : Int)) = true := decide_eq_true c8
          have c8b1 : decide (5000 < a0.size) = true := decide_eq_true (by omega)
          clear c8
          (first | rw [c8b0] | (simp only [i64_w, i32_w]; rw [c8b0]) | skip)
          have H' := Aside0.mk H
          clear H
          go_wp2
          go_meet
          case rel => exact ⟨_, (true), (by first | rfl | (simp; done) | (simp [*]; done) | (simp [*, q_isEmpty]; done) | (simp [*]; exact q_gt _ _ (by assumption))), H', ⟨by first | omega | exact Nat.le_refl _⟩, ⟨by repeat (first | (with_reducible first | exact HB.out | apply below_alloc | apply pw_below_drewN | apply below_drew1) | exact HB.out)⟩⟩
        · rw [if_neg c8] at H
          have c8b0 : decide (5000 < (a0.size : Int)) = false := decide_eq_false c8
          have c8b1 : decide (5000 < a0.size) = false := decide_eq_false (by omega)
          clear c8
          (first | rw [c8b0] | (simp only [i64_w, i32_w]; rw [c8b0]) | skip)
          replace H := Option.bind_eq_some_iff.mp H
          obtain ⟨t144, A90, H⟩ := H
          replace H : (laws_FnUnescapeStays.j0 k a0 (t144.toList != a0.toList)) = some r := H
          have A9 := Aside0.mk A90
          clear A90
          have H' := Aside0.mk H
          clear H
          go_wp2_with (first | (go_at_call 6; (with_reducible refine (impl_Unescape.calls a0 (wrap64 (Int.tmod a1 2)) t144 _ A9.out).mono ?_); rintro e w10 ⟨rfl, hb⟩; have n0_ := Aside0.mk (below_step (by repeat (first | (with_reducible first | exact HB.out | apply below_alloc | apply pw_below_drewN | apply below_drew1) | exact HB.out)) hb); clear HB; have HB := n0_; clear n0_; (try clear hb); (try clear hb2); (try clear hk); (try clear hi)))
          go_meet
          case rel => exact ⟨_, ((t144.toList != a0.toList)), (by first | rfl | (simp; done) | (simp [*]; done) | (simp [*, q_isEmpty]; done) | (simp [*]; exact q_gt _ _ (by assumption))), H', ⟨by first | omega | exact Nat.le_refl _⟩, ⟨by repeat (first | (with_reducible first | exact HB.out | apply below_alloc | apply pw_below_drewN | apply below_drew1) | exact HB.out)⟩⟩
      case rest =>
        clear HC6
        try clear p2
        try clear c3
        try clear c3b0
        try clear c3b1
        try clear c5
        try clear c5b0
        try clear c5b1
        try clear c6
        try clear p6
        try clear c8
        try clear c8b0
        try clear c8b1
        obtain ⟨kq, x23_5, rfl, HA, HJ5, HB⟩ := hcut
        cases kq with
        | zero => exact absurd HA.out (by simp [laws_FnUnescapeStays.j0])
        | succ kj5 =>
          have H := HA.out
          clear HA
          simp only [laws_FnUnescapeStays.j0] at H
          by_cases c11 : x23_5 = true
          · subst c11
            have H1 : (some (decide ((a0.size : Int) > 5000))) = some r := by rw [if_pos rfl] at H; exact H
            clear H
            have H := H1
            clear H1
            obtain rfl := Option.some.inj H
            go_wp2
            go_ret
            exact ⟨by first | rfl | (simp [errW_none, errW_some] <;> rfl) | (simp [*, errW_none, errW_some] <;> rfl) | (simp [*, q_isEmpty]; done) | (simp [*]; exact q_gt _ _ (by assumption)), by repeat (first | (with_reducible first | exact HB.out | apply below_alloc | apply pw_below_drewN | apply below_drew1) | exact HB.out)⟩
          · replace c11 := Bool.eq_false_iff.mpr c11
            subst c11
            have H1 : (if (a0.size : Int) ≥ 3 then (if 0 ≤ 3 then (if 3 ≤ (a0.size : Int) then (if (a0.extract 0 3).toList = ([85, 95, 95] : List UInt8) then (some true) else ((impl_Unescape.f a0 3).bind fun t145 => (some (t145.toList == a0.toList)))) else (none)) else (none)) else ((impl_Unescape.f a0 3).bind fun t146 => (some (t146.toList == a0.toList)))) = some r := by rw [if_neg (show ¬ (false = true) by decide)] at H; exact H
            clear H
            have H := H1
            clear H1
            by_cases c12 : (a0.size : Int) ≥ 3
            · rw [if_pos c12] at H
              have c12b0 : decide (3 ≤ (a0.size : Int)) = true := decide_eq_true c12
              have c12b1 : decide (3 ≤ a0.size) = true := decide_eq_true (by omega)
              clear c12
              by_cases c13 : 0 ≤ 3
              · rw [if_pos c13] at H
                have c13b0 := eq_true c13
                have c13b1 : decide (0 ≤ 3) = true := decide_eq_true c13
                clear c13
                by_cases c14 : 3 ≤ (a0.size : Int)
                · rw [if_pos c14] at H
                  have c14b0 := eq_true c14
                  have c14b1 : decide (3 ≤ (a0.size : Int)) = true := decide_eq_true c14
                  clear c14
                  by_cases c15 : (a0.extract 0 3).toList = ([85, 95, 95] : List UInt8)
                  · rw [if_pos c15] at H
                    have c15b0 : ((a0.extract 0 3).toList == ([85, 95, 95] : List UInt8)) = true := beq_iff_eq.mpr c15
                    have c15b1 : ((a0.extract 0 3).toList != ([85, 95, 95] : List UInt8)) = false := bne_eq_false_iff_eq.mpr c15
                    clear c15
                    obtain rfl := Option.some.inj H
                    go_wp2
                    go_ret
                    exact ⟨by first | rfl | (simp [errW_none, errW_some] <;> rfl) | (simp [*, errW_none, errW_some] <;> rfl) | (simp [*, q_isEmpty]; done) | (simp [*]; exact q_gt _ _ (by assumption)), by repeat (first | (with_reducible first | exact HB.out | apply below_alloc | apply pw_below_drewN | apply below_drew1) | exact HB.out)⟩
                  · rw [if_neg c15] at H
                    have c15b0 : ((a0.extract 0 3).toList == ([85, 95, 95] : List UInt8)) = false := beq_eq_false_iff_ne.mpr c15
                    have c15b1 : ((a0.extract 0 3).toList != ([85, 95, 95] : List UInt8)) = true := bne_iff_ne.mpr c15
                    replace H := Option.bind_eq_some_iff.mp H
                    obtain ⟨t145, A160, H⟩ := H
                    replace H : (some (t145.toList == a0.toList)) = some r := H
                    have A16 := Aside0.mk A160
                    clear A160
                    obtain rfl := Option.some.inj H
                    go_wp2_with (first | ((with_reducible refine gate_callee (f := 6) rfl ?_); refine goesL_ (some 36) rfl rfl Try.func6 (by kernel_rfl) rfl #[.string a0, .int .i64 3] rfl (by (try simp only [List.map_toArray, List.map_cons, List.map_nil]); first | done | rfl | (simp only [List.length_drop, List.length_take]; rfl)) ?_; (with_reducible refine (impl_Unescape.calls a0 3 t145 _ A16.out).mono ?_); rintro e w17 ⟨rfl, hb⟩; refine ⟨_, rfl, ?_⟩; have n0_ := Aside0.mk (below_step (by repeat (first | (with_reducible first | exact HB.out | apply below_alloc | apply pw_below_drewN | apply below_drew1) | exact HB.out)) hb); clear HB; have HB := n0_; clear n0_; (try clear hb); (try clear hb2); (try clear hk); (try clear hi)))
                    go_ret
                    exact ⟨by first | rfl | (simp [errW_none, errW_some] <;> rfl) | (simp [*, errW_none, errW_some] <;> rfl) | (simp [*, q_isEmpty]; done) | (simp [*]; exact q_gt _ _ (by assumption)), by repeat (first | (with_reducible first | exact HB.out | apply below_alloc | apply pw_below_drewN | apply below_drew1) | exact HB.out)⟩
                · rw [if_neg c14] at H
                  exact absurd H (by simp)
              · rw [if_neg c13] at H
                exact absurd H (by simp)
            · rw [if_neg c12] at H
              have c12b0 : decide (3 ≤ (a0.size : Int)) = false := decide_eq_false c12
              have c12b1 : decide (3 ≤ a0.size) = false := decide_eq_false (by omega)
              clear c12
              replace H := Option.bind_eq_some_iff.mp H
              obtain ⟨t146, A180, H⟩ := H
              replace H : (some (t146.toList == a0.toList)) = some r := H
              have A18 := Aside0.mk A180
              clear A180
              obtain rfl := Option.some.inj H
              go_wp2_with (first | ((with_reducible refine gate_callee (f := 6) rfl ?_); refine goesL_ (some 36) rfl rfl Try.func6 (by kernel_rfl) rfl #[.string a0, .int .i64 3] rfl (by (try simp only [List.map_toArray, List.map_cons, List.map_nil]); first | done | rfl | (simp only [List.length_drop, List.length_take]; rfl)) ?_; (with_reducible refine (impl_Unescape.calls a0 3 t146 _ A18.out).mono ?_); rintro e w19 ⟨rfl, hb⟩; refine ⟨_, rfl, ?_⟩; have n0_ := Aside0.mk (below_step (by repeat (first | (with_reducible first | exact HB.out | apply below_alloc | apply pw_below_drewN | apply below_drew1) | exact HB.out)) hb); clear HB; have HB := n0_; clear n0_; (try clear hb); (try clear hb2); (try clear hk); (try clear hi)))
              go_ret
              exact ⟨by first | rfl | (simp [errW_none, errW_some] <;> rfl) | (simp [*, errW_none, errW_some] <;> rfl) | (simp [*, q_isEmpty]; done) | (simp [*]; exact q_gt _ _ (by assumption)), by repeat (first | (with_reducible first | exact HB.out | apply below_alloc | apply pw_below_drewN | apply below_drew1) | exact HB.out)⟩
    · rw [if_neg c5] at H
      have c5b0 : (t143.toList == ([97, 46, 98] : List UInt8)) = false := beq_eq_false_iff_ne.mpr c5
      have c5b1 : (t143.toList != ([97, 46, 98] : List UInt8)) = true := bne_iff_ne.mpr c5
      obtain rfl := Option.some.inj H
      go_enter Try.func3, Try.ntmps3
      go_wp2_with (first | ((with_reducible refine gate_callee (f := 6) rfl ?_); refine goesL_ (some 9) rfl rfl Try.func6 (by kernel_rfl) rfl #[.string (⟨#[85, 95, 95, 97, 95, 50, 101, 95, 98]⟩ : ByteArray), .int .i64 3] rfl (by (try simp only [List.map_toArray, List.map_cons, List.map_nil]); first | done | rfl | (simp only [List.length_drop, List.length_take]; rfl)) ?_; (with_reducible refine (impl_Unescape.calls (⟨#[85, 95, 95, 97, 95, 50, 101, 95, 98]⟩ : ByteArray) 3 t143 _ A4.out).mono ?_); rintro e w20 ⟨rfl, hb⟩; refine ⟨_, rfl, ?_⟩; have n0_ := Aside0.mk (below_step (by repeat (first | (with_reducible first | exact HB.out | apply below_alloc | apply pw_below_drewN | apply below_drew1) | exact HB.out)) hb); clear HB; have HB := n0_; clear n0_; (try clear hb); (try clear hb2); (try clear hk); (try clear hi)))
      go_ret
      exact ⟨by first | rfl | (simp [errW_none, errW_some] <;> rfl) | (simp [*, errW_none, errW_some] <;> rfl) | (simp [*, q_isEmpty]; done) | (simp [*]; exact q_gt _ _ (by assumption)), by repeat (first | (with_reducible first | exact HB.out | apply below_alloc | apply pw_below_drewN | apply below_drew1) | exact HB.out)⟩

end Go.Proofs.Ytkbaihcamimnjaa.Q
