-- Printed for this seat by wip/pp.py of this repo; nothing here is trusted: Lean checks it.
import Derived.Test.YtbcijcmmpbkkbaaQ0
import Derived.Test.YtbcijcmmpbkkbaaHLegacy
import Derived.Test.YtbcijcmmpbkkbaaQlawslegacy
import Derived.Test.YtbcijcmmpbkkbaaQlawslong
import Derived.Test.YtbcijcmmpbkkbaaQspecLegacyLabel
import Derived.Test.YtbcijcmmpbkkbaaQspecLegacyMetric
namespace Go.Proofs.Ytbcijcmmpbkkbaa.Q
open Go.RowKit Go.Proofs.YtbcijcmmpbkkbaaW.PrintWords Go.Proofs.YtbcijcmmpbkkbaaW.PrintLast Go.Proofs.YtbcijcmmpbkkbaaW.PrintMore
attribute [local go_sem] max2_int min2_int max_two min_two max_three min_three max_four min_four   -- for this text's walks alone
set_option linter.unusedVariables false
set_option linter.unusedSimpArgs false

/-! ### laws_FnLegacy: function 5 -/
def laws_FnLegacy.j0 : Nat → ByteArray → Bool → Option (Bool)
  | 0, _, _ => none
  | k + 1, x0, x11 => if x11 = true then (some false) else ((laws_long.f x0).bind fun t138 => (if t138 = true then (some true) else ((impl_LegacyMetric.f x0).bind fun t139 => ((laws_legacy.f k x0 true).bind fun t140 => (if (t139 == t140) = true then ((impl_LegacyLabel.f x0).bind fun t141 => ((laws_legacy.f k x0 false).bind fun t142 => (if (t141 == t142) = true then ((spec_LegacyMetric.f k x0).bind fun t143 => (if (t143 == t140) = true then ((spec_LegacyLabel.f k x0).bind fun t144 => (some (t144 == t142))) else (some false))) else (some false)))) else (some false))))))
def laws_FnLegacy.f (k : Nat) (a0 : ByteArray) : Option (Bool) := if (a0.size : Int) > 2147483647 then (some true) else ((impl_LegacyMetric.f (⟨#[97, 58, 98]⟩ : ByteArray)).bind fun t136 => (if t136 = true then ((impl_LegacyLabel.f (⟨#[97]⟩ : ByteArray)).bind fun t137 => (laws_FnLegacy.j0 k a0 (!t137))) else (laws_FnLegacy.j0 k a0 true)))
theorem laws_FnLegacy.mono_l : ∀ k, (∀ y0 y1, LeO (laws_FnLegacy.j0 k y0 y1) (laws_FnLegacy.j0 (k + 1) y0 y1))
  | 0 => fun _ _ r h => by simp [laws_FnLegacy.j0] at h
  | k + 1 => by
    have ih0 := laws_FnLegacy.mono_l k
    · intro y0 y1
      unfold laws_FnLegacy.j0
      repeat' first
      | (with_reducible exact ih0 _ _)
      | (with_reducible exact laws_legacy.mono _ _ _)
      | (with_reducible exact spec_LegacyLabel.mono _ _)
      | (with_reducible exact spec_LegacyMetric.mono _ _)
      | (with_reducible exact LeO.refl _)
      | (with_reducible exact LeO.none _)
      | (with_reducible refine LeO.ite ?_ ?_)
      | (with_reducible refine LeO.bind ?_ (fun _ => ?_))
      | exact ih0 _ _
      | exact laws_legacy.mono _ _ _
      | exact spec_LegacyLabel.mono _ _
      | exact spec_LegacyMetric.mono _ _
      | exact LeO.none _
      | refine LeO.ite ?_ ?_
      | refine LeO.bind ?_ (fun _ => ?_)
theorem laws_FnLegacy.mono : ∀ a0 k, LeO (laws_FnLegacy.f k a0) (laws_FnLegacy.f (k + 1) a0) := by
  intro a0 k
  have ih0 := laws_FnLegacy.mono_l k
  unfold laws_FnLegacy.f
  repeat' first
      | (with_reducible exact ih0 _ _)
      | (with_reducible exact laws_legacy.mono _ _ _)
      | (with_reducible exact spec_LegacyLabel.mono _ _)
      | (with_reducible exact spec_LegacyMetric.mono _ _)
      | (with_reducible exact LeO.refl _)
      | (with_reducible exact LeO.none _)
      | (with_reducible refine LeO.ite ?_ ?_)
      | (with_reducible refine LeO.bind ?_ (fun _ => ?_))
      | exact ih0 _ _
      | exact laws_legacy.mono _ _ _
      | exact spec_LegacyLabel.mono _ _
      | exact spec_LegacyMetric.mono _ _
      | exact LeO.none _
      | refine LeO.ite ?_ ?_
      | refine LeO.bind ?_ (fun _ => ?_)
set_option maxHeartbeats 8000000 in
set_option maxRecDepth 100000 in
theorem laws_FnLegacy.calls (k : Nat) (a0 : ByteArray) (r : Bool) (w : World) (h : laws_FnLegacy.f k a0 = some r) :
    Calls Try.prog 5 #[.string a0] w fun e w' => e = .returned (.bool r) ∧ Below w.heap.size w w' := by
  have HB := Aside0.mk (Below.refl w.heap.size w)
  have H : (if (a0.size : Int) > 2147483647 then (some true) else ((impl_LegacyMetric.f (⟨#[97, 58, 98]⟩ : ByteArray)).bind fun t136 => (if t136 = true then ((impl_LegacyLabel.f (⟨#[97]⟩ : ByteArray)).bind fun t137 => (laws_FnLegacy.j0 k a0 (!t137))) else (laws_FnLegacy.j0 k a0 true)))) = some r := h
  clear h
  by_cases c2 : (a0.size : Int) > 2147483647
  · rw [if_pos c2] at H
    have c2b0 : decide (2147483647 < (a0.size : Int)) = true := decide_eq_true c2
    have c2b1 : decide (2147483647 < a0.size) = true := decide_eq_true (by omega)
    clear c2
    obtain rfl := Option.some.inj H
    go_enter Try.func5, Try.ntmps5
    go_wp2
    go_ret
    exact ⟨by first | rfl | (simp [errW_none, errW_some] <;> rfl) | (simp [*, errW_none, errW_some] <;> rfl) | (simp [*, q_isEmpty]; done), by repeat (first | (with_reducible first | exact HB.out | apply below_alloc | apply pw_below_drewN | apply below_drew1) | exact HB.out)⟩
  · rw [if_neg c2] at H
    have c2b0 : decide (2147483647 < (a0.size : Int)) = false := decide_eq_false c2
    have c2b1 : decide (2147483647 < a0.size) = false := decide_eq_false (by omega)
    clear c2
    have HC3 := Aside0.mk H
    clear H
    go_enter Try.func5, Try.ntmps5
    go_upto_region 3 with (fail)
    go_cut [11] (fun v11 wc => ∃ (kq : Nat) (x11_2 : Bool), v11 = .bool x11_2 ∧ Aside0 (laws_FnLegacy.j0 kq a0 x11_2 = some r) ∧ Aside0 (kq ≤ k) ∧ Aside0 (Below w.heap.size w wc))
    case first =>
      have H := HC3.out
      clear HC3
      replace H := Option.bind_eq_some_iff.mp H
      obtain ⟨t136, A40, H⟩ := H
      replace H : (if t136 = true then ((impl_LegacyLabel.f (⟨#[97]⟩ : ByteArray)).bind fun t137 => (laws_FnLegacy.j0 k a0 (!t137))) else (laws_FnLegacy.j0 k a0 true)) = some r := H
      have A4 := Aside0.mk A40
      clear A40
      by_cases c5 : t136 = true
      · subst c5
        have H1 : ((impl_LegacyLabel.f (⟨#[97]⟩ : ByteArray)).bind fun t137 => (laws_FnLegacy.j0 k a0 (!t137))) = some r := by rw [if_pos rfl] at H; exact H
        clear H
        have H := H1
        clear H1
        replace H := Option.bind_eq_some_iff.mp H
        obtain ⟨t137, A60, H⟩ := H
        replace H : (laws_FnLegacy.j0 k a0 (!t137)) = some r := H
        have A6 := Aside0.mk A60
        clear A60
        have H' := Aside0.mk H
        clear H
        go_wp2_with (first | ((with_reducible refine gate_callee (f := 19) rfl ?_); refine goesL_ (some 6) rfl rfl Try.func19 (by kernel_rfl) rfl #[.string (⟨#[97, 58, 98]⟩ : ByteArray)] rfl (by (try simp only [List.map_toArray, List.map_cons, List.map_nil]); first | done | rfl | (simp only [List.length_drop, List.length_take]; rfl)) ?_; (with_reducible refine (impl_LegacyMetric.calls (⟨#[97, 58, 98]⟩ : ByteArray) true _ A4.out).mono ?_); rintro e w7 ⟨rfl, hb⟩; refine ⟨_, rfl, ?_⟩; have n0_ := Aside0.mk (below_step (by repeat (first | (with_reducible first | exact HB.out | apply below_alloc | apply pw_below_drewN | apply below_drew1) | exact HB.out)) hb); clear HB; have HB := n0_; clear n0_; (try clear hb); (try clear hb2); (try clear hk); (try clear hi)) | (go_at_call 20; (with_reducible refine (impl_LegacyLabel.calls (⟨#[97]⟩ : ByteArray) t137 _ A6.out).mono ?_); rintro e w8 ⟨rfl, hb⟩; have n0_ := Aside0.mk (below_step (by repeat (first | (with_reducible first | exact HB.out | apply below_alloc | apply pw_below_drewN | apply below_drew1) | exact HB.out)) hb); clear HB; have HB := n0_; clear n0_; (try clear hb); (try clear hb2); (try clear hk); (try clear hi)))
        go_meet
        case rel => exact ⟨_, (!t137), (by first | rfl | (simp; done) | (simp [*]; done) | (simp [*, q_isEmpty]; done)), H', ⟨by first | omega | exact Nat.le_refl _⟩, ⟨by repeat (first | (with_reducible first | exact HB.out | apply below_alloc | apply pw_below_drewN | apply below_drew1) | exact HB.out)⟩⟩
      · replace c5 := Bool.eq_false_iff.mpr c5
        subst c5
        have H1 : (laws_FnLegacy.j0 k a0 true) = some r := by rw [if_neg (show ¬ (false = true) by decide)] at H; exact H
        clear H
        have H := H1
        clear H1
        have H' := Aside0.mk H
        clear H
        go_wp2_with (first | ((with_reducible refine gate_callee (f := 19) rfl ?_); refine goesL_ (some 6) rfl rfl Try.func19 (by kernel_rfl) rfl #[.string (⟨#[97, 58, 98]⟩ : ByteArray)] rfl (by (try simp only [List.map_toArray, List.map_cons, List.map_nil]); first | done | rfl | (simp only [List.length_drop, List.length_take]; rfl)) ?_; (with_reducible refine (impl_LegacyMetric.calls (⟨#[97, 58, 98]⟩ : ByteArray) false _ A4.out).mono ?_); rintro e w9 ⟨rfl, hb⟩; refine ⟨_, rfl, ?_⟩; have n0_ := Aside0.mk (below_step (by repeat (first | (with_reducible first | exact HB.out | apply below_alloc | apply pw_below_drewN | apply below_drew1) | exact HB.out)) hb); clear HB; have HB := n0_; clear n0_; (try clear hb); (try clear hb2); (try clear hk); (try clear hi)))
        go_meet
        case rel => exact ⟨_, (true), (by first | rfl | (simp; done) | (simp [*]; done) | (simp [*, q_isEmpty]; done)), H', ⟨by first | omega | exact Nat.le_refl _⟩, ⟨by repeat (first | (with_reducible first | exact HB.out | apply below_alloc | apply pw_below_drewN | apply below_drew1) | exact HB.out)⟩⟩
    case rest =>
      clear HC3
      try clear c1
      try clear c2
      try clear c2b0
      try clear c2b1
      try clear p2
      try clear c5
      obtain ⟨kq, x11_2, rfl, HA, HJ2, HB⟩ := hcut
      cases kq with
      | zero => exact absurd HA.out (by simp [laws_FnLegacy.j0])
      | succ kj2 =>
        have H := HA.out
        clear HA
        simp only [laws_FnLegacy.j0] at H
        by_cases c10 : x11_2 = true
        · subst c10
          have H1 : (some false) = some r := by rw [if_pos rfl] at H; exact H
          clear H
          have H := H1
          clear H1
          obtain rfl := Option.some.inj H
          go_wp2
          go_ret
          exact ⟨by first | rfl | (simp [errW_none, errW_some] <;> rfl) | (simp [*, errW_none, errW_some] <;> rfl) | (simp [*, q_isEmpty]; done), by repeat (first | (with_reducible first | exact HB.out | apply below_alloc | apply pw_below_drewN | apply below_drew1) | exact HB.out)⟩
        · replace c10 := Bool.eq_false_iff.mpr c10
          subst c10
          have H1 : ((laws_long.f a0).bind fun t138 => (if t138 = true then (some true) else ((impl_LegacyMetric.f a0).bind fun t139 => ((laws_legacy.f kj2 a0 true).bind fun t140 => (if (t139 == t140) = true then ((impl_LegacyLabel.f a0).bind fun t141 => ((laws_legacy.f kj2 a0 false).bind fun t142 => (if (t141 == t142) = true then ((spec_LegacyMetric.f kj2 a0).bind fun t143 => (if (t143 == t140) = true then ((spec_LegacyLabel.f kj2 a0).bind fun t144 => (some (t144 == t142))) else (some false))) else (some false)))) else (some false)))))) = some r := by rw [if_neg (show ¬ (false = true) by decide)] at H; exact H
          clear H
          have H := H1
          clear H1
          replace H := Option.bind_eq_some_iff.mp H
          obtain ⟨t138, A110, H⟩ := H
          replace H : (if t138 = true then (some true) else ((impl_LegacyMetric.f a0).bind fun t139 => ((laws_legacy.f kj2 a0 true).bind fun t140 => (if (t139 == t140) = true then ((impl_LegacyLabel.f a0).bind fun t141 => ((laws_legacy.f kj2 a0 false).bind fun t142 => (if (t141 == t142) = true then ((spec_LegacyMetric.f kj2 a0).bind fun t143 => (if (t143 == t140) = true then ((spec_LegacyLabel.f kj2 a0).bind fun t144 => (some (t144 == t142))) else (some false))) else (some false)))) else (some false))))) = some r := H
          have A11 := Aside0.mk A110
          clear A110
          by_cases c12 : t138 = true
          · subst c12
            have H1 : (some true) = some r := by rw [if_pos rfl] at H; exact H
            clear H
            have H := H1
            clear H1
            obtain rfl := Option.some.inj H
            go_wp2_with (first | ((with_reducible refine gate_callee (f := 21) rfl ?_); refine goesL_ (some 13) rfl rfl Try.func21 (by kernel_rfl) rfl #[.string a0] rfl (by (try simp only [List.map_toArray, List.map_cons, List.map_nil]); first | done | rfl | (simp only [List.length_drop, List.length_take]; rfl)) ?_; (with_reducible refine (laws_long.calls a0 true _ A11.out).mono ?_); rintro e w' ⟨rfl, ⟨nd, rfl⟩⟩; refine ⟨_, rfl, ?_⟩))
            go_ret
            exact ⟨by first | rfl | (simp [errW_none, errW_some] <;> rfl) | (simp [*, errW_none, errW_some] <;> rfl) | (simp [*, q_isEmpty]; done), by repeat (first | (with_reducible first | exact HB.out | apply below_alloc | apply pw_below_drewN | apply below_drew1) | exact HB.out)⟩
          · replace c12 := Bool.eq_false_iff.mpr c12
            subst c12
            have H1 : ((impl_LegacyMetric.f a0).bind fun t139 => ((laws_legacy.f kj2 a0 true).bind fun t140 => (if (t139 == t140) = true then ((impl_LegacyLabel.f a0).bind fun t141 => ((laws_legacy.f kj2 a0 false).bind fun t142 => (if (t141 == t142) = true then ((spec_LegacyMetric.f kj2 a0).bind fun t143 => (if (t143 == t140) = true then ((spec_LegacyLabel.f kj2 a0).bind fun t144 => (some (t144 == t142))) else (some false))) else (some false)))) else (some false)))) = some r := by rw [if_neg (show ¬ (false = true) by decide)] at H; exact H
            clear H
            have H := H1
            clear H1
            replace H := Option.bind_eq_some_iff.mp H
            obtain ⟨t139, A130, H⟩ := H
            replace H : ((laws_legacy.f kj2 a0 true).bind fun t140 => (if (t139 == t140) = true then ((impl_LegacyLabel.f a0).bind fun t141 => ((laws_legacy.f kj2 a0 false).bind fun t142 => (if (t141 == t142) = true then ((spec_LegacyMetric.f kj2 a0).bind fun t143 => (if (t143 == t140) = true then ((spec_LegacyLabel.f kj2 a0).bind fun t144 => (some (t144 == t142))) else (some false))) else (some false)))) else (some false))) = some r := H
            have A13 := Aside0.mk A130
            clear A130
            replace H := Option.bind_eq_some_iff.mp H
            obtain ⟨t140, A140, H⟩ := H
            replace H : (if (t139 == t140) = true then ((impl_LegacyLabel.f a0).bind fun t141 => ((laws_legacy.f kj2 a0 false).bind fun t142 => (if (t141 == t142) = true then ((spec_LegacyMetric.f kj2 a0).bind fun t143 => (if (t143 == t140) = true then ((spec_LegacyLabel.f kj2 a0).bind fun t144 => (some (t144 == t142))) else (some false))) else (some false)))) else (some false)) = some r := H
            have A14 := Aside0.mk A140
            clear A140
            by_cases c15 : (t139 == t140) = true
            · rw [if_pos c15] at H
              have c15b0 : (t139 == t140) = true := c15
              (try (have c15b1 : decide (t139 = t140) = true := by simpa using c15))
              (try (have c15b2 : (t139 == t140) = true := by simpa using c15))
              clear c15
              replace H := Option.bind_eq_some_iff.mp H
              obtain ⟨t141, A160, H⟩ := H
              replace H : ((laws_legacy.f kj2 a0 false).bind fun t142 => (if (t141 == t142) = true then ((spec_LegacyMetric.f kj2 a0).bind fun t143 => (if (t143 == t140) = true then ((spec_LegacyLabel.f kj2 a0).bind fun t144 => (some (t144 == t142))) else (some false))) else (some false))) = some r := H
              have A16 := Aside0.mk A160
              clear A160
              replace H := Option.bind_eq_some_iff.mp H
              obtain ⟨t142, A170, H⟩ := H
              replace H : (if (t141 == t142) = true then ((spec_LegacyMetric.f kj2 a0).bind fun t143 => (if (t143 == t140) = true then ((spec_LegacyLabel.f kj2 a0).bind fun t144 => (some (t144 == t142))) else (some false))) else (some false)) = some r := H
              have A17 := Aside0.mk A170
              clear A170
              by_cases c18 : (t141 == t142) = true
              · rw [if_pos c18] at H
                have c18b0 : (t141 == t142) = true := c18
                (try (have c18b1 : decide (t141 = t142) = true := by simpa using c18))
                (try (have c18b2 : (t141 == t142) = true := by simpa using c18))
                clear c18
                replace H := Option.bind_eq_some_iff.mp H
                obtain ⟨t143, A190, H⟩ := H
                replace H : (if (t143 == t140) = true then ((spec_LegacyLabel.f kj2 a0).bind fun t144 => (some (t144 == t142))) else (some false)) = some r := H
                have A19 := Aside0.mk A190
                clear A190
                by_cases c20 : (t143 == t140) = true
                · rw [if_pos c20] at H
                  have c20b0 : (t143 == t140) = true := c20
                  (try (have c20b1 : decide (t143 = t140) = true := by simpa using c20))
                  (try (have c20b2 : (t143 == t140) = true := by simpa using c20))
                  clear c20
                  replace H := Option.bind_eq_some_iff.mp H
                  obtain ⟨t144, A210, H⟩ := H
                  replace H : (some (t144 == t142)) = some r := H
                  have A21 := Aside0.mk A210
                  clear A210
                  obtain rfl := Option.some.inj H
                  go_wp2_with (first | ((with_reducible refine gate_callee (f := 21) rfl ?_); refine goesL_ (some 13) rfl rfl Try.func21 (by kernel_rfl) rfl #[.string a0] rfl (by (try simp only [List.map_toArray, List.map_cons, List.map_nil]); first | done | rfl | (simp only [List.length_drop, List.length_take]; rfl)) ?_; (with_reducible refine (laws_long.calls a0 false _ A11.out).mono ?_); rintro e w' ⟨rfl, ⟨nd, rfl⟩⟩; refine ⟨_, rfl, ?_⟩) | (go_at_call 19; (with_reducible refine (impl_LegacyMetric.calls a0 t139 _ A13.out).mono ?_); rintro e w22 ⟨rfl, hb⟩; have n0_ := Aside0.mk (below_step (by repeat (first | (with_reducible first | exact HB.out | apply below_alloc | apply pw_below_drewN | apply below_drew1) | exact HB.out)) hb); clear HB; have HB := n0_; clear n0_; (try clear hb); (try clear hb2); (try clear hk); (try clear hi)) | (go_at_call 22; (with_reducible refine (laws_legacy.calls kj2 a0 true t140 _ A14.out).mono ?_); rintro e w' ⟨rfl, ⟨nd, rfl⟩⟩) | (go_at_call 20; (with_reducible refine (impl_LegacyLabel.calls a0 t141 _ A16.out).mono ?_); rintro e w23 ⟨rfl, hb⟩; have n0_ := Aside0.mk (below_step (by repeat (first | (with_reducible first | exact HB.out | apply below_alloc | apply pw_below_drewN | apply below_drew1) | exact HB.out)) hb); clear HB; have HB := n0_; clear n0_; (try clear hb); (try clear hb2); (try clear hk); (try clear hi)) | (go_at_call 22; (with_reducible refine (laws_legacy.calls kj2 a0 false t142 _ A17.out).mono ?_); rintro e w' ⟨rfl, ⟨nd, rfl⟩⟩) | (go_at_call 23; (with_reducible refine (spec_LegacyMetric.calls kj2 a0 t143 _ A19.out).mono ?_); rintro e w' ⟨rfl, ⟨nd, rfl⟩⟩) | (go_at_call 24; (with_reducible refine (spec_LegacyLabel.calls kj2 a0 t144 _ A21.out).mono ?_); rintro e w' ⟨rfl, ⟨nd, rfl⟩⟩))
                  go_ret
                  exact ⟨by first | rfl | (simp [errW_none, errW_some] <;> rfl) | (simp [*, errW_none, errW_some] <;> rfl) | (simp [*, q_isEmpty]; done), by repeat (first | (with_reducible first | exact HB.out | apply below_alloc | apply pw_below_drewN | apply below_drew1) | exact HB.out)⟩
                · rw [if_neg c20] at H
                  have c20b0 : (t143 == t140) = false := by simpa using c20
                  (try (have c20b1 : decide (t143 = t140) = false := by simpa using c20))
                  (try (have c20b2 : (t143 == t140) = false := by simpa using c20))
                  (try (have c20b3 : ¬ (t143 = t140) := by simpa using c20))
                  clear c20
                  obtain rfl := Option.some.inj H
                  go_wp2_with (first | ((with_reducible refine gate_callee (f := 21) rfl ?_); refine goesL_ (some 13) rfl rfl Try.func21 (by kernel_rfl) rfl #[.string a0] rfl (by (try simp only [List.map_toArray, List.map_cons, List.map_nil]); first | done | rfl | (simp only [List.length_drop, List.length_take]; rfl)) ?_; (with_reducible refine (laws_long.calls a0 false _ A11.out).mono ?_); rintro e w' ⟨rfl, ⟨nd, rfl⟩⟩; refine ⟨_, rfl, ?_⟩) | (go_at_call 19; (with_reducible refine (impl_LegacyMetric.calls a0 t139 _ A13.out).mono ?_); rintro e w24 ⟨rfl, hb⟩; have n0_ := Aside0.mk (below_step (by repeat (first | (with_reducible first | exact HB.out | apply below_alloc | apply pw_below_drewN | apply below_drew1) | exact HB.out)) hb); clear HB; have HB := n0_; clear n0_; (try clear hb); (try clear hb2); (try clear hk); (try clear hi)) | (go_at_call 22; (with_reducible refine (laws_legacy.calls kj2 a0 true t140 _ A14.out).mono ?_); rintro e w' ⟨rfl, ⟨nd, rfl⟩⟩) | (go_at_call 20; (with_reducible refine (impl_LegacyLabel.calls a0 t141 _ A16.out).mono ?_); rintro e w25 ⟨rfl, hb⟩; have n0_ := Aside0.mk (below_step (by repeat (first | (with_reducible first | exact HB.out | apply below_alloc | apply pw_below_drewN | apply below_drew1) | exact HB.out)) hb); clear HB; have HB := n0_; clear n0_; (try clear hb); (try clear hb2); (try clear hk); (try clear hi)) | (go_at_call 22; (with_reducible refine (laws_legacy.calls kj2 a0 false t142 _ A17.out).mono ?_); rintro e w' ⟨rfl, ⟨nd, rfl⟩⟩) | (go_at_call 23; (with_reducible refine (spec_LegacyMetric.calls kj2 a0 t143 _ A19.out).mono ?_); rintro e w' ⟨rfl, ⟨nd, rfl⟩⟩))
                  go_ret
                  exact ⟨by first | rfl | (simp [errW_none, errW_some] <;> rfl) | (simp [*, errW_none, errW_some] <;> rfl) | (simp [*, q_isEmpty]; done), by repeat (first | (with_reducible first | exact HB.out | apply below_alloc | apply pw_below_drewN | apply below_drew1) | exact HB.out)⟩
              · rw [if_neg c18] at H
                have c18b0 : (t141 == t142) = false := by simpa using c18
                (try (have c18b1 : decide (t141 = t142) = false := by simpa using c18))
                (try (have c18b2 : (t141 == t142) = false := by simpa using c18))
                (try (have c18b3 : ¬ (t141 = t142) := by simpa using c18))
                clear c18
                obtain rfl := Option.some.inj H
                go_wp2_with (first | ((with_reducible refine gate_callee (f := 21) rfl ?_); refine goesL_ (some 13) rfl rfl Try.func21 (by kernel_rfl) rfl #[.string a0] rfl (by (try simp only [List.map_toArray, List.map_cons, List.map_nil]); first | done | rfl | (simp only [List.length_drop, List.length_take]; rfl)) ?_; (with_reducible refine (laws_long.calls a0 false _ A11.out).mono ?_); rintro e w' ⟨rfl, ⟨nd, rfl⟩⟩; refine ⟨_, rfl, ?_⟩) | (go_at_call 19; (with_reducible refine (impl_LegacyMetric.calls a0 t139 _ A13.out).mono ?_); rintro e w26 ⟨rfl, hb⟩; have n0_ := Aside0.mk (below_step (by repeat (first | (with_reducible first | exact HB.out | apply below_alloc | apply pw_below_drewN | apply below_drew1) | exact HB.out)) hb); clear HB; have HB := n0_; clear n0_; (try clear hb); (try clear hb2); (try clear hk); (try clear hi)) | (go_at_call 22; (with_reducible refine (laws_legacy.calls kj2 a0 true t140 _ A14.out).mono ?_); rintro e w' ⟨rfl, ⟨nd, rfl⟩⟩) | (go_at_call 20; (with_reducible refine (impl_LegacyLabel.calls a0 t141 _ A16.out).mono ?_); rintro e w27 ⟨rfl, hb⟩; have n0_ := Aside0.mk (below_step (by repeat (first | (with_reducible first | exact HB.out | apply below_alloc | apply pw_below_drewN | apply below_drew1) | exact HB.out)) hb); clear HB; have HB := n0_; clear n0_; (try clear hb); (try clear hb2); (try clear hk); (try clear hi)) | (go_at_call 22; (with_reducible refine (laws_legacy.calls kj2 a0 false t142 _ A17.out).mono ?_); rintro e w' ⟨rfl, ⟨nd, rfl⟩⟩))
                go_ret
                exact ⟨by first | rfl | (simp [errW_none, errW_some] <;> rfl) | (simp [*, errW_none, errW_some] <;> rfl) | (simp [*, q_isEmpty]; done), by repeat (first | (with_reducible first | exact HB.out | apply below_alloc | apply pw_below_drewN | apply below_drew1) | exact HB.out)⟩
            · rw [if_neg c15] at H
              have c15b0 : (t139 == t140) = false := by simpa using c15
              (try (have c15b1 : decide (t139 = t140) = false := by simpa using c15))
              (try (have c15b2 : (t139 == t140) = false := by simpa using c15))
              (try (have c15b3 : ¬ (t139 = t140) := by simpa using c15))
              clear c15
              obtain rfl := Option.some.inj H
              go_wp2_with (first | ((with_reducible refine gate_callee (f := 21) rfl ?_); refine goesL_ (some 13) rfl rfl Try.func21 (by kernel_rfl) rfl #[.string a0] rfl (by (try simp only [List.map_toArray, List.map_cons, List.map_nil]); first | done | rfl | (simp only [List.length_drop, List.length_take]; rfl)) ?_; (with_reducible refine (laws_long.calls a0 false _ A11.out).mono ?_); rintro e w' ⟨rfl, ⟨nd, rfl⟩⟩; refine ⟨_, rfl, ?_⟩) | (go_at_call 19; (with_reducible refine (impl_LegacyMetric.calls a0 t139 _ A13.out).mono ?_); rintro e w28 ⟨rfl, hb⟩; have n0_ := Aside0.mk (below_step (by repeat (first | (with_reducible first | exact HB.out | apply below_alloc | apply pw_below_drewN | apply below_drew1) | exact HB.out)) hb); clear HB; have HB := n0_; clear n0_; (try clear hb); (try clear hb2); (try clear hk); (try clear hi)) | (go_at_call 22; (with_reducible refine (laws_legacy.calls kj2 a0 true t140 _ A14.out).mono ?_); rintro e w' ⟨rfl, ⟨nd, rfl⟩⟩))
              go_ret
              exact ⟨by first | rfl | (simp [errW_none, errW_some] <;> rfl) | (simp [*, errW_none, errW_some] <;> rfl) | (simp [*, q_isEmpty]; done), by repeat (first | (with_reducible first | exact HB.out | apply below_alloc | apply pw_below_drewN | apply below_drew1) | exact HB.out)⟩

end Go.Proofs.Ytbcijcmmpbkkbaa.Q
