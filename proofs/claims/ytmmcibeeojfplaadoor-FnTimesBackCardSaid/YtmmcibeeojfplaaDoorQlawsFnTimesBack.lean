-- Printed for this seat by wip/pp.py of this repo; nothing here is trusted: Lean checks it.
import Derived.Test.YtmmcibeeojfplaaDoorQ0
import Derived.Test.YtmmcibeeojfplaaDoorHTimesB
import Derived.Test.YtmmcibeeojfplaaDoorQspecTimeTexts
namespace Go.Proofs.YtmmcibeeojfplaaDoor.Q
open Go.RowKit Go.Proofs.YtmmcibeeojfplaaDoorW.PrintWords Go.Proofs.YtmmcibeeojfplaaDoorW.PrintLast Go.Proofs.YtmmcibeeojfplaaDoorW.PrintMore
attribute [local go_sem] max2_int min2_int max_two min_two max_three min_three max_four min_four   -- for this text's walks alone
set_option linter.unusedVariables false
set_option linter.unusedSimpArgs false

/-! ### laws_FnTimesBack: function 8 -/
def laws_FnTimesBack.j0 : Nat → Int → Int → Bool → Option (Bool)
  | 0, _, _, _ => none
  | k + 1, x0, x1, x25 => if x25 = true then ((impl_Times.f (⟨#[48, 48, 58, 48, 48]⟩ : ByteArray) (⟨#[50, 52, 58, 48, 48]⟩ : ByteArray)).bind fun bt168 => (if bt168.2.2 = true then (if bt168.1 = 0 then (some (bt168.2.1 == 1440)) else (some false)) else (some false))) else ((impl_TimeTexts.f x0 x1).bind fun bt171 => ((spec_TimeTexts.f x0 x1).bind fun bt173 => ((impl_Times.f bt171.1 bt171.2).bind fun bt175 => (if bt171.1.toList = bt173.1.toList then (if bt171.2.toList = bt173.2.toList then (if bt175.2.2 = true then (if bt175.1 = x0 then (some (bt175.2.1 == x1)) else (some false)) else (some false)) else (some false)) else (some false)))))
def laws_FnTimesBack.f (k : Nat) (a0 : Int) (a1 : Int) : Option (Bool) := if a0 < 0 then (laws_FnTimesBack.j0 k a0 a1 true) else (if a0 ≥ a1 then (laws_FnTimesBack.j0 k a0 a1 true) else (laws_FnTimesBack.j0 k a0 a1 (decide (a1 > 1440))))
theorem laws_FnTimesBack.mono_l : ∀ k, (∀ y0 y1 y2, LeO (laws_FnTimesBack.j0 k y0 y1 y2) (laws_FnTimesBack.j0 (k + 1) y0 y1 y2))
  | 0 => fun _ _ _ r h => by simp [laws_FnTimesBack.j0] at h
  | k + 1 => by
    have ih0 := laws_FnTimesBack.mono_l k
    · intro y0 y1 y2
      unfold laws_FnTimesBack.j0
      repeat' first
      | (with_reducible exact ih0 _ _ _)
      | (with_reducible exact LeO.refl _)
      | (with_reducible exact LeO.none _)
      | (with_reducible refine LeO.ite ?_ ?_)
      | (with_reducible refine LeO.bind ?_ (fun _ => ?_))
      | exact ih0 _ _ _
      | exact LeO.none _
      | refine LeO.ite ?_ ?_
      | refine LeO.bind ?_ (fun _ => ?_)
theorem laws_FnTimesBack.mono : ∀ a0 a1 k, LeO (laws_FnTimesBack.f k a0 a1) (laws_FnTimesBack.f (k + 1) a0 a1) := by
  intro a0 a1 k
  have ih0 := laws_FnTimesBack.mono_l k
  unfold laws_FnTimesBack.f
  repeat' first
      | (with_reducible exact ih0 _ _ _)
      | (with_reducible exact LeO.refl _)
      | (with_reducible exact LeO.none _)
      | (with_reducible refine LeO.ite ?_ ?_)
      | (with_reducible refine LeO.bind ?_ (fun _ => ?_))
      | exact ih0 _ _ _
      | exact LeO.none _
      | refine LeO.ite ?_ ?_
      | refine LeO.bind ?_ (fun _ => ?_)
set_option maxHeartbeats 8000000 in
set_option maxRecDepth 100000 in
theorem laws_FnTimesBack.calls (k : Nat) (a0 : Int) (a1 : Int) (r : Bool) (w : World) (h : laws_FnTimesBack.f k a0 a1 = some r) :
    Calls Tryd.prog 8 #[.int .i64 a0, .int .i64 a1] w fun e w' => e = .returned (.bool r) ∧ Below w.heap.size w w' := by
  have HB := Aside0.mk (Below.refl w.heap.size w)
  have H : (if a0 < 0 then (laws_FnTimesBack.j0 k a0 a1 true) else (if a0 ≥ a1 then (laws_FnTimesBack.j0 k a0 a1 true) else (laws_FnTimesBack.j0 k a0 a1 (decide (a1 > 1440))))) = some r := h
  clear h
  have HC3 := Aside0.mk H
  clear H
  go_enter Tryd.func8, Tryd.ntmps8
  go_upto_region 1 with (fail)
  go_cut [25] (fun v25 wc => ∃ (kq : Nat) (x25_2 : Bool), v25 = .bool x25_2 ∧ Aside0 (laws_FnTimesBack.j0 kq a0 a1 x25_2 = some r) ∧ Aside0 (kq ≤ k) ∧ Aside0 (Below w.heap.size w wc))
  case first =>
    have H := HC3.out
    clear HC3
    by_cases c4 : a0 < 0
    · rw [if_pos c4] at H
      have c4b0 : decide (a0 < 0) = true := decide_eq_true c4
      clear c4
      (first | rw [c4b0] | (simp only [i64_w, i32_w]; rw [c4b0]) | skip)
      have H' := Aside0.mk H
      clear H
      go_wp2
      go_meet
      case rel => exact ⟨_, (true), (by first | rfl | (simp; done) | (simp [*]; done) | (simp [*, q_isEmpty]; done) | (simp [*]; exact q_gt _ _ (by assumption))), H', ⟨by first | omega | exact Nat.le_refl _⟩, ⟨by repeat (first | (with_reducible first | exact HB.out | apply below_alloc | apply pw_below_drewN | apply below_drew1) | exact HB.out)⟩⟩
    · rw [if_neg c4] at H
      have c4b0 : decide (a0 < 0) = false := decide_eq_false c4
      clear c4
      (first | rw [c4b0] | (simp only [i64_w, i32_w]; rw [c4b0]) | skip)
      by_cases c5 : a0 ≥ a1
      · rw [if_pos c5] at H
        have c5b0 : decide (a1 ≤ a0) = true := decide_eq_true c5
        clear c5
        have H' := Aside0.mk H
        clear H
        go_wp2
        go_meet
        case rel => exact ⟨_, (true), (by first | rfl | (simp; done) | (simp [*]; done) | (simp [*, q_isEmpty]; done) | (simp [*]; exact q_gt _ _ (by assumption))), H', ⟨by first | omega | exact Nat.le_refl _⟩, ⟨by repeat (first | (with_reducible first | exact HB.out | apply below_alloc | apply pw_below_drewN | apply below_drew1) | exact HB.out)⟩⟩
      · rw [if_neg c5] at H
        have c5b0 : decide (a1 ≤ a0) = false := decide_eq_false c5
        clear c5
        have H' := Aside0.mk H
        clear H
        go_wp2
        go_meet
        case rel => exact ⟨_, (decide (a1 > 1440)), (by first | rfl | (simp; done) | (simp [*]; done) | (simp [*, q_isEmpty]; done) | (simp [*]; exact q_gt _ _ (by assumption))), H', ⟨by first | omega | exact Nat.le_refl _⟩, ⟨by repeat (first | (with_reducible first | exact HB.out | apply below_alloc | apply pw_below_drewN | apply below_drew1) | exact HB.out)⟩⟩
  case rest =>
    clear HC3
    try clear p2
    try clear c4
    try clear c4b0
    try clear c5
    try clear c5b0
    obtain ⟨kq, x25_2, rfl, HA, HJ2, HB⟩ := hcut
    cases kq with
    | zero => exact absurd HA.out (by simp [laws_FnTimesBack.j0])
    | succ kj2 =>
      have H := HA.out
      clear HA
      simp only [laws_FnTimesBack.j0] at H
      by_cases c6 : x25_2 = true
      · subst c6
        have H1 : ((impl_Times.f (⟨#[48, 48, 58, 48, 48]⟩ : ByteArray) (⟨#[50, 52, 58, 48, 48]⟩ : ByteArray)).bind fun bt168 => (if bt168.2.2 = true then (if bt168.1 = 0 then (some (bt168.2.1 == 1440)) else (some false)) else (some false))) = some r := by rw [if_pos rfl] at H; exact H
        clear H
        have H := H1
        clear H1
        replace H := Option.bind_eq_some_iff.mp H
        obtain ⟨⟨t168, t169, t170⟩, A70, H⟩ := H
        replace H : (if t170 = true then (if t168 = 0 then (some (t169 == 1440)) else (some false)) else (some false)) = some r := H
        have A7 := Aside0.mk A70
        clear A70
        by_cases c8 : t170 = true
        · subst c8
          have H1 : (if t168 = 0 then (some (t169 == 1440)) else (some false)) = some r := by rw [if_pos rfl] at H; exact H
          clear H
          have H := H1
          clear H1
          by_cases c9 : t168 = 0
          · rw [if_pos c9] at H
            have c9b0 : (t168 == 0) = true := beq_iff_eq.mpr c9
            have c9b1 : (t168 != 0) = false := bne_eq_false_iff_eq.mpr c9
            clear c9
            obtain rfl := Option.some.inj H
            go_wp2_with (first | ((with_reducible refine gate_callee (f := 30) rfl ?_); refine goesL_ (some 27) rfl rfl Tryd.func30 (by kernel_rfl) rfl #[.string (⟨#[48, 48, 58, 48, 48]⟩ : ByteArray), .string (⟨#[50, 52, 58, 48, 48]⟩ : ByteArray)] rfl (by (try simp only [List.map_toArray, List.map_cons, List.map_nil]); first | done | rfl | (simp only [List.length_drop, List.length_take]; rfl)) ?_; (with_reducible refine (impl_Times.calls (⟨#[48, 48, 58, 48, 48]⟩ : ByteArray) (⟨#[50, 52, 58, 48, 48]⟩ : ByteArray) t168 t169 true _ A7.out).mono ?_); rintro e w10 ⟨rfl, hb⟩; refine ⟨_, rfl, ?_⟩; have n0_ := Aside0.mk (below_step (by repeat (first | (with_reducible first | exact HB.out | apply below_alloc | apply pw_below_drewN | apply below_drew1) | exact HB.out)) hb); clear HB; have HB := n0_; clear n0_; (try clear hb); (try clear hb2); (try clear hk); (try clear hi)))
            go_ret
            exact ⟨by first | rfl | (simp [errW_none, errW_some] <;> rfl) | (simp [*, errW_none, errW_some] <;> rfl) | (simp [*, q_isEmpty]; done) | (simp [*]; exact q_gt _ _ (by assumption)), by repeat (first | (with_reducible first | exact HB.out | apply below_alloc | apply pw_below_drewN | apply below_drew1) | exact HB.out)⟩
          · rw [if_neg c9] at H
            have c9b0 : (t168 == 0) = false := beq_eq_false_iff_ne.mpr c9
            have c9b1 : (t168 != 0) = true := bne_iff_ne.mpr c9
            obtain rfl := Option.some.inj H
            go_wp2_with (first | ((with_reducible refine gate_callee (f := 30) rfl ?_); refine goesL_ (some 27) rfl rfl Tryd.func30 (by kernel_rfl) rfl #[.string (⟨#[48, 48, 58, 48, 48]⟩ : ByteArray), .string (⟨#[50, 52, 58, 48, 48]⟩ : ByteArray)] rfl (by (try simp only [List.map_toArray, List.map_cons, List.map_nil]); first | done | rfl | (simp only [List.length_drop, List.length_take]; rfl)) ?_; (with_reducible refine (impl_Times.calls (⟨#[48, 48, 58, 48, 48]⟩ : ByteArray) (⟨#[50, 52, 58, 48, 48]⟩ : ByteArray) t168 t169 true _ A7.out).mono ?_); rintro e w11 ⟨rfl, hb⟩; refine ⟨_, rfl, ?_⟩; have n0_ := Aside0.mk (below_step (by repeat (first | (with_reducible first | exact HB.out | apply below_alloc | apply pw_below_drewN | apply below_drew1) | exact HB.out)) hb); clear HB; have HB := n0_; clear n0_; (try clear hb); (try clear hb2); (try clear hk); (try clear hi)))
            go_ret
            exact ⟨by first | rfl | (simp [errW_none, errW_some] <;> rfl) | (simp [*, errW_none, errW_some] <;> rfl) | (simp [*, q_isEmpty]; done) | (simp [*]; exact q_gt _ _ (by assumption)), by repeat (first | (with_reducible first | exact HB.out | apply below_alloc | apply pw_below_drewN | apply below_drew1) | exact HB.out)⟩
        · replace c8 := Bool.eq_false_iff.mpr c8
          subst c8
          have H1 : (some false) = some r := by rw [if_neg (show ¬ (false = true) by decide)] at H; exact H
          clear H
          have H := H1
          clear H1
          obtain rfl := Option.some.inj H
          go_wp2_with (first | ((with_reducible refine gate_callee (f := 30) rfl ?_); refine goesL_ (some 27) rfl rfl Tryd.func30 (by kernel_rfl) rfl #[.string (⟨#[48, 48, 58, 48, 48]⟩ : ByteArray), .string (⟨#[50, 52, 58, 48, 48]⟩ : ByteArray)] rfl (by (try simp only [List.map_toArray, List.map_cons, List.map_nil]); first | done | rfl | (simp only [List.length_drop, List.length_take]; rfl)) ?_; (with_reducible refine (impl_Times.calls (⟨#[48, 48, 58, 48, 48]⟩ : ByteArray) (⟨#[50, 52, 58, 48, 48]⟩ : ByteArray) t168 t169 false _ A7.out).mono ?_); rintro e w12 ⟨rfl, hb⟩; refine ⟨_, rfl, ?_⟩; have n0_ := Aside0.mk (below_step (by repeat (first | (with_reducible first | exact HB.out | apply below_alloc | apply pw_below_drewN | apply below_drew1) | exact HB.out)) hb); clear HB; have HB := n0_; clear n0_; (try clear hb); (try clear hb2); (try clear hk); (try clear hi)))
          go_ret
          exact ⟨by first | rfl | (simp [errW_none, errW_some] <;> rfl) | (simp [*, errW_none, errW_some] <;> rfl) | (simp [*, q_isEmpty]; done) | (simp [*]; exact q_gt _ _ (by assumption)), by repeat (first | (with_reducible first | exact HB.out | apply below_alloc | apply pw_below_drewN | apply below_drew1) | exact HB.out)⟩
      · replace c6 := Bool.eq_false_iff.mpr c6
        subst c6
        have H1 : ((impl_TimeTexts.f a0 a1).bind fun bt171 => ((spec_TimeTexts.f a0 a1).bind fun bt173 => ((impl_Times.f bt171.1 bt171.2).bind fun bt175 => (if bt171.1.toList = bt173.1.toList then (if bt171.2.toList = bt173.2.toList then (if bt175.2.2 = true then (if bt175.1 = a0 then (some (bt175.2.1 == a1)) else (some false)) else (some false)) else (some false)) else (some false))))) = some r := by rw [if_neg (show ¬ (false = true) by decide)] at H; exact H
        clear H
        have H := H1
        clear H1
        replace H := Option.bind_eq_some_iff.mp H
        obtain ⟨⟨t171, t172⟩, A130, H⟩ := H
        replace H : ((spec_TimeTexts.f a0 a1).bind fun bt173 => ((impl_Times.f t171 t172).bind fun bt175 => (if t171.toList = bt173.1.toList then (if t172.toList = bt173.2.toList then (if bt175.2.2 = true then (if bt175.1 = a0 then (some (bt175.2.1 == a1)) else (some false)) else (some false)) else (some false)) else (some false)))) = some r := H
        have A13 := Aside0.mk A130
        clear A130
        replace H := Option.bind_eq_some_iff.mp H
        obtain ⟨⟨t173, t174⟩, A140, H⟩ := H
        replace H : ((impl_Times.f t171 t172).bind fun bt175 => (if t171.toList = t173.toList then (if t172.toList = t174.toList then (if bt175.2.2 = true then (if bt175.1 = a0 then (some (bt175.2.1 == a1)) else (some false)) else (some false)) else (some false)) else (some false))) = some r := H
        have A14 := Aside0.mk A140
        clear A140
        replace H := Option.bind_eq_some_iff.mp H
        obtain ⟨⟨t175, t176, t177⟩, A150, H⟩ := H
        replace H : (if t171.toList = t173.toList then (if t172.toList = t174.toList then (if t177 = true then (if t175 = a0 then (some (t176 == a1)) else (some false)) else (some false)) else (some false)) else (some false)) = some r := H
        have A15 := Aside0.mk A150
        clear A150
        by_cases c16 : t171.toList = t173.toList
        · rw [if_pos c16] at H
          have c16b0 : (t171.toList == t173.toList) = true := beq_iff_eq.mpr c16
          have c16b1 : (t171.toList != t173.toList) = false := bne_eq_false_iff_eq.mpr c16
          clear c16
          by_cases c17 : t172.toList = t174.toList
          · rw [if_pos c17] at H
            have c17b0 : (t172.toList == t174.toList) = true := beq_iff_eq.mpr c17
            have c17b1 : (t172.toList != t174.toList) = false := bne_eq_false_iff_eq.mpr c17
            clear c17
            by_cases c18 : t177 = true
            · subst c18
              have H1 : (if t175 = a0 then (some (t176 == a1)) else (some false)) = some r := by rw [if_pos rfl] at H; exact H
              clear H
              have H := H1
              clear H1
              by_cases c19 : t175 = a0
              · rw [if_pos c19] at H
                have c19b0 : (t175 == a0) = true := beq_iff_eq.mpr c19
                have c19b1 : (t175 != a0) = false := bne_eq_false_iff_eq.mpr c19
                clear c19
                obtain rfl := Option.some.inj H
                go_wp2_with (first | ((with_reducible refine gate_callee (f := 31) rfl ?_); refine goesL_ (some 43) rfl rfl Tryd.func31 (by kernel_rfl) rfl #[.int .i64 a0, .int .i64 a1] rfl (by (try simp only [List.map_toArray, List.map_cons, List.map_nil]); first | done | rfl | (simp only [List.length_drop, List.length_take]; rfl)) ?_; (with_reducible refine (impl_TimeTexts.calls a0 a1 t171 t172 _ A13.out).mono ?_); rintro e w20 ⟨rfl, hb⟩; refine ⟨_, rfl, ?_⟩; have n0_ := Aside0.mk (below_step (by repeat (first | (with_reducible first | exact HB.out | apply below_alloc | apply pw_below_drewN | apply below_drew1) | exact HB.out)) hb); clear HB; have HB := n0_; clear n0_; (try clear hb); (try clear hb2); (try clear hk); (try clear hi)) | ((with_reducible refine gate_callee (f := 32) rfl ?_); refine goesL_ (some 49) rfl rfl Tryd.func32 (by kernel_rfl) rfl #[.int .i64 a0, .int .i64 a1] rfl (by (try simp only [List.map_toArray, List.map_cons, List.map_nil]); first | done | rfl | (simp only [List.length_drop, List.length_take]; rfl)) ?_; (with_reducible refine (spec_TimeTexts.calls a0 a1 t173 t174 _ A14.out).mono ?_); rintro e w21 ⟨rfl, hb⟩; refine ⟨_, rfl, ?_⟩; have n0_ := Aside0.mk (below_step (by repeat (first | (with_reducible first | exact HB.out | apply below_alloc | apply pw_below_drewN | apply below_drew1) | exact HB.out)) hb); clear HB; have HB := n0_; clear n0_; (try clear hb); (try clear hb2); (try clear hk); (try clear hi)) | ((with_reducible refine gate_callee (f := 30) rfl ?_); refine goesL_ (some 55) rfl rfl Tryd.func30 (by kernel_rfl) rfl #[.string t171, .string t172] rfl (by (try simp only [List.map_toArray, List.map_cons, List.map_nil]); first | done | rfl | (simp only [List.length_drop, List.length_take]; rfl)) ?_; (with_reducible refine (impl_Times.calls t171 t172 t175 t176 true _ A15.out).mono ?_); rintro e w22 ⟨rfl, hb⟩; refine ⟨_, rfl, ?_⟩; have n0_ := Aside0.mk (below_step (by repeat (first | (with_reducible first | exact HB.out | apply below_alloc | apply pw_below_drewN | apply below_drew1) | exact HB.out)) hb); clear HB; have HB := n0_; clear n0_; (try clear hb); (try clear hb2); (try clear hk); (try clear hi)))
                go_ret
                exact ⟨by first | rfl | (simp [errW_none, errW_some] <;> rfl) | (simp [*, errW_none, errW_some] <;> rfl) | (simp [*, q_isEmpty]; done) | (simp [*]; exact q_gt _ _ (by assumption)), by repeat (first | (with_reducible first | exact HB.out | apply below_alloc | apply pw_below_drewN | apply below_drew1) | exact HB.out)⟩
              · rw [if_neg c19] at H
                have c19b0 : (t175 == a0) = false := beq_eq_false_iff_ne.mpr c19
                have c19b1 : (t175 != a0) = true := bne_iff_ne.mpr c19
                obtain rfl := Option.some.inj H
                go_wp2_with (first | ((with_reducible refine gate_callee (f := 31) rfl ?_); refine goesL_ (some 43) rfl rfl Tryd.func31 (by kernel_rfl) rfl #[.int .i64 a0, .int .i64 a1] rfl (by (try simp only [List.map_toArray, List.map_cons, List.map_nil]); first | done | rfl | (simp only [List.length_drop, List.length_take]; rfl)) ?_; (with_reducible refine (impl_TimeTexts.calls a0 a1 t171 t172 _ A13.out).mono ?_); rintro e w23 ⟨rfl, hb⟩; refine ⟨_, rfl, ?_⟩; have n0_ := Aside0.mk (below_step (by repeat (first | (with_reducible first | exact HB.out | apply below_alloc | apply pw_below_drewN | apply below_drew1) | exact HB.out)) hb); clear HB; have HB := n0_; clear n0_; (try clear hb); (try clear hb2); (try clear hk); (try clear hi)) | ((with_reducible refine gate_callee (f := 32) rfl ?_); refine goesL_ (some 49) rfl rfl Tryd.func32 (by kernel_rfl) rfl #[.int .i64 a0, .int .i64 a1] rfl (by (try simp only [List.map_toArray, List.map_cons, List.map_nil]); first | done | rfl | (simp only [List.length_drop, List.length_take]; rfl)) ?_; (with_reducible refine (spec_TimeTexts.calls a0 a1 t173 t174 _ A14.out).mono ?_); rintro e w24 ⟨rfl, hb⟩; refine ⟨_, rfl, ?_⟩; have n0_ := Aside0.mk (below_step (by repeat (first | (with_reducible first | exact HB.out | apply below_alloc | apply pw_below_drewN | apply below_drew1) | exact HB.out)) hb); clear HB; have HB := n0_; clear n0_; (try clear hb); (try clear hb2); (try clear hk); (try clear hi)) | ((with_reducible refine gate_callee (f := 30) rfl ?_); refine goesL_ (some 55) rfl rfl Tryd.func30 (by kernel_rfl) rfl #[.string t171, .string t172] rfl (by (try simp only [List.map_toArray, List.map_cons, List.map_nil]); first | done | rfl | (simp only [List.length_drop, List.length_take]; rfl)) ?_; (with_reducible refine (impl_Times.calls t171 t172 t175 t176 true _ A15.out).mono ?_); rintro e w25 ⟨rfl, hb⟩; refine ⟨_, rfl, ?_⟩; have n0_ := Aside0.mk (below_step (by repeat (first | (with_reducible first | exact HB.out | apply below_alloc | apply pw_below_drewN | apply below_drew1) | exact HB.out)) hb); clear HB; have HB := n0_; clear n0_; (try clear hb); (try clear hb2); (try clear hk); (try clear hi)))
                go_ret
                exact ⟨by first | rfl | (simp [errW_none, errW_some] <;> rfl) | (simp [*, errW_none, errW_some] <;> rfl) | (simp [*, q_isEmpty]; done) | (simp [*]; exact q_gt _ _ (by assumption)), by repeat (first | (with_reducible first | exact HB.out | apply below_alloc | apply pw_below_drewN | apply below_drew1) | exact HB.out)⟩
            · replace c18 := Bool.eq_false_iff.mpr c18
              subst c18
              have H1 : (some false) = some r := by rw [if_neg (show ¬ (false = true) by decide)] at H; exact H
              clear H
              have H := H1
              clear H1
              obtain rfl := Option.some.inj H
              go_wp2_with (first | ((with_reducible refine gate_callee (f := 31) rfl ?_); refine goesL_ (some 43) rfl rfl Tryd.func31 (by kernel_rfl) rfl #[.int .i64 a0, .int .i64 a1] rfl (by (try simp only [List.map_toArray, List.map_cons, List.map_nil]); first | done | rfl | (simp only [List.length_drop, List.length_take]; rfl)) ?_; (with_reducible refine (impl_TimeTexts.calls a0 a1 t171 t172 _ A13.out).mono ?_); rintro e w26 ⟨rfl, hb⟩; refine ⟨_, rfl, ?_⟩; have n0_ := Aside0.mk (below_step (by repeat (first | (with_reducible first | exact HB.out | apply below_alloc | apply pw_below_drewN | apply below_drew1) | exact HB.out)) hb); clear HB; have HB := n0_; clear n0_; (try clear hb); (try clear hb2); (try clear hk); (try clear hi)) | ((with_reducible refine gate_callee (f := 32) rfl ?_); refine goesL_ (some 49) rfl rfl Tryd.func32 (by kernel_rfl) rfl #[.int .i64 a0, .int .i64 a1] rfl (by (try simp only [List.map_toArray, List.map_cons, List.map_nil]); first | done | rfl | (simp only [List.length_drop, List.length_take]; rfl)) ?_; (with_reducible refine (spec_TimeTexts.calls a0 a1 t173 t174 _ A14.out).mono ?_); rintro e w27 ⟨rfl, hb⟩; refine ⟨_, rfl, ?_⟩; have n0_ := Aside0.mk (below_step (by repeat (first | (with_reducible first | exact HB.out | apply below_alloc | apply pw_below_drewN | apply below_drew1) | exact HB.out)) hb); clear HB; have HB := n0_; clear n0_; (try clear hb); (try clear hb2); (try clear hk); (try clear hi)) | ((with_reducible refine gate_callee (f := 30) rfl ?_); refine goesL_ (some 55) rfl rfl Tryd.func30 (by kernel_rfl) rfl #[.string t171, .string t172] rfl (by (try simp only [List.map_toArray, List.map_cons, List.map_nil]); first | done | rfl | (simp only [List.length_drop, List.length_take]; rfl)) ?_; (with_reducible refine (impl_Times.calls t171 t172 t175 t176 false _ A15.out).mono ?_); rintro e w28 ⟨rfl, hb⟩; refine ⟨_, rfl, ?_⟩; have n0_ := Aside0.mk (below_step (by repeat (first | (with_reducible first | exact HB.out | apply below_alloc | apply pw_below_drewN | apply below_drew1) | exact HB.out)) hb); clear HB; have HB := n0_; clear n0_; (try clear hb); (try clear hb2); (try clear hk); (try clear hi)))
              go_ret
              exact ⟨by first | rfl | (simp [errW_none, errW_some] <;> rfl) | (simp [*, errW_none, errW_some] <;> rfl) | (simp [*, q_isEmpty]; done) | (simp [*]; exact q_gt _ _ (by assumption)), by repeat (first | (with_reducible first | exact HB.out | apply below_alloc | apply pw_below_drewN | apply below_drew1) | exact HB.out)⟩
          · rw [if_neg c17] at H
            have c17b0 : (t172.toList == t174.toList) = false := beq_eq_false_iff_ne.mpr c17
            have c17b1 : (t172.toList != t174.toList) = true := bne_iff_ne.mpr c17
            obtain rfl := Option.some.inj H
            go_wp2_with (first | ((with_reducible refine gate_callee (f := 31) rfl ?_); refine goesL_ (some 43) rfl rfl Tryd.func31 (by kernel_rfl) rfl #[.int .i64 a0, .int .i64 a1] rfl (by (try simp only [List.map_toArray, List.map_cons, List.map_nil]); first | done | rfl | (simp only [List.length_drop, List.length_take]; rfl)) ?_; (with_reducible refine (impl_TimeTexts.calls a0 a1 t171 t172 _ A13.out).mono ?_); rintro e w29 ⟨rfl, hb⟩; refine ⟨_, rfl, ?_⟩; have n0_ := Aside0.mk (below_step (by repeat (first | (with_reducible first | exact HB.out | apply below_alloc | apply pw_below_drewN | apply below_drew1) | exact HB.out)) hb); clear HB; have HB := n0_; clear n0_; (try clear hb); (try clear hb2); (try clear hk); (try clear hi)) | ((with_reducible refine gate_callee (f := 32) rfl ?_); refine goesL_ (some 49) rfl rfl Tryd.func32 (by kernel_rfl) rfl #[.int .i64 a0, .int .i64 a1] rfl (by (try simp only [List.map_toArray, List.map_cons, List.map_nil]); first | done | rfl | (simp only [List.length_drop, List.length_take]; rfl)) ?_; (with_reducible refine (spec_TimeTexts.calls a0 a1 t173 t174 _ A14.out).mono ?_); rintro e w30 ⟨rfl, hb⟩; refine ⟨_, rfl, ?_⟩; have n0_ := Aside0.mk (below_step (by repeat (first | (with_reducible first | exact HB.out | apply below_alloc | apply pw_below_drewN | apply below_drew1) | exact HB.out)) hb); clear HB; have HB := n0_; clear n0_; (try clear hb); (try clear hb2); (try clear hk); (try clear hi)) | ((with_reducible refine gate_callee (f := 30) rfl ?_); refine goesL_ (some 55) rfl rfl Tryd.func30 (by kernel_rfl) rfl #[.string t171, .string t172] rfl (by (try simp only [List.map_toArray, List.map_cons, List.map_nil]); first | done | rfl | (simp only [List.length_drop, List.length_take]; rfl)) ?_; (with_reducible refine (impl_Times.calls t171 t172 t175 t176 t177 _ A15.out).mono ?_); rintro e w31 ⟨rfl, hb⟩; refine ⟨_, rfl, ?_⟩; have n0_ := Aside0.mk (below_step (by repeat (first | (with_reducible first | exact HB.out | apply below_alloc | apply pw_below_drewN | apply below_drew1) | exact HB.out)) hb); clear HB; have HB := n0_; clear n0_; (try clear hb); (try clear hb2); (try clear hk); (try clear hi)))
            go_ret
            exact ⟨by first | rfl | (simp [errW_none, errW_some] <;> rfl) | (simp [*, errW_none, errW_some] <;> rfl) | (simp [*, q_isEmpty]; done) | (simp [*]; exact q_gt _ _ (by assumption)), by repeat (first | (with_reducible first | exact HB.out | apply below_alloc | apply pw_below_drewN | apply below_drew1) | exact HB.out)⟩
        · rw [if_neg c16] at H
          have c16b0 : (t171.toList == t173.toList) = false := beq_eq_false_iff_ne.mpr c16
          have c16b1 : (t171.toList != t173.toList) = true := bne_iff_ne.mpr c16
          obtain rfl := Option.some.inj H
          go_wp2_with (first | ((with_reducible refine gate_callee (f := 31) rfl ?_); refine goesL_ (some 43) rfl rfl Tryd.func31 (by kernel_rfl) rfl #[.int .i64 a0, .int .i64 a1] rfl (by (try simp only [List.map_toArray, List.map_cons, List.map_nil]); first | done | rfl | (simp only [List.length_drop, List.length_take]; rfl)) ?_; (with_reducible refine (impl_TimeTexts.calls a0 a1 t171 t172 _ A13.out).mono ?_); rintro e w32 ⟨rfl, hb⟩; refine ⟨_, rfl, ?_⟩; have n0_ := Aside0.mk (below_step (by repeat (first | (with_reducible first | exact HB.out | apply below_alloc | apply pw_below_drewN | apply below_drew1) | exact HB.out)) hb); clear HB; have HB := n0_; clear n0_; (try clear hb); (try clear hb2); (try clear hk); (try clear hi)) | ((with_reducible refine gate_callee (f := 32) rfl ?_); refine goesL_ (some 49) rfl rfl Tryd.func32 (by kernel_rfl) rfl #[.int .i64 a0, .int .i64 a1] rfl (by (try simp only [List.map_toArray, List.map_cons, List.map_nil]); first | done | rfl | (simp only [List.length_drop, List.length_take]; rfl)) ?_; (with_reducible refine (spec_TimeTexts.calls a0 a1 t173 t174 _ A14.out).mono ?_); rintro e w33 ⟨rfl, hb⟩; refine ⟨_, rfl, ?_⟩; have n0_ := Aside0.mk (below_step (by repeat (first | (with_reducible first | exact HB.out | apply below_alloc | apply pw_below_drewN | apply below_drew1) | exact HB.out)) hb); clear HB; have HB := n0_; clear n0_; (try clear hb); (try clear hb2); (try clear hk); (try clear hi)) | ((with_reducible refine gate_callee (f := 30) rfl ?_); refine goesL_ (some 55) rfl rfl Tryd.func30 (by kernel_rfl) rfl #[.string t171, .string t172] rfl (by (try simp only [List.map_toArray, List.map_cons, List.map_nil]); first | done | rfl | (simp only [List.length_drop, List.length_take]; rfl)) ?_; (with_reducible refine (impl_Times.calls t171 t172 t175 t176 t177 _ A15.out).mono ?_); rintro e w34 ⟨rfl, hb⟩; refine ⟨_, rfl, ?_⟩; have n0_ := Aside0.mk (below_step (by repeat (first | (with_reducible first | exact HB.out | apply below_alloc | apply pw_below_drewN | apply below_drew1) | exact HB.out)) hb); clear HB; have HB := n0_; clear n0_; (try clear hb); (try clear hb2); (try clear hk); (try clear hi)))
          go_ret
          exact ⟨by first | rfl | (simp [errW_none, errW_some] <;> rfl) | (simp [*, errW_none, errW_some] <;> rfl) | (simp [*, q_isEmpty]; done) | (simp [*]; exact q_gt _ _ (by assumption)), by repeat (first | (with_reducible first | exact HB.out | apply below_alloc | apply pw_below_drewN | apply below_drew1) | exact HB.out)⟩

end Go.Proofs.YtmmcibeeojfplaaDoor.Q
