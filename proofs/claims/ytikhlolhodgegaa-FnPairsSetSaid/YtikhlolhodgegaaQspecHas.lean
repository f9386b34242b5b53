-- Printed for this seat by wip/pp.py of this repo; nothing here is trusted: Lean checks it.
import Derived.Test.YtikhlolhodgegaaQ0
namespace Go.Proofs.Ytikhlolhodgegaa.Q
open Go.RowKit Go.Proofs.YtikhlolhodgegaaW.PrintWords Go.Proofs.YtikhlolhodgegaaW.PrintLast Go.Proofs.YtikhlolhodgegaaW.PrintMore
attribute [local go_sem] max2_int min2_int max_two min_two max_three min_three max_four min_four   -- for this text's walks alone
set_option linter.unusedVariables false
set_option linter.unusedSimpArgs false

/-! ### spec_Has: function 27 -/
def spec_Has.l0 : Nat → List (S59) → ByteArray → Int → Int → Option (Bool)
  | 0, _, _, _, _ => none
  | k + 1, x0, x1, x7, x8 => if x8 < x7 then (if 0 ≤ x8 then (if x8 < (x0.length : Int) then (if ((rd_T59 x0 x8).f0).toList = x1.toList then (some true) else (spec_Has.l0 k x0 x1 x7 (wrap64 (x8 + 1)))) else (none)) else (none)) else (some false)
def spec_Has.f (k : Nat) (l0 : List (S59)) (a1 : ByteArray) : Option (Bool) := spec_Has.l0 k l0 a1 (l0.length : Int) 0
theorem spec_Has.mono_l : ∀ k, (∀ y0 y1 y2 y3, LeO (spec_Has.l0 k y0 y1 y2 y3) (spec_Has.l0 (k + 1) y0 y1 y2 y3))
  | 0 => fun _ _ _ _ r h => by simp [spec_Has.l0] at h
  | k + 1 => by
    have ih0 := spec_Has.mono_l k
    · intro y0 y1 y2 y3
      unfold spec_Has.l0
      repeat' first
      | (with_reducible exact ih0 _ _ _ _)
      | (with_reducible exact LeO.refl _)
      | (with_reducible exact LeO.none _)
      | (with_reducible refine LeO.ite ?_ ?_)
      | (with_reducible refine LeO.bind ?_ (fun _ => ?_))
      | exact ih0 _ _ _ _
      | exact LeO.none _
      | refine LeO.ite ?_ ?_
      | refine LeO.bind ?_ (fun _ => ?_)
theorem spec_Has.mono : ∀ a0 a1 k, LeO (spec_Has.f k a0 a1) (spec_Has.f (k + 1) a0 a1) := by
  intro a0 a1 k
  have ih0 := spec_Has.mono_l k
  unfold spec_Has.f
  repeat' first
      | (with_reducible exact ih0 _ _ _ _)
      | (with_reducible exact LeO.refl _)
      | (with_reducible exact LeO.none _)
      | (with_reducible refine LeO.ite ?_ ?_)
      | (with_reducible refine LeO.bind ?_ (fun _ => ?_))
      | exact ih0 _ _ _ _
      | exact LeO.none _
      | refine LeO.ite ?_ ?_
      | refine LeO.bind ?_ (fun _ => ?_)
set_option maxHeartbeats 8000000 in
set_option maxRecDepth 100000 in
theorem spec_Has.calls (k : Nat) (A0 : Option Addr) (c0 : Nat) (l0 : List (S59)) (a1 : ByteArray) (r : Bool) (w : World) (hr0 : Kd.C k59 w A0 l0.length l0) (hc0 : l0.length ≤ c0) (h : spec_Has.f k l0 a1 = some r) :
    Calls Try.prog 27 #[.slice A0 l0.length c0, .string a1] w fun e w' => e = .returned (.bool r) ∧ Drawn0 w w' := by
  have HR0 := Aside0.mk hr0
  have HC0 := Aside0.mk hc0
  clear hr0 hc0
  have H : (spec_Has.l0 k l0 a1 (l0.length : Int) 0) = some r := h
  clear h
  have H' := Aside0.mk H
  clear H
  go_enter Try.func27, Try.ntmps27
  go_wp2
  go_loopg [8] k (fun kq v8 w' => ∃ (x8_1 : Int), v8 = .int .i64 x8_1 ∧ Aside0 (spec_Has.l0 kq l0 a1 (l0.length : Int) x8_1 = some r) ∧ Aside0 (kq ≤ k) ∧ Drawn0 w w')
  case atStart => exact ⟨(0), (by first | rfl | (simp; done) | (simp [*]; done) | (simp [*, q_isEmpty]; done) | (simp [*]; exact q_gt _ _ (by assumption))), H', ⟨Nat.le_refl _⟩, by repeat (first | exact Drawn0.refl _ | apply Drawn0.step)⟩
  case round =>
    clear H'
    try clear c2
    try clear p2
    obtain ⟨x8_1, rfl, HA, HK1, ⟨m1, rfl⟩⟩ := hrel
    cases gk with
    | zero => exact absurd HA.out (by simp [spec_Has.l0])
    | succ k1 =>
      have H := HA.out
      clear HA
      simp only [spec_Has.l0] at H
      by_cases c3 : x8_1 < (l0.length : Int)
      · rw [if_pos c3] at H
        have c3b0 : decide (x8_1 < (l0.length : Int)) = true := decide_eq_true c3
        clear c3
        by_cases c4 : 0 ≤ x8_1
        · rw [if_pos c4] at H
          have c4b0 : decide (0 ≤ x8_1) = true := decide_eq_true c4
          clear c4
          by_cases c5 : x8_1 < (l0.length : Int)
          · rw [if_pos c5] at H
            have c5b0 : decide (x8_1 < (l0.length : Int)) = true := decide_eq_true c5
            clear c5
            by_cases c6 : ((rd_T59 l0 x8_1).f0).toList = a1.toList
            · rw [if_pos c6] at H
              have c6b0 : (((rd_T59 l0 x8_1).f0).toList == a1.toList) = true := beq_iff_eq.mpr c6
              have c6b1 : (((rd_T59 l0 x8_1).f0).toList != a1.toList) = false := bne_eq_false_iff_eq.mpr c6
              clear c6
              obtain rfl := Option.some.inj H
              have p112 : 0 ≤ (x8_1 : Int) := of_decide_eq_true (by first | (with_reducible assumption) | assumption)
              have q112 : x8_1 < (l0.length : Int) := of_decide_eq_true (by first | (with_reducible assumption) | assumption)
              obtain ⟨ad112, e112, hx112_0, hx112_1⟩ := at_T59 HR0.out x8_1 p112 q112
              cases e112
              replace p112 := eq_true p112
              replace q112 := eq_true q112
              go_wp2
              go_ret
              exact ⟨by first | rfl | (simp; done) | (simp [*]; done) | (simp [*, q_isEmpty]; done) | (simp [*]; exact q_gt _ _ (by assumption)), by repeat (first | exact Drawn0.refl _ | apply Drawn0.step)⟩
            · rw [if_neg c6] at H
              have c6b0 : (((rd_T59 l0 x8_1).f0).toList == a1.toList) = false := beq_eq_false_iff_ne.mpr c6
              have c6b1 : (((rd_T59 l0 x8_1).f0).toList != a1.toList) = true := bne_iff_ne.mpr c6
              have H' := Aside0.mk H
              clear H
              have p112 : 0 ≤ (x8_1 : Int) := of_decide_eq_true (by first | (with_reducible assumption) | assumption)
              have q112 : x8_1 < (l0.length : Int) := of_decide_eq_true (by first | (with_reducible assumption) | assumption)
              obtain ⟨ad112, e112, hx112_0, hx112_1⟩ := at_T59 HR0.out x8_1 p112 q112
              cases e112
              replace p112 := eq_true p112
              replace q112 := eq_true q112
              go_wp2
              go_roundg k1
              case measure => have := HK1.out; omega
              case rel => exact ⟨(wrap64 (x8_1 + 1)), (by first | rfl | (simp; done) | (simp [*]; done) | (simp [*, q_isEmpty]; done) | (simp [*]; exact q_gt _ _ (by assumption))), H', ⟨by have := HK1.out; omega⟩, by repeat (first | exact Drawn0.refl _ | apply Drawn0.step)⟩
          · rw [if_neg c5] at H
            exact absurd H (by simp)
        · rw [if_neg c4] at H
          exact absurd H (by simp)
      · rw [if_neg c3] at H
        have c3b0 : decide (x8_1 < (l0.length : Int)) = false := decide_eq_false c3
        clear c3
        obtain rfl := Option.some.inj H
        go_wp2
        go_ret
        exact ⟨by first | rfl | (simp; done) | (simp [*]; done) | (simp [*, q_isEmpty]; done) | (simp [*]; exact q_gt _ _ (by assumption)), by repeat (first | exact Drawn0.refl _ | apply Drawn0.step)⟩

end Go.Proofs.Ytikhlolhodgegaa.Q
