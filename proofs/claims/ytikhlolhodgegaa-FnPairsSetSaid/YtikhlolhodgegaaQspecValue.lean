-- Printed for this seat by wip/pp.py of this repo; nothing here is trusted: Lean checks it.
import Derived.Test.YtikhlolhodgegaaQ0
namespace Go.Proofs.Ytikhlolhodgegaa.Q
open Go.RowKit Go.Proofs.YtikhlolhodgegaaW.PrintWords Go.Proofs.YtikhlolhodgegaaW.PrintLast Go.Proofs.YtikhlolhodgegaaW.PrintMore
attribute [local go_sem] max2_int min2_int max_two min_two max_three min_three max_four min_four   -- for this text's walks alone
set_option linter.unusedVariables false
set_option linter.unusedSimpArgs false

/-! ### spec_Value: function 26 -/
def spec_Value.l0 : Nat → List (S59) → ByteArray → ByteArray → Int → Int → Option (ByteArray)
  | 0, _, _, _, _, _ => none
  | k + 1, x0, x1, x5, x8, x9 => if x9 < x8 then (if 0 ≤ x9 then (if x9 < (x0.length : Int) then (if ((rd_T59 x0 x9).f0).toList = x1.toList then (spec_Value.l0 k x0 x1 ((rd_T59 x0 x9).f1) x8 (wrap64 (x9 + 1))) else (spec_Value.l0 k x0 x1 x5 x8 (wrap64 (x9 + 1)))) else (none)) else (none)) else (some x5)
def spec_Value.f (k : Nat) (l0 : List (S59)) (a1 : ByteArray) : Option (ByteArray) := spec_Value.l0 k l0 a1 (⟨#[]⟩ : ByteArray) (l0.length : Int) 0
theorem spec_Value.mono_l : ∀ k, (∀ y0 y1 y2 y3 y4, LeO (spec_Value.l0 k y0 y1 y2 y3 y4) (spec_Value.l0 (k + 1) y0 y1 y2 y3 y4))
  | 0 => fun _ _ _ _ _ r h => by simp [spec_Value.l0] at h
  | k + 1 => by
    have ih0 := spec_Value.mono_l k
    · intro y0 y1 y2 y3 y4
      unfold spec_Value.l0
      repeat' first
      | (with_reducible exact ih0 _ _ _ _ _)
      | (with_reducible exact LeO.refl _)
      | (with_reducible exact LeO.none _)
      | (with_reducible refine LeO.ite ?_ ?_)
      | (with_reducible refine LeO.bind ?_ (fun _ => ?_))
      | exact ih0 _ _ _ _ _
      | exact LeO.none _
      | refine LeO.ite ?_ ?_
      | refine LeO.bind ?_ (fun _ => ?_)
theorem spec_Value.mono : ∀ a0 a1 k, LeO (spec_Value.f k a0 a1) (spec_Value.f (k + 1) a0 a1) := by
  intro a0 a1 k
  have ih0 := spec_Value.mono_l k
  unfold spec_Value.f
  repeat' first
      | (with_reducible exact ih0 _ _ _ _ _)
      | (with_reducible exact LeO.refl _)
      | (with_reducible exact LeO.none _)
      | (with_reducible refine LeO.ite ?_ ?_)
      | (with_reducible refine LeO.bind ?_ (fun _ => ?_))
      | exact ih0 _ _ _ _ _
      | exact LeO.none _
      | refine LeO.ite ?_ ?_
      | refine LeO.bind ?_ (fun _ => ?_)
set_option maxHeartbeats 8000000 in
set_option maxRecDepth 100000 in
theorem spec_Value.calls (k : Nat) (A0 : Option Addr) (c0 : Nat) (l0 : List (S59)) (a1 : ByteArray) (r : ByteArray) (w : World) (hr0 : Kd.C k59 w A0 l0.length l0) (hc0 : l0.length ≤ c0) (h : spec_Value.f k l0 a1 = some r) :
    Calls Try.prog 26 #[.slice A0 l0.length c0, .string a1] w fun e w' => e = .returned (.string r) ∧ Drawn0 w w' := by
  have HR0 := Aside0.mk hr0
  have HC0 := Aside0.mk hc0
  clear hr0 hc0
  have H : (spec_Value.l0 k l0 a1 (⟨#[]⟩ : ByteArray) (l0.length : Int) 0) = some r := h
  clear h
  have H' := Aside0.mk H
  clear H
  go_enter Try.func26, Try.ntmps26
  go_wp2
  go_loopg [5, 9] k (fun kq v5 v9 w' => ∃ (x5_1 : ByteArray) (x9_1 : Int), v5 = .string x5_1 ∧ v9 = .int .i64 x9_1 ∧ Aside0 (spec_Value.l0 kq l0 a1 x5_1 (l0.length : Int) x9_1 = some r) ∧ Aside0 (kq ≤ k) ∧ Drawn0 w w')
  case atStart => exact ⟨((⟨#[]⟩ : ByteArray)), (0), (by first | rfl | (simp; done) | (simp [*]; done) | (simp [*, q_isEmpty]; done) | (simp [*]; exact q_gt _ _ (by assumption))), (by first | rfl | (simp; done) | (simp [*]; done) | (simp [*, q_isEmpty]; done) | (simp [*]; exact q_gt _ _ (by assumption))), H', ⟨Nat.le_refl _⟩, by repeat (first | exact Drawn0.refl _ | apply Drawn0.step)⟩
  case round =>
    clear H'
    try clear c2
    try clear p2
    obtain ⟨x5_1, x9_1, rfl, rfl, HA, HK1, ⟨m1, rfl⟩⟩ := hrel
    cases gk with
    | zero => exact absurd HA.out (by simp [spec_Value.l0])
    | succ k1 =>
      have H := HA.out
      clear HA
      simp only [spec_Value.l0] at H
      by_cases c3 : x9_1 < (l0.length : Int)
      · rw [if_pos c3] at H
        have c3b0 : decide (x9_1 < (l0.length : Int)) = true := decide_eq_true c3
        clear c3
        by_cases c4 : 0 ≤ x9_1
        · rw [if_pos c4] at H
          have c4b0 : decide (0 ≤ x9_1) = true := decide_eq_true c4
          clear c4
          by_cases c5 : x9_1 < (l0.length : Int)
          · rw [if_pos c5] at H
            have c5b0 : decide (x9_1 < (l0.length : Int)) = true := decide_eq_true c5
            clear c5
            by_cases c6 : ((rd_T59 l0 x9_1).f0).toList = a1.toList
            · rw [if_pos c6] at H
              have c6b0 : (((rd_T59 l0 x9_1).f0).toList == a1.toList) = true := beq_iff_eq.mpr c6
              have c6b1 : (((rd_T59 l0 x9_1).f0).toList != a1.toList) = false := bne_eq_false_iff_eq.mpr c6
              clear c6
              have H' := Aside0.mk H
              clear H
              have p110 : 0 ≤ (x9_1 : Int) := of_decide_eq_true (by first | (with_reducible assumption) | assumption)
              have q110 : x9_1 < (l0.length : Int) := of_decide_eq_true (by first | (with_reducible assumption) | assumption)
              obtain ⟨ad110, e110, hx110_0, hx110_1⟩ := at_T59 HR0.out x9_1 p110 q110
              cases e110
              replace p110 := eq_true p110
              replace q110 := eq_true q110
              have p111 : 0 ≤ (x9_1 : Int) := of_decide_eq_true (by first | (with_reducible assumption) | assumption)
              have q111 : x9_1 < (l0.length : Int) := of_decide_eq_true (by first | (with_reducible assumption) | assumption)
              obtain ⟨ad111, e111, hx111_0, hx111_1⟩ := at_T59 HR0.out x9_1 p111 q111
              obtain rfl : ad110 = ad111 := (by injection e111)
              replace p111 := eq_true p111
              replace q111 := eq_true q111
              go_wp2
              go_roundg k1
              case measure => have := HK1.out; omega
              case rel => exact ⟨((rd_T59 l0 x9_1).f1), (wrap64 (x9_1 + 1)), (by first | rfl | (simp; done) | (simp [*]; done) | (simp [*, q_isEmpty]; done) | (simp [*]; exact q_gt _ _ (by assumption))), (by first | rfl | (simp; done) | (simp [*]; done) | (simp [*, q_isEmpty]; done) | (simp [*]; exact q_gt _ _ (by assumption))), H', ⟨by have := HK1.out; omega⟩, by repeat (first | exact Drawn0.refl _ | apply Drawn0.step)⟩
            · rw [if_neg c6] at H
              have c6b0 : (((rd_T59 l0 x9_1).f0).toList == a1.toList) = false := beq_eq_false_iff_ne.mpr c6
              have c6b1 : (((rd_T59 l0 x9_1).f0).toList != a1.toList) = true := bne_iff_ne.mpr c6
              have H' := Aside0.mk H
              clear H
              have p110 : 0 ≤ (x9_1 : Int) := of_decide_eq_true (by first | (with_reducible assumption) | assumption)
              have q110 : x9_1 < (l0.length : Int) := of_decide_eq_true (by first | (with_reducible assumption) | assumption)
              obtain ⟨ad110, e110, hx110_0, hx110_1⟩ := at_T59 HR0.out x9_1 p110 q110
              cases e110
              replace p110 := eq_true p110
              replace q110 := eq_true q110
              go_wp2
              go_roundg k1
              case measure => have := HK1.out; omega
              case rel => exact ⟨(x5_1), (wrap64 (x9_1 + 1)), (by first | rfl | (simp; done) | (simp [*]; done) | (simp [*, q_isEmpty]; done) | (simp [*]; exact q_gt _ _ (by assumption))), (by first | rfl | (simp; done) | (simp [*]; done) | (simp [*, q_isEmpty]; done) | (simp [*]; exact q_gt _ _ (by assumption))), H', ⟨by have := HK1.out; omega⟩, by repeat (first | exact Drawn0.refl _ | apply Drawn0.step)⟩
          · rw [if_neg c5] at H
            exact absurd H (by simp)
        · rw [if_neg c4] at H
          exact absurd H (by simp)
      · rw [if_neg c3] at H
        have c3b0 : decide (x9_1 < (l0.length : Int)) = false := decide_eq_false c3
        clear c3
        obtain rfl := Option.some.inj H
        go_wp2
        go_ret
        exact ⟨by first | rfl | (simp; done) | (simp [*]; done) | (simp [*, q_isEmpty]; done) | (simp [*]; exact q_gt _ _ (by assumption)), by repeat (first | exact Drawn0.refl _ | apply Drawn0.step)⟩

end Go.Proofs.Ytikhlolhodgegaa.Q
