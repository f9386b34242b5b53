/- Printed for this seat by wip/pp.py of this repo; nothing here is trusted: Lean checks it. -/
import Derived.Test.YtnnhehlieakedaaGreatDoorQ0
import Derived.Test.YtnnhehlieakedaaGreatDoorQspecSM
namespace Go.Proofs.YtnnhehlieakedaaGreatDoor.Q
open Go.RowKit Go.Proofs.YtnnhehlieakedaaGreatDoorW.PrintWords Go.Proofs.YtnnhehlieakedaaGreatDoorW.PrintLast Go.Proofs.YtnnhehlieakedaaGreatDoorW.PrintMore
attribute [local go_sem] max2_int min2_int max_two min_two max_three min_three max_four min_four   -- for this text's walks alone
set_option linter.unusedVariables false
set_option linter.unusedSimpArgs false

/-! ### spec_blank: function 45 -/
def spec_blank.f (a0 : Int) : Option (Bool) := if a0 = 32 then (some true) else (if a0 ≥ 9 then (some (decide (a0 ≤ 13))) else (some false))
set_option maxHeartbeats 8000000 in
set_option maxRecDepth 100000 in
theorem spec_blank.calls (a0 : Int) (r : Bool) (w : World) (h : spec_blank.f a0 = some r) :
    Calls Tryz.prog 45 #[.int .u8 a0] w fun e w' => e = .returned (.bool r) ∧ Drawn0 w w' := by
  have H : (if a0 = 32 then (some true) else (if a0 ≥ 9 then (some (decide (a0 ≤ 13))) else (some false))) = some r := h
  clear h
  by_cases c2 : a0 = 32
  · rw [if_pos c2] at H
    have c2b0 : (a0 == 32) = true := beq_iff_eq.mpr c2
    have c2b1 : (a0 != 32) = false := bne_eq_false_iff_eq.mpr c2
    clear c2
    obtain rfl := Option.some.inj H
    go_enter Tryz.func45, Tryz.ntmps45
    go_wp2
    go_ret
    exact ⟨by first | rfl | (simp; done) | (simp [*]; done) | (simp [*, q_isEmpty]; done) | (simp [*]; exact q_gt _ _ (by assumption)), by repeat (first | exact Drawn0.refl _ | apply Drawn0.step)⟩
  · rw [if_neg c2] at H
    have c2b0 : (a0 == 32) = false := beq_eq_false_iff_ne.mpr c2
    have c2b1 : (a0 != 32) = true := bne_iff_ne.mpr c2
    by_cases c3 : a0 ≥ 9
    · rw [if_pos c3] at H
      have c3b0 : decide (9 ≤ a0) = true := decide_eq_true c3
      clear c3
      obtain rfl := Option.some.inj H
      go_enter Tryz.func45, Tryz.ntmps45
      go_wp2
      go_ret
      exact ⟨by first | rfl | (simp; done) | (simp [*]; done) | (simp [*, q_isEmpty]; done) | (simp [*]; exact q_gt _ _ (by assumption)), by repeat (first | exact Drawn0.refl _ | apply Drawn0.step)⟩
    · rw [if_neg c3] at H
      have c3b0 : decide (9 ≤ a0) = false := decide_eq_false c3
      clear c3
      obtain rfl := Option.some.inj H
      go_enter Tryz.func45, Tryz.ntmps45
      go_wp2
      go_ret
      exact ⟨by first | rfl | (simp; done) | (simp [*]; done) | (simp [*, q_isEmpty]; done) | (simp [*]; exact q_gt _ _ (by assumption)), by repeat (first | exact Drawn0.refl _ | apply Drawn0.step)⟩

end Go.Proofs.YtnnhehlieakedaaGreatDoor.Q
namespace Go.Proofs.YtnnhehlieakedaaGreatDoor.Q
open Go.RowKit Go.Proofs.YtnnhehlieakedaaGreatDoorW.PrintWords Go.Proofs.YtnnhehlieakedaaGreatDoorW.PrintLast Go.Proofs.YtnnhehlieakedaaGreatDoorW.PrintMore
attribute [local go_sem] max2_int min2_int max_two min_two max_three min_three max_four min_four   -- for this text's walks alone
set_option linter.unusedVariables false
set_option linter.unusedSimpArgs false

/-! ### spec_closed: function 69 -/
mutual
def spec_closed.l0 : Nat → ByteArray → Int → Int → Option (Int)
  | 0, _, _, _ => none
  | k + 1, x0, x1, x5 => if x5 < (x0.size : Int) then (spec_closed.l1 k x0 x1 x5 0 (wrap64 (x5 - 1))) else (some (-1))
def spec_closed.l1 : Nat → ByteArray → Int → Int → Int → Int → Option (Int)
  | 0, _, _, _, _, _ => none
  | k + 1, x0, x1, x5, x6, x7 => if x7 > x1 then (if 0 ≤ x7 then (if x7 < (x0.size : Int) then (if (bt x0 x7) = 92 then (spec_closed.l1 k x0 x1 x5 (wrap64 (x6 + 1)) (wrap64 (x7 - 1))) else (if 0 ≤ x5 then (if x5 < (x0.size : Int) then (if (bt x0 x5) = 34 then (if (Int.tmod x6 2) = 0 then (some (wrap64 (x5 + 1))) else (spec_closed.l0 k x0 x1 (wrap64 (x5 + 1)))) else (spec_closed.l0 k x0 x1 (wrap64 (x5 + 1)))) else (none)) else (none))) else (none)) else (none)) else (if 0 ≤ x5 then (if x5 < (x0.size : Int) then (if (bt x0 x5) = 34 then (if (Int.tmod x6 2) = 0 then (some (wrap64 (x5 + 1))) else (spec_closed.l0 k x0 x1 (wrap64 (x5 + 1)))) else (spec_closed.l0 k x0 x1 (wrap64 (x5 + 1)))) else (none)) else (none))
end
def spec_closed.f (k : Nat) (a0 : ByteArray) (a1 : Int) : Option (Int) := spec_closed.l0 k a0 a1 (wrap64 (a1 + 1))
theorem spec_closed.mono_l : ∀ k, (∀ y0 y1 y2, LeO (spec_closed.l0 k y0 y1 y2) (spec_closed.l0 (k + 1) y0 y1 y2)) ∧ (∀ y0 y1 y2 y3 y4, LeO (spec_closed.l1 k y0 y1 y2 y3 y4) (spec_closed.l1 (k + 1) y0 y1 y2 y3 y4))
  | 0 => ⟨fun _ _ _ r h => by simp [spec_closed.l0] at h, fun _ _ _ _ _ r h => by simp [spec_closed.l1] at h⟩
  | k + 1 => by
    obtain ⟨ih0, ih1⟩ := spec_closed.mono_l k
    refine ⟨?_, ?_⟩
    · intro y0 y1 y2
      unfold spec_closed.l0
      repeat' first
      | (with_reducible exact ih0 _ _ _)
      | (with_reducible exact ih1 _ _ _ _ _)
      | (with_reducible exact LeO.refl _)
      | (with_reducible exact LeO.none _)
      | (with_reducible refine LeO.ite ?_ ?_)
      | (with_reducible refine LeO.bind ?_ (fun _ => ?_))
      | exact ih0 _ _ _
      | exact ih1 _ _ _ _ _
      | exact LeO.none _
      | refine LeO.ite ?_ ?_
      | refine LeO.bind ?_ (fun _ => ?_)
    · intro y0 y1 y2 y3 y4
      unfold spec_closed.l1
      repeat' first
      | (with_reducible exact ih0 _ _ _)
      | (with_reducible exact ih1 _ _ _ _ _)
      | (with_reducible exact LeO.refl _)
      | (with_reducible exact LeO.none _)
      | (with_reducible refine LeO.ite ?_ ?_)
      | (with_reducible refine LeO.bind ?_ (fun _ => ?_))
      | exact ih0 _ _ _
      | exact ih1 _ _ _ _ _
      | exact LeO.none _
      | refine LeO.ite ?_ ?_
      | refine LeO.bind ?_ (fun _ => ?_)
theorem spec_closed.mono : ∀ a0 a1 k, LeO (spec_closed.f k a0 a1) (spec_closed.f (k + 1) a0 a1) := by
  intro a0 a1 k
  obtain ⟨ih0, ih1⟩ := spec_closed.mono_l k
  unfold spec_closed.f
  repeat' first
      | (with_reducible exact ih0 _ _ _)
      | (with_reducible exact ih1 _ _ _ _ _)
      | (with_reducible exact LeO.refl _)
      | (with_reducible exact LeO.none _)
      | (with_reducible refine LeO.ite ?_ ?_)
      | (with_reducible refine LeO.bind ?_ (fun _ => ?_))
      | exact ih0 _ _ _
      | exact ih1 _ _ _ _ _
      | exact LeO.none _
      | refine LeO.ite ?_ ?_
      | refine LeO.bind ?_ (fun _ => ?_)
set_option maxHeartbeats 8000000 in
set_option maxRecDepth 100000 in
theorem spec_closed.calls (k : Nat) (a0 : ByteArray) (a1 : Int) (r : Int) (w : World) (h : spec_closed.f k a0 a1 = some r) :
    Calls Tryz.prog 69 #[.string a0, .int .i64 a1] w fun e w' => e = .returned (.int .i64 r) ∧ Drawn0 w w' := by
  have H : (spec_closed.l0 k a0 a1 (wrap64 (a1 + 1))) = some r := h
  clear h
  have H' := Aside0.mk H
  clear H
  go_enter Tryz.func69, Tryz.ntmps69
  go_wp2
  go_loopg [5] k (fun kq v5 w' => ∃ (x5_1 : Int), v5 = .int .i64 x5_1 ∧ Aside0 (spec_closed.l0 kq a0 a1 x5_1 = some r) ∧ Aside0 (kq ≤ k) ∧ Drawn0 w w')
  case atStart => exact ⟨(wrap64 (a1 + 1)), (by first | rfl | (simp; done) | (simp [*]; done) | (simp [*, q_isEmpty]; done) | (simp [*]; exact q_gt _ _ (by assumption))), H', ⟨Nat.le_refl _⟩, by repeat (first | exact Drawn0.refl _ | apply Drawn0.step)⟩
  case round =>
    clear H'
    try clear p2
    obtain ⟨x5_1, rfl, HA, HK1, ⟨m1, rfl⟩⟩ := hrel
    cases gk with
    | zero => exact absurd HA.out (by simp [spec_closed.l0])
    | succ k1 =>
      have H := HA.out
      clear HA
      simp only [spec_closed.l0] at H
      by_cases c3 : x5_1 < (a0.size : Int)
      · rw [if_pos c3] at H
        have c3b0 : decide (x5_1 < (a0.size : Int)) = true := decide_eq_true c3
        clear c3
        have H' := Aside0.mk H
        clear H
        go_wp2
        go_loopg [6, 7] k1 (fun kq v6 v7 w' => ∃ (x6_2 : Int) (x7_2 : Int), v6 = .int .i64 x6_2 ∧ v7 = .int .i64 x7_2 ∧ Aside0 (spec_closed.l1 kq a0 a1 x5_1 x6_2 x7_2 = some r) ∧ Aside0 (kq ≤ k1) ∧ Drawn0 w w')
        case atStart => exact ⟨(0), (wrap64 (x5_1 - 1)), (by first | rfl | (simp; done) | (simp [*]; done) | (simp [*, q_isEmpty]; done) | (simp [*]; exact q_gt _ _ (by assumption))), (by first | rfl | (simp; done) | (simp [*]; done) | (simp [*, q_isEmpty]; done) | (simp [*]; exact q_gt _ _ (by assumption))), H', ⟨Nat.le_refl _⟩, by repeat (first | exact Drawn0.refl _ | apply Drawn0.step)⟩
        case round =>
          clear H'
          try clear p2
          try clear c3
          try clear c3b0
          try clear p2
          obtain ⟨x6_2, x7_2, rfl, rfl, HA, HK2, ⟨m2, rfl⟩⟩ := hrel
          cases gk with
          | zero => exact absurd HA.out (by simp [spec_closed.l1])
          | succ k2 =>
            have H := HA.out
            clear HA
            simp only [spec_closed.l1] at H
            by_cases c4 : x7_2 > a1
            · rw [if_pos c4] at H
              have c4b0 : decide (a1 < x7_2) = true := decide_eq_true c4
              clear c4
              by_cases c5 : 0 ≤ x7_2
              · rw [if_pos c5] at H
                have c5b0 : decide (0 ≤ x7_2) = true := decide_eq_true c5
                clear c5
                by_cases c6 : x7_2 < (a0.size : Int)
                · rw [if_pos c6] at H
                  have c6b0 : decide (x7_2 < (a0.size : Int)) = true := decide_eq_true c6
                  clear c6
                  by_cases c8 : (bt a0 x7_2) = 92
                  · rw [if_pos c8] at H
                    have c8b0 : ((bt a0 x7_2) == 92) = true := beq_iff_eq.mpr c8
                    have c8b1 : ((bt a0 x7_2) != 92) = false := bne_eq_false_iff_eq.mpr c8
                    clear c8
                    have H' := Aside0.mk H
                    clear H
                    have p7 : 0 ≤ (x7_2 : Int) := of_decide_eq_true (by first | (with_reducible assumption) | assumption)
                    have q7 : x7_2 < (a0.size : Int) := of_decide_eq_true (by first | (with_reducible assumption) | assumption)
                    have hx7 := bt_at a0 x7_2
                    replace p7 := eq_true p7
                    replace q7 := eq_true q7
                    go_wp2
                    go_roundg k2
                    case measure => have := HK1.out; have := HK2.out; omega
                    case rel => exact ⟨(wrap64 (x6_2 + 1)), (wrap64 (x7_2 - 1)), (by first | rfl | (simp; done) | (simp [*]; done) | (simp [*, q_isEmpty]; done) | (simp [*]; exact q_gt _ _ (by assumption))), (by first | rfl | (simp; done) | (simp [*]; done) | (simp [*, q_isEmpty]; done) | (simp [*]; exact q_gt _ _ (by assumption))), H', ⟨by have := HK1.out; have := HK2.out; omega⟩, by repeat (first | exact Drawn0.refl _ | apply Drawn0.step)⟩
                  · rw [if_neg c8] at H
                    have c8b0 : ((bt a0 x7_2) == 92) = false := beq_eq_false_iff_ne.mpr c8
                    have c8b1 : ((bt a0 x7_2) != 92) = true := bne_iff_ne.mpr c8
                    by_cases c9 : 0 ≤ x5_1
                    · rw [if_pos c9] at H
                      have c9b0 : decide (0 ≤ x5_1) = true := decide_eq_true c9
                      clear c9
                      by_cases c10 : x5_1 < (a0.size : Int)
                      · rw [if_pos c10] at H
                        have c10b0 : decide (x5_1 < (a0.size : Int)) = true := decide_eq_true c10
                        clear c10
                        by_cases c12 : (bt a0 x5_1) = 34
                        · rw [if_pos c12] at H
                          have c12b0 : ((bt a0 x5_1) == 34) = true := beq_iff_eq.mpr c12
                          have c12b1 : ((bt a0 x5_1) != 34) = false := bne_eq_false_iff_eq.mpr c12
                          clear c12
                          by_cases c13 : (Int.tmod x6_2 2) = 0
                          · rw [if_pos c13] at H
                            have c13b0 : ((Int.tmod x6_2 2) == 0) = true := beq_iff_eq.mpr c13
                            have c13b1 : ((Int.tmod x6_2 2) != 0) = false := bne_eq_false_iff_eq.mpr c13
                            clear c13
                            obtain rfl := Option.some.inj H
                            have p7 : 0 ≤ (x7_2 : Int) := of_decide_eq_true (by first | (with_reducible assumption) | assumption)
                            have q7 : x7_2 < (a0.size : Int) := of_decide_eq_true (by first | (with_reducible assumption) | assumption)
                            have hx7 := bt_at a0 x7_2
                            replace p7 := eq_true p7
                            replace q7 := eq_true q7
                            have p11 : 0 ≤ (x5_1 : Int) := of_decide_eq_true (by first | (with_reducible assumption) | assumption)
                            have q11 : x5_1 < (a0.size : Int) := of_decide_eq_true (by first | (with_reducible assumption) | assumption)
                            have hx11 := bt_at a0 x5_1
                            replace p11 := eq_true p11
                            replace q11 := eq_true q11
                            go_wp2
                            go_ret
                            exact ⟨by first | rfl | (simp; done) | (simp [*]; done) | (simp [*, q_isEmpty]; done) | (simp [*]; exact q_gt _ _ (by assumption)), by repeat (first | exact Drawn0.refl _ | apply Drawn0.step)⟩
                          · rw [if_neg c13] at H
                            have c13b0 : ((Int.tmod x6_2 2) == 0) = false := beq_eq_false_iff_ne.mpr c13
                            have c13b1 : ((Int.tmod x6_2 2) != 0) = true := bne_iff_ne.mpr c13
                            have H' := Aside0.mk H
                            clear H
                            have p7 : 0 ≤ (x7_2 : Int) := of_decide_eq_true (by first | (with_reducible assumption) | assumption)
                            have q7 : x7_2 < (a0.size : Int) := of_decide_eq_true (by first | (with_reducible assumption) | assumption)
                            have hx7 := bt_at a0 x7_2
                            replace p7 := eq_true p7
                            replace q7 := eq_true q7
                            have p11 : 0 ≤ (x5_1 : Int) := of_decide_eq_true (by first | (with_reducible assumption) | assumption)
                            have q11 : x5_1 < (a0.size : Int) := of_decide_eq_true (by first | (with_reducible assumption) | assumption)
                            have hx11 := bt_at a0 x5_1
                            replace p11 := eq_true p11
                            replace q11 := eq_true q11
                            go_wp2
                            go_roundg k2
                            case measure => have := HK1.out; have := HK2.out; omega
                            case rel => exact ⟨(wrap64 (x5_1 + 1)), (by first | rfl | (simp; done) | (simp [*]; done) | (simp [*, q_isEmpty]; done) | (simp [*]; exact q_gt _ _ (by assumption))), H', ⟨by have := HK1.out; have := HK2.out; omega⟩, by repeat (first | exact Drawn0.refl _ | apply Drawn0.step)⟩
                        · rw [if_neg c12] at H
                          have c12b0 : ((bt a0 x5_1) == 34) = false := beq_eq_false_iff_ne.mpr c12
                          have c12b1 : ((bt a0 x5_1) != 34) = true := bne_iff_ne.mpr c12
                          have H' := Aside0.mk H
                          clear H
                          have p7 : 0 ≤ (x7_2 : Int) := of_decide_eq_true (by first | (with_reducible assumption) | assumption)
                          have q7 : x7_2 < (a0.size : Int) := of_decide_eq_true (by first | (with_reducible assumption) | assumption)
                          have hx7 := bt_at a0 x7_2
                          replace p7 := eq_true p7
                          replace q7 := eq_true q7
                          have p11 : 0 ≤ (x5_1 : Int) := of_decide_eq_true (by first | (with_reducible assumption) | assumption)
                          have q11 : x5_1 < (a0.size : Int) := of_decide_eq_true (by first | (with_reducible assumption) | assumption)
                          have hx11 := bt_at a0 x5_1
                          replace p11 := eq_true p11
                          replace q11 := eq_true q11
                          go_wp2
                          go_roundg k2
                          case measure => have := HK1.out; have := HK2.out; omega
                          case rel => exact ⟨(wrap64 (x5_1 + 1)), (by first | rfl | (simp; done) | (simp [*]; done) | (simp [*, q_isEmpty]; done) | (simp [*]; exact q_gt _ _ (by assumption))), H', ⟨by have := HK1.out; have := HK2.out; omega⟩, by repeat (first | exact Drawn0.refl _ | apply Drawn0.step)⟩
                      · rw [if_neg c10] at H
                        exact absurd H (by simp)
                    · rw [if_neg c9] at H
                      exact absurd H (by simp)
                · rw [if_neg c6] at H
                  exact absurd H (by simp)
              · rw [if_neg c5] at H
                exact absurd H (by simp)
            · rw [if_neg c4] at H
              have c4b0 : decide (a1 < x7_2) = false := decide_eq_false c4
              clear c4
              by_cases c14 : 0 ≤ x5_1
              · rw [if_pos c14] at H
                have c14b0 : decide (0 ≤ x5_1) = true := decide_eq_true c14
                clear c14
                by_cases c15 : x5_1 < (a0.size : Int)
                · rw [if_pos c15] at H
                  have c15b0 : decide (x5_1 < (a0.size : Int)) = true := decide_eq_true c15
                  clear c15
                  by_cases c17 : (bt a0 x5_1) = 34
                  · rw [if_pos c17] at H
                    have c17b0 : ((bt a0 x5_1) == 34) = true := beq_iff_eq.mpr c17
                    have c17b1 : ((bt a0 x5_1) != 34) = false := bne_eq_false_iff_eq.mpr c17
                    clear c17
                    by_cases c18 : (Int.tmod x6_2 2) = 0
                    · rw [if_pos c18] at H
                      have c18b0 : ((Int.tmod x6_2 2) == 0) = true := beq_iff_eq.mpr c18
                      have c18b1 : ((Int.tmod x6_2 2) != 0) = false := bne_eq_false_iff_eq.mpr c18
                      clear c18
                      obtain rfl := Option.some.inj H
                      have p16 : 0 ≤ (x5_1 : Int) := of_decide_eq_true (by first | (with_reducible assumption) | assumption)
                      have q16 : x5_1 < (a0.size : Int) := of_decide_eq_true (by first | (with_reducible assumption) | assumption)
                      have hx16 := bt_at a0 x5_1
                      replace p16 := eq_true p16
                      replace q16 := eq_true q16
                      go_wp2
                      go_ret
                      exact ⟨by first | rfl | (simp; done) | (simp [*]; done) | (simp [*, q_isEmpty]; done) | (simp [*]; exact q_gt _ _ (by assumption)), by repeat (first | exact Drawn0.refl _ | apply Drawn0.step)⟩
                    · rw [if_neg c18] at H
                      have c18b0 : ((Int.tmod x6_2 2) == 0) = false := beq_eq_false_iff_ne.mpr c18
                      have c18b1 : ((Int.tmod x6_2 2) != 0) = true := bne_iff_ne.mpr c18
                      have H' := Aside0.mk H
                      clear H
                      have p16 : 0 ≤ (x5_1 : Int) := of_decide_eq_true (by first | (with_reducible assumption) | assumption)
                      have q16 : x5_1 < (a0.size : Int) := of_decide_eq_true (by first | (with_reducible assumption) | assumption)
                      have hx16 := bt_at a0 x5_1
                      replace p16 := eq_true p16
                      replace q16 := eq_true q16
                      go_wp2
                      go_roundg k2
                      case measure => have := HK1.out; have := HK2.out; omega
                      case rel => exact ⟨(wrap64 (x5_1 + 1)), (by first | rfl | (simp; done) | (simp [*]; done) | (simp [*, q_isEmpty]; done) | (simp [*]; exact q_gt _ _ (by assumption))), H', ⟨by have := HK1.out; have := HK2.out; omega⟩, by repeat (first | exact Drawn0.refl _ | apply Drawn0.step)⟩
                  · rw [if_neg c17] at H
                    have c17b0 : ((bt a0 x5_1) == 34) = false := beq_eq_false_iff_ne.mpr c17
                    have c17b1 : ((bt a0 x5_1) != 34) = true := bne_iff_ne.mpr c17
                    have H' := Aside0.mk H
                    clear H
                    have p16 : 0 ≤ (x5_1 : Int) := of_decide_eq_true (by first | (with_reducible assumption) | assumption)
                    have q16 : x5_1 < (a0.size : Int) := of_decide_eq_true (by first | (with_reducible assumption) | assumption)
                    have hx16 := bt_at a0 x5_1
                    replace p16 := eq_true p16
                    replace q16 := eq_true q16
                    go_wp2
                    go_roundg k2
                    case measure => have := HK1.out; have := HK2.out; omega
                    case rel => exact ⟨(wrap64 (x5_1 + 1)), (by first | rfl | (simp; done) | (simp [*]; done) | (simp [*, q_isEmpty]; done) | (simp [*]; exact q_gt _ _ (by assumption))), H', ⟨by have := HK1.out; have := HK2.out; omega⟩, by repeat (first | exact Drawn0.refl _ | apply Drawn0.step)⟩
                · rw [if_neg c15] at H
                  exact absurd H (by simp)
              · rw [if_neg c14] at H
                exact absurd H (by simp)
      · rw [if_neg c3] at H
        have c3b0 : decide (x5_1 < (a0.size : Int)) = false := decide_eq_false c3
        clear c3
        obtain rfl := Option.some.inj H
        go_wp2
        go_ret
        exact ⟨by first | rfl | (simp; done) | (simp [*]; done) | (simp [*, q_isEmpty]; done) | (simp [*]; exact q_gt _ _ (by assumption)), by repeat (first | exact Drawn0.refl _ | apply Drawn0.step)⟩

end Go.Proofs.YtnnhehlieakedaaGreatDoor.Q
namespace Go.Proofs.YtnnhehlieakedaaGreatDoor.Q
open Go.RowKit Go.Proofs.YtnnhehlieakedaaGreatDoorW.PrintWords Go.Proofs.YtnnhehlieakedaaGreatDoorW.PrintLast Go.Proofs.YtnnhehlieakedaaGreatDoorW.PrintMore
attribute [local go_sem] max2_int min2_int max_two min_two max_three min_three max_four min_four   -- for this text's walks alone
set_option linter.unusedVariables false
set_option linter.unusedSimpArgs false

/-! ### spec_reserved: function 70 -/
def spec_reserved.f (a0 : Int) : Option (Bool) := if a0 = 123 then (some true) else (if a0 = 125 then (some true) else (if a0 = 33 then (some true) else (if a0 = 61 then (some true) else (if a0 = 126 then (some true) else (if a0 = 44 then (some true) else (if a0 = 92 then (some true) else (if a0 = 34 then (some true) else (if a0 = 39 then (some true) else (if a0 = 96 then (some true) else ((spec_blank.f a0).bind fun t116 => (some t116)))))))))))
set_option maxHeartbeats 8000000 in
set_option maxRecDepth 100000 in
theorem spec_reserved.calls (a0 : Int) (r : Bool) (w : World) (h : spec_reserved.f a0 = some r) :
    Calls Tryz.prog 70 #[.int .u8 a0] w fun e w' => e = .returned (.bool r) ∧ Drawn0 w w' := by
  have H : (if a0 = 123 then (some true) else (if a0 = 125 then (some true) else (if a0 = 33 then (some true) else (if a0 = 61 then (some true) else (if a0 = 126 then (some true) else (if a0 = 44 then (some true) else (if a0 = 92 then (some true) else (if a0 = 34 then (some true) else (if a0 = 39 then (some true) else (if a0 = 96 then (some true) else ((spec_blank.f a0).bind fun t116 => (some t116)))))))))))) = some r := h
  clear h
  by_cases c2 : a0 = 123
  · rw [if_pos c2] at H
    have c2b0 : (a0 == 123) = true := beq_iff_eq.mpr c2
    have c2b1 : (a0 != 123) = false := bne_eq_false_iff_eq.mpr c2
    clear c2
    obtain rfl := Option.some.inj H
    go_enter Tryz.func70, Tryz.ntmps70
    go_wp2
    go_ret
    exact ⟨by first | rfl | (simp; done) | (simp [*]; done) | (simp [*, q_isEmpty]; done) | (simp [*]; exact q_gt _ _ (by assumption)), by repeat (first | exact Drawn0.refl _ | apply Drawn0.step)⟩
  · rw [if_neg c2] at H
    have c2b0 : (a0 == 123) = false := beq_eq_false_iff_ne.mpr c2
    have c2b1 : (a0 != 123) = true := bne_iff_ne.mpr c2
    by_cases c3 : a0 = 125
    · rw [if_pos c3] at H
      have c3b0 : (a0 == 125) = true := beq_iff_eq.mpr c3
      have c3b1 : (a0 != 125) = false := bne_eq_false_iff_eq.mpr c3
      clear c3
      obtain rfl := Option.some.inj H
      go_enter Tryz.func70, Tryz.ntmps70
      go_wp2
      go_ret
      exact ⟨by first | rfl | (simp; done) | (simp [*]; done) | (simp [*, q_isEmpty]; done) | (simp [*]; exact q_gt _ _ (by assumption)), by repeat (first | exact Drawn0.refl _ | apply Drawn0.step)⟩
    · rw [if_neg c3] at H
      have c3b0 : (a0 == 125) = false := beq_eq_false_iff_ne.mpr c3
      have c3b1 : (a0 != 125) = true := bne_iff_ne.mpr c3
      by_cases c4 : a0 = 33
      · rw [if_pos c4] at H
        have c4b0 : (a0 == 33) = true := beq_iff_eq.mpr c4
        have c4b1 : (a0 != 33) = false := bne_eq_false_iff_eq.mpr c4
        clear c4
        obtain rfl := Option.some.inj H
        go_enter Tryz.func70, Tryz.ntmps70
        go_wp2
        go_ret
        exact ⟨by first | rfl | (simp; done) | (simp [*]; done) | (simp [*, q_isEmpty]; done) | (simp [*]; exact q_gt _ _ (by assumption)), by repeat (first | exact Drawn0.refl _ | apply Drawn0.step)⟩
      · rw [if_neg c4] at H
        have c4b0 : (a0 == 33) = false := beq_eq_false_iff_ne.mpr c4
        have c4b1 : (a0 != 33) = true := bne_iff_ne.mpr c4
        by_cases c5 : a0 = 61
        · rw [if_pos c5] at H
          have c5b0 : (a0 == 61) = true := beq_iff_eq.mpr c5
          have c5b1 : (a0 != 61) = false := bne_eq_false_iff_eq.mpr c5
          clear c5
          obtain rfl := Option.some.inj H
          go_enter Tryz.func70, Tryz.ntmps70
          go_wp2
          go_ret
          exact ⟨by first | rfl | (simp; done) | (simp [*]; done) | (simp [*, q_isEmpty]; done) | (simp [*]; exact q_gt _ _ (by assumption)), by repeat (first | exact Drawn0.refl _ | apply Drawn0.step)⟩
        · rw [if_neg c5] at H
          have c5b0 : (a0 == 61) = false := beq_eq_false_iff_ne.mpr c5
          have c5b1 : (a0 != 61) = true := bne_iff_ne.mpr c5
          by_cases c6 : a0 = 126
          · rw [if_pos c6] at H
            have c6b0 : (a0 == 126) = true := beq_iff_eq.mpr c6
            have c6b1 : (a0 != 126) = false := bne_eq_false_iff_eq.mpr c6
            clear c6
            obtain rfl := Option.some.inj H
            go_enter Tryz.func70, Tryz.ntmps70
            go_wp2
            go_ret
            exact ⟨by first | rfl | (simp; done) | (simp [*]; done) | (simp [*, q_isEmpty]; done) | (simp [*]; exact q_gt _ _ (by assumption)), by repeat (first | exact Drawn0.refl _ | apply Drawn0.step)⟩
          · rw [if_neg c6] at H
            have c6b0 : (a0 == 126) = false := beq_eq_false_iff_ne.mpr c6
            have c6b1 : (a0 != 126) = true := bne_iff_ne.mpr c6
            by_cases c7 : a0 = 44
            · rw [if_pos c7] at H
              have c7b0 : (a0 == 44) = true := beq_iff_eq.mpr c7
              have c7b1 : (a0 != 44) = false := bne_eq_false_iff_eq.mpr c7
              clear c7
              obtain rfl := Option.some.inj H
              go_enter Tryz.func70, Tryz.ntmps70
              go_wp2
              go_ret
              exact ⟨by first | rfl | (simp; done) | (simp [*]; done) | (simp [*, q_isEmpty]; done) | (simp [*]; exact q_gt _ _ (by assumption)), by repeat (first | exact Drawn0.refl _ | apply Drawn0.step)⟩
            · rw [if_neg c7] at H
              have c7b0 : (a0 == 44) = false := beq_eq_false_iff_ne.mpr c7
              have c7b1 : (a0 != 44) = true := bne_iff_ne.mpr c7
              by_cases c8 : a0 = 92
              · rw [if_pos c8] at H
                have c8b0 : (a0 == 92) = true := beq_iff_eq.mpr c8
                have c8b1 : (a0 != 92) = false := bne_eq_false_iff_eq.mpr c8
                clear c8
                obtain rfl := Option.some.inj H
                go_enter Tryz.func70, Tryz.ntmps70
                go_wp2
                go_ret
                exact ⟨by first | rfl | (simp; done) | (simp [*]; done) | (simp [*, q_isEmpty]; done) | (simp [*]; exact q_gt _ _ (by assumption)), by repeat (first | exact Drawn0.refl _ | apply Drawn0.step)⟩
              · rw [if_neg c8] at H
                have c8b0 : (a0 == 92) = false := beq_eq_false_iff_ne.mpr c8
                have c8b1 : (a0 != 92) = true := bne_iff_ne.mpr c8
                by_cases c9 : a0 = 34
                · rw [if_pos c9] at H
                  have c9b0 : (a0 == 34) = true := beq_iff_eq.mpr c9
                  have c9b1 : (a0 != 34) = false := bne_eq_false_iff_eq.mpr c9
                  clear c9
                  obtain rfl := Option.some.inj H
                  go_enter Tryz.func70, Tryz.ntmps70
                  go_wp2
                  go_ret
                  exact ⟨by first | rfl | (simp; done) | (simp [*]; done) | (simp [*, q_isEmpty]; done) | (simp [*]; exact q_gt _ _ (by assumption)), by repeat (first | exact Drawn0.refl _ | apply Drawn0.step)⟩
                · rw [if_neg c9] at H
                  have c9b0 : (a0 == 34) = false := beq_eq_false_iff_ne.mpr c9
                  have c9b1 : (a0 != 34) = true := bne_iff_ne.mpr c9
                  by_cases c10 : a0 = 39
                  · rw [if_pos c10] at H
                    have c10b0 : (a0 == 39) = true := beq_iff_eq.mpr c10
                    have c10b1 : (a0 != 39) = false := bne_eq_false_iff_eq.mpr c10
                    clear c10
                    obtain rfl := Option.some.inj H
                    go_enter Tryz.func70, Tryz.ntmps70
                    go_wp2
                    go_ret
                    exact ⟨by first | rfl | (simp; done) | (simp [*]; done) | (simp [*, q_isEmpty]; done) | (simp [*]; exact q_gt _ _ (by assumption)), by repeat (first | exact Drawn0.refl _ | apply Drawn0.step)⟩
                  · rw [if_neg c10] at H
                    have c10b0 : (a0 == 39) = false := beq_eq_false_iff_ne.mpr c10
                    have c10b1 : (a0 != 39) = true := bne_iff_ne.mpr c10
                    by_cases c11 : a0 = 96
                    · rw [if_pos c11] at H
                      have c11b0 : (a0 == 96) = true := beq_iff_eq.mpr c11
                      have c11b1 : (a0 != 96) = false := bne_eq_false_iff_eq.mpr c11
                      clear c11
                      obtain rfl := Option.some.inj H
                      go_enter Tryz.func70, Tryz.ntmps70
                      go_wp2
                      go_ret
                      exact ⟨by first | rfl | (simp; done) | (simp [*]; done) | (simp [*, q_isEmpty]; done) | (simp [*]; exact q_gt _ _ (by assumption)), by repeat (first | exact Drawn0.refl _ | apply Drawn0.step)⟩
                    · rw [if_neg c11] at H
                      have c11b0 : (a0 == 96) = false := beq_eq_false_iff_ne.mpr c11
                      have c11b1 : (a0 != 96) = true := bne_iff_ne.mpr c11
                      replace H := Option.bind_eq_some_iff.mp H
                      obtain ⟨t116, A120, H⟩ := H
                      replace H : (some t116) = some r := H
                      have A12 := Aside0.mk A120
                      clear A120
                      obtain rfl := Option.some.inj H
                      go_enter Tryz.func70, Tryz.ntmps70
                      go_wp2_with (first | ((with_reducible refine gate_callee (f := 45) rfl ?_); refine goesL_ (some 16) rfl rfl Tryz.func45 (by kernel_rfl) rfl #[.int .u8 a0] rfl (by (try simp only [List.map_toArray, List.map_cons, List.map_nil]); first | done | rfl | (simp only [List.length_drop, List.length_take]; rfl)) ?_; (with_reducible refine (spec_blank.calls a0 t116 _ A12.out).mono ?_); rintro e w' ⟨rfl, ⟨nd, rfl⟩⟩; refine ⟨_, rfl, ?_⟩))
                      go_ret
                      exact ⟨by first | rfl | (simp; done) | (simp [*]; done) | (simp [*, q_isEmpty]; done) | (simp [*]; exact q_gt _ _ (by assumption)), by repeat (first | exact Drawn0.refl _ | apply Drawn0.step)⟩

end Go.Proofs.YtnnhehlieakedaaGreatDoor.Q
namespace Go.Proofs.YtnnhehlieakedaaGreatDoor.Q
open Go.RowKit Go.Proofs.YtnnhehlieakedaaGreatDoorW.PrintWords Go.Proofs.YtnnhehlieakedaaGreatDoorW.PrintLast Go.Proofs.YtnnhehlieakedaaGreatDoorW.PrintMore
attribute [local go_sem] max2_int min2_int max_two min_two max_three min_three max_four min_four   -- for this text's walks alone
set_option linter.unusedVariables false
set_option linter.unusedSimpArgs false

/-! ### spec_token: function 46 -/
mutual
def spec_token.j0 : Nat → ByteArray → Int → ByteArray → Option (Int × Int)
  | 0, _, _, _ => none
  | k + 1, x0, x1, x6 => if 0 ≤ x1 then (if x1 < (x0.size : Int) then (if (bt x0 x1) = 123 then (some (1, wrap64 (x1 + 1))) else (if (bt x0 x1) = 125 then (some (2, wrap64 (x1 + 1))) else (if (bt x0 x1) = 44 then (some (3, wrap64 (x1 + 1))) else (if x6.toList = ([61, 126] : List UInt8) then (some (6, wrap64 (x1 + 2))) else (if x6.toList = ([33, 61] : List UInt8) then (some (5, wrap64 (x1 + 2))) else (if x6.toList = ([33, 126] : List UInt8) then (some (7, wrap64 (x1 + 2))) else (if (bt x0 x1) = 61 then (some (4, wrap64 (x1 + 1))) else (if (bt x0 x1) = 34 then ((spec_closed.f k x0 x1).bind fun t117 => (if t117 > 0 then (some (8, t117)) else (some (0, x1)))) else ((spec_reserved.f (bt x0 x1)).bind fun t118 => (if t118 = true then (some (0, x1)) else (spec_token.l0 k x0 x1))))))))))) else (none)) else (none)
def spec_token.l0 : Nat → ByteArray → Int → Option (Int × Int)
  | 0, _, _ => none
  | k + 1, x0, x8 => if x8 < (x0.size : Int) then (if 0 ≤ x8 then ((spec_reserved.f (bt x0 x8)).bind fun t119 => (if t119 = true then (some (9, x8)) else (spec_token.l0 k x0 (wrap64 (x8 + 1))))) else (none)) else (some (9, x8))
end
def spec_token.f (k : Nat) (a0 : ByteArray) (a1 : Int) : Option (Int × Int) := if (wrap64 (a1 + 2)) ≤ (a0.size : Int) then (if 0 ≤ a1 then (if a1 ≤ (wrap64 (a1 + 2)) then (spec_token.j0 k a0 a1 (a0.extract (a1 : Int).toNat ((wrap64 (a1 + 2)) : Int).toNat)) else (none)) else (none)) else (spec_token.j0 k a0 a1 (⟨#[]⟩ : ByteArray))
theorem spec_token.mono_l : ∀ k, (∀ y0 y1 y2, LeO (spec_token.j0 k y0 y1 y2) (spec_token.j0 (k + 1) y0 y1 y2)) ∧ (∀ y0 y1, LeO (spec_token.l0 k y0 y1) (spec_token.l0 (k + 1) y0 y1))
  | 0 => ⟨fun _ _ _ r h => by simp [spec_token.j0] at h, fun _ _ r h => by simp [spec_token.l0] at h⟩
  | k + 1 => by
    obtain ⟨ih0, ih1⟩ := spec_token.mono_l k
    refine ⟨?_, ?_⟩
    · intro y0 y1 y2
      unfold spec_token.j0
      repeat' first
      | (with_reducible exact ih0 _ _ _)
      | (with_reducible exact ih1 _ _)
      | (with_reducible exact spec_closed.mono _ _ _)
      | (with_reducible exact LeO.refl _)
      | (with_reducible exact LeO.none _)
      | (with_reducible refine LeO.ite ?_ ?_)
      | (with_reducible refine LeO.bind ?_ (fun _ => ?_))
      | exact ih0 _ _ _
      | exact ih1 _ _
      | exact spec_closed.mono _ _ _
      | exact LeO.none _
      | refine LeO.ite ?_ ?_
      | refine LeO.bind ?_ (fun _ => ?_)
    · intro y0 y1
      unfold spec_token.l0
      repeat' first
      | (with_reducible exact ih0 _ _ _)
      | (with_reducible exact ih1 _ _)
      | (with_reducible exact spec_closed.mono _ _ _)
      | (with_reducible exact LeO.refl _)
      | (with_reducible exact LeO.none _)
      | (with_reducible refine LeO.ite ?_ ?_)
      | (with_reducible refine LeO.bind ?_ (fun _ => ?_))
      | exact ih0 _ _ _
      | exact ih1 _ _
      | exact spec_closed.mono _ _ _
      | exact LeO.none _
      | refine LeO.ite ?_ ?_
      | refine LeO.bind ?_ (fun _ => ?_)
theorem spec_token.mono : ∀ a0 a1 k, LeO (spec_token.f k a0 a1) (spec_token.f (k + 1) a0 a1) := by
  intro a0 a1 k
  obtain ⟨ih0, ih1⟩ := spec_token.mono_l k
  unfold spec_token.f
  repeat' first
      | (with_reducible exact ih0 _ _ _)
      | (with_reducible exact ih1 _ _)
      | (with_reducible exact spec_closed.mono _ _ _)
      | (with_reducible exact LeO.refl _)
      | (with_reducible exact LeO.none _)
      | (with_reducible refine LeO.ite ?_ ?_)
      | (with_reducible refine LeO.bind ?_ (fun _ => ?_))
      | exact ih0 _ _ _
      | exact ih1 _ _
      | exact spec_closed.mono _ _ _
      | exact LeO.none _
      | refine LeO.ite ?_ ?_
      | refine LeO.bind ?_ (fun _ => ?_)
set_option maxHeartbeats 8000000 in
set_option maxRecDepth 100000 in
theorem spec_token.calls (k : Nat) (a0 : ByteArray) (a1 : Int) (r1 : Int) (r2 : Int) (w : World) (h : spec_token.f k a0 a1 = some (r1, r2)) :
    Calls Tryz.prog 46 #[.string a0, .int .i64 a1] w fun e w' => e = .returned (.tuple #[.int .i64 r1, .int .i64 r2]) ∧ Drawn0 w w' := by
  have H : (if (wrap64 (a1 + 2)) ≤ (a0.size : Int) then (if 0 ≤ a1 then (if a1 ≤ (wrap64 (a1 + 2)) then (spec_token.j0 k a0 a1 (a0.extract (a1 : Int).toNat ((wrap64 (a1 + 2)) : Int).toNat)) else (none)) else (none)) else (spec_token.j0 k a0 a1 (⟨#[]⟩ : ByteArray))) = some (r1, r2) := h
  clear h
  have HC3 := Aside0.mk H
  clear H
  go_enter Tryz.func46, Tryz.ntmps46
  go_upto_if 13 with (fail)
  go_cut [6] (fun v6 wc => ∃ (kq : Nat) (x6_2 : ByteArray), v6 = .string x6_2 ∧ Aside0 (spec_token.j0 kq a0 a1 x6_2 = some (r1, r2)) ∧ Aside0 (kq ≤ k) ∧ Drawn0 w wc)
  case first =>
    have H := HC3.out
    clear HC3
    by_cases c4 : (wrap64 (a1 + 2)) ≤ (a0.size : Int)
    · rw [if_pos c4] at H
      have c4b0 : decide ((wrap64 (a1 + 2)) ≤ (a0.size : Int)) = true := decide_eq_true c4
      clear c4
      (first | rw [c4b0] | (simp only [i64_w, i32_w]; rw [c4b0]) | skip)
      by_cases c5 : 0 ≤ a1
      · rw [if_pos c5] at H
        have c5b0 := eq_true c5
        have c5b1 : decide (0 ≤ a1) = true := decide_eq_true c5
        clear c5
        by_cases c6 : a1 ≤ (wrap64 (a1 + 2))
        · rw [if_pos c6] at H
          have c6b0 := eq_true c6
          have c6b1 : decide (a1 ≤ (wrap64 (a1 + 2))) = true := decide_eq_true c6
          have c7b0 := eq_true (of_decide_eq_true (by first | (with_reducible assumption) | assumption) : (wrap64 (a1 + 2)) ≤ (a0.size : Int))
          have H' := Aside0.mk H
          clear H
          go_wp2
          go_meet
          case rel => exact ⟨_, (a0.extract (a1 : Int).toNat ((wrap64 (a1 + 2)) : Int).toNat), (by first | rfl | (simp; done) | (simp [*]; done) | (simp [*, q_isEmpty]; done) | (simp [*]; exact q_gt _ _ (by assumption))), H', ⟨by first | omega | exact Nat.le_refl _⟩, by repeat (first | exact Drawn0.refl _ | apply Drawn0.step)⟩
        · rw [if_neg c6] at H
          exact absurd H (by simp)
      · rw [if_neg c5] at H
        exact absurd H (by simp)
    · rw [if_neg c4] at H
      have c4b0 : decide ((wrap64 (a1 + 2)) ≤ (a0.size : Int)) = false := decide_eq_false c4
      clear c4
      (first | rw [c4b0] | (simp only [i64_w, i32_w]; rw [c4b0]) | skip)
      have H' := Aside0.mk H
      clear H
      go_wp2
      go_meet
      case rel => exact ⟨_, ((⟨#[]⟩ : ByteArray)), (by first | rfl | (simp; done) | (simp [*]; done) | (simp [*, q_isEmpty]; done) | (simp [*]; exact q_gt _ _ (by assumption))), H', ⟨by first | omega | exact Nat.le_refl _⟩, by repeat (first | exact Drawn0.refl _ | apply Drawn0.step)⟩
  case rest =>
    clear HC3
    try clear p2
    try clear c4
    try clear c4b0
    try clear c5
    try clear c5b0
    try clear c5b1
    try clear c6
    try clear c6b0
    try clear c6b1
    try clear p6
    try clear c7
    try clear c7b0
    obtain ⟨kq, x6_2, rfl, HA, HJ2, ⟨mc2, rfl⟩⟩ := hcut
    cases kq with
    | zero => exact absurd HA.out (by simp [spec_token.j0])
    | succ kj2 =>
      have H := HA.out
      clear HA
      simp only [spec_token.j0] at H
      by_cases c8 : 0 ≤ a1
      · rw [if_pos c8] at H
        have c8b0 : decide (0 ≤ a1) = true := decide_eq_true c8
        clear c8
        by_cases c9 : a1 < (a0.size : Int)
        · rw [if_pos c9] at H
          have c9b0 : decide (a1 < (a0.size : Int)) = true := decide_eq_true c9
          clear c9
          by_cases c11 : (bt a0 a1) = 123
          · rw [if_pos c11] at H
            have c11b0 : ((bt a0 a1) == 123) = true := beq_iff_eq.mpr c11
            have c11b1 : ((bt a0 a1) != 123) = false := bne_eq_false_iff_eq.mpr c11
            clear c11
            simp only [Option.some.injEq, Prod.mk.injEq] at H
            obtain ⟨rfl, rfl⟩ := H
            have p10 : 0 ≤ (a1 : Int) := of_decide_eq_true (by first | (with_reducible assumption) | assumption)
            have q10 : a1 < (a0.size : Int) := of_decide_eq_true (by first | (with_reducible assumption) | assumption)
            have hx10 := bt_at a0 a1
            replace p10 := eq_true p10
            replace q10 := eq_true q10
            go_wp2
            go_ret2
            exact ⟨by first | rfl | (simp; done) | (simp [*]; done) | (simp [*, q_isEmpty]; done) | (simp [*]; exact q_gt _ _ (by assumption)), by repeat (first | exact Drawn0.refl _ | apply Drawn0.step)⟩
          · rw [if_neg c11] at H
            have c11b0 : ((bt a0 a1) == 123) = false := beq_eq_false_iff_ne.mpr c11
            have c11b1 : ((bt a0 a1) != 123) = true := bne_iff_ne.mpr c11
            by_cases c13 : (bt a0 a1) = 125
            · rw [if_pos c13] at H
              have c13b0 : ((bt a0 a1) == 125) = true := beq_iff_eq.mpr c13
              have c13b1 : ((bt a0 a1) != 125) = false := bne_eq_false_iff_eq.mpr c13
              clear c13
              simp only [Option.some.injEq, Prod.mk.injEq] at H
              obtain ⟨rfl, rfl⟩ := H
              have p10 : 0 ≤ (a1 : Int) := of_decide_eq_true (by first | (with_reducible assumption) | assumption)
              have q10 : a1 < (a0.size : Int) := of_decide_eq_true (by first | (with_reducible assumption) | assumption)
              have hx10 := bt_at a0 a1
              replace p10 := eq_true p10
              replace q10 := eq_true q10
              have p12 : 0 ≤ (a1 : Int) := of_decide_eq_true (by first | (with_reducible assumption) | assumption)
              have q12 : a1 < (a0.size : Int) := of_decide_eq_true (by first | (with_reducible assumption) | assumption)
              have hx12 := bt_at a0 a1
              replace p12 := eq_true p12
              replace q12 := eq_true q12
              go_wp2
              go_ret2
              exact ⟨by first | rfl | (simp; done) | (simp [*]; done) | (simp [*, q_isEmpty]; done) | (simp [*]; exact q_gt _ _ (by assumption)), by repeat (first | exact Drawn0.refl _ | apply Drawn0.step)⟩
            · rw [if_neg c13] at H
              have c13b0 : ((bt a0 a1) == 125) = false := beq_eq_false_iff_ne.mpr c13
              have c13b1 : ((bt a0 a1) != 125) = true := bne_iff_ne.mpr c13
              by_cases c15 : (bt a0 a1) = 44
              · rw [if_pos c15] at H
                have c15b0 : ((bt a0 a1) == 44) = true := beq_iff_eq.mpr c15
                have c15b1 : ((bt a0 a1) != 44) = false := bne_eq_false_iff_eq.mpr c15
                clear c15
                simp only [Option.some.injEq, Prod.mk.injEq] at H
                obtain ⟨rfl, rfl⟩ := H
                have p10 : 0 ≤ (a1 : Int) := of_decide_eq_true (by first | (with_reducible assumption) | assumption)
                have q10 : a1 < (a0.size : Int) := of_decide_eq_true (by first | (with_reducible assumption) | assumption)
                have hx10 := bt_at a0 a1
                replace p10 := eq_true p10
                replace q10 := eq_true q10
                have p12 : 0 ≤ (a1 : Int) := of_decide_eq_true (by first | (with_reducible assumption) | assumption)
                have q12 : a1 < (a0.size : Int) := of_decide_eq_true (by first | (with_reducible assumption) | assumption)
                have hx12 := bt_at a0 a1
                replace p12 := eq_true p12
                replace q12 := eq_true q12
                have p14 : 0 ≤ (a1 : Int) := of_decide_eq_true (by first | (with_reducible assumption) | assumption)
                have q14 : a1 < (a0.size : Int) := of_decide_eq_true (by first | (with_reducible assumption) | assumption)
                have hx14 := bt_at a0 a1
                replace p14 := eq_true p14
                replace q14 := eq_true q14
                go_wp2
                go_ret2
                exact ⟨by first | rfl | (simp; done) | (simp [*]; done) | (simp [*, q_isEmpty]; done) | (simp [*]; exact q_gt _ _ (by assumption)), by repeat (first | exact Drawn0.refl _ | apply Drawn0.step)⟩
              · rw [if_neg c15] at H
                have c15b0 : ((bt a0 a1) == 44) = false := beq_eq_false_iff_ne.mpr c15
                have c15b1 : ((bt a0 a1) != 44) = true := bne_iff_ne.mpr c15
                by_cases c16 : x6_2.toList = ([61, 126] : List UInt8)
                · rw [if_pos c16] at H
                  have c16b0 : (x6_2.toList == ([61, 126] : List UInt8)) = true := beq_iff_eq.mpr c16
                  have c16b1 : (x6_2.toList != ([61, 126] : List UInt8)) = false := bne_eq_false_iff_eq.mpr c16
                  clear c16
                  simp only [Option.some.injEq, Prod.mk.injEq] at H
                  obtain ⟨rfl, rfl⟩ := H
                  have p10 : 0 ≤ (a1 : Int) := of_decide_eq_true (by first | (with_reducible assumption) | assumption)
                  have q10 : a1 < (a0.size : Int) := of_decide_eq_true (by first | (with_reducible assumption) | assumption)
                  have hx10 := bt_at a0 a1
                  replace p10 := eq_true p10
                  replace q10 := eq_true q10
                  have p12 : 0 ≤ (a1 : Int) := of_decide_eq_true (by first | (with_reducible assumption) | assumption)
                  have q12 : a1 < (a0.size : Int) := of_decide_eq_true (by first | (with_reducible assumption) | assumption)
                  have hx12 := bt_at a0 a1
                  replace p12 := eq_true p12
                  replace q12 := eq_true q12
                  have p14 : 0 ≤ (a1 : Int) := of_decide_eq_true (by first | (with_reducible assumption) | assumption)
                  have q14 : a1 < (a0.size : Int) := of_decide_eq_true (by first | (with_reducible assumption) | assumption)
                  have hx14 := bt_at a0 a1
                  replace p14 := eq_true p14
                  replace q14 := eq_true q14
                  go_wp2
                  go_ret2
                  exact ⟨by first | rfl | (simp; done) | (simp [*]; done) | (simp [*, q_isEmpty]; done) | (simp [*]; exact q_gt _ _ (by assumption)), by repeat (first | exact Drawn0.refl _ | apply Drawn0.step)⟩
                · rw [if_neg c16] at H
                  have c16b0 : (x6_2.toList == ([61, 126] : List UInt8)) = false := beq_eq_false_iff_ne.mpr c16
                  have c16b1 : (x6_2.toList != ([61, 126] : List UInt8)) = true := bne_iff_ne.mpr c16
                  by_cases c17 : x6_2.toList = ([33, 61] : List UInt8)
                  · rw [if_pos c17] at H
                    have c17b0 : (x6_2.toList == ([33, 61] : List UInt8)) = true := beq_iff_eq.mpr c17
                    have c17b1 : (x6_2.toList != ([33, 61] : List UInt8)) = false := bne_eq_false_iff_eq.mpr c17
                    clear c17
                    simp only [Option.some.injEq, Prod.mk.injEq] at H
                    obtain ⟨rfl, rfl⟩ := H
                    have p10 : 0 ≤ (a1 : Int) := of_decide_eq_true (by first | (with_reducible assumption) | assumption)
                    have q10 : a1 < (a0.size : Int) := of_decide_eq_true (by first | (with_reducible assumption) | assumption)
                    have hx10 := bt_at a0 a1
                    replace p10 := eq_true p10
                    replace q10 := eq_true q10
                    have p12 : 0 ≤ (a1 : Int) := of_decide_eq_true (by first | (with_reducible assumption) | assumption)
                    have q12 : a1 < (a0.size : Int) := of_decide_eq_true (by first | (with_reducible assumption) | assumption)
                    have hx12 := bt_at a0 a1
                    replace p12 := eq_true p12
                    replace q12 := eq_true q12
                    have p14 : 0 ≤ (a1 : Int) := of_decide_eq_true (by first | (with_reducible assumption) | assumption)
                    have q14 : a1 < (a0.size : Int) := of_decide_eq_true (by first | (with_reducible assumption) | assumption)
                    have hx14 := bt_at a0 a1
                    replace p14 := eq_true p14
                    replace q14 := eq_true q14
                    go_wp2
                    go_ret2
                    exact ⟨by first | rfl | (simp; done) | (simp [*]; done) | (simp [*, q_isEmpty]; done) | (simp [*]; exact q_gt _ _ (by assumption)), by repeat (first | exact Drawn0.refl _ | apply Drawn0.step)⟩
                  · rw [if_neg c17] at H
                    have c17b0 : (x6_2.toList == ([33, 61] : List UInt8)) = false := beq_eq_false_iff_ne.mpr c17
                    have c17b1 : (x6_2.toList != ([33, 61] : List UInt8)) = true := bne_iff_ne.mpr c17
                    by_cases c18 : x6_2.toList = ([33, 126] : List UInt8)
                    · rw [if_pos c18] at H
                      have c18b0 : (x6_2.toList == ([33, 126] : List UInt8)) = true := beq_iff_eq.mpr c18
                      have c18b1 : (x6_2.toList != ([33, 126] : List UInt8)) = false := bne_eq_false_iff_eq.mpr c18
                      clear c18
                      simp only [Option.some.injEq, Prod.mk.injEq] at H
                      obtain ⟨rfl, rfl⟩ := H
                      have p10 : 0 ≤ (a1 : Int) := of_decide_eq_true (by first | (with_reducible assumption) | assumption)
                      have q10 : a1 < (a0.size : Int) := of_decide_eq_true (by first | (with_reducible assumption) | assumption)
                      have hx10 := bt_at a0 a1
                      replace p10 := eq_true p10
                      replace q10 := eq_true q10
                      have p12 : 0 ≤ (a1 : Int) := of_decide_eq_true (by first | (with_reducible assumption) | assumption)
                      have q12 : a1 < (a0.size : Int) := of_decide_eq_true (by first | (with_reducible assumption) | assumption)
                      have hx12 := bt_at a0 a1
                      replace p12 := eq_true p12
                      replace q12 := eq_true q12
                      have p14 : 0 ≤ (a1 : Int) := of_decide_eq_true (by first | (with_reducible assumption) | assumption)
                      have q14 : a1 < (a0.size : Int) := of_decide_eq_true (by first | (with_reducible assumption) | assumption)
                      have hx14 := bt_at a0 a1
                      replace p14 := eq_true p14
                      replace q14 := eq_true q14
                      go_wp2
                      go_ret2
                      exact ⟨by first | rfl | (simp; done) | (simp [*]; done) | (simp [*, q_isEmpty]; done) | (simp [*]; exact q_gt _ _ (by assumption)), by repeat (first | exact Drawn0.refl _ | apply Drawn0.step)⟩
                    · rw [if_neg c18] at H
                      have c18b0 : (x6_2.toList == ([33, 126] : List UInt8)) = false := beq_eq_false_iff_ne.mpr c18
                      have c18b1 : (x6_2.toList != ([33, 126] : List UInt8)) = true := bne_iff_ne.mpr c18
                      by_cases c20 : (bt a0 a1) = 61
                      · rw [if_pos c20] at H
                        have c20b0 : ((bt a0 a1) == 61) = true := beq_iff_eq.mpr c20
                        have c20b1 : ((bt a0 a1) != 61) = false := bne_eq_false_iff_eq.mpr c20
                        clear c20
                        simp only [Option.some.injEq, Prod.mk.injEq] at H
                        obtain ⟨rfl, rfl⟩ := H
                        have p10 : 0 ≤ (a1 : Int) := of_decide_eq_true (by first | (with_reducible assumption) | assumption)
                        have q10 : a1 < (a0.size : Int) := of_decide_eq_true (by first | (with_reducible assumption) | assumption)
                        have hx10 := bt_at a0 a1
                        replace p10 := eq_true p10
                        replace q10 := eq_true q10
                        have p12 : 0 ≤ (a1 : Int) := of_decide_eq_true (by first | (with_reducible assumption) | assumption)
                        have q12 : a1 < (a0.size : Int) := of_decide_eq_true (by first | (with_reducible assumption) | assumption)
                        have hx12 := bt_at a0 a1
                        replace p12 := eq_true p12
                        replace q12 := eq_true q12
                        have p14 : 0 ≤ (a1 : Int) := of_decide_eq_true (by first | (with_reducible assumption) | assumption)
                        have q14 : a1 < (a0.size : Int) := of_decide_eq_true (by first | (with_reducible assumption) | assumption)
                        have hx14 := bt_at a0 a1
                        replace p14 := eq_true p14
                        replace q14 := eq_true q14
                        have p19 : 0 ≤ (a1 : Int) := of_decide_eq_true (by first | (with_reducible assumption) | assumption)
                        have q19 : a1 < (a0.size : Int) := of_decide_eq_true (by first | (with_reducible assumption) | assumption)
                        have hx19 := bt_at a0 a1
                        replace p19 := eq_true p19
                        replace q19 := eq_true q19
                        go_wp2
                        go_ret2
                        exact ⟨by first | rfl | (simp; done) | (simp [*]; done) | (simp [*, q_isEmpty]; done) | (simp [*]; exact q_gt _ _ (by assumption)), by repeat (first | exact Drawn0.refl _ | apply Drawn0.step)⟩
                      · rw [if_neg c20] at H
                        have c20b0 : ((bt a0 a1) == 61) = false := beq_eq_false_iff_ne.mpr c20
                        have c20b1 : ((bt a0 a1) != 61) = true := bne_iff_ne.mpr c20
                        by_cases c22 : (bt a0 a1) = 34
                        · rw [if_pos c22] at H
                          have c22b0 : ((bt a0 a1) == 34) = true := beq_iff_eq.mpr c22
                          have c22b1 : ((bt a0 a1) != 34) = false := bne_eq_false_iff_eq.mpr c22
                          clear c22
                          replace H := Option.bind_eq_some_iff.mp H
                          obtain ⟨t117, A230, H⟩ := H
                          replace H : (if t117 > 0 then (some (8, t117)) else (some (0, a1))) = some (r1, r2) := H
                          have A23 := Aside0.mk A230
                          clear A230
                          by_cases c24 : t117 > 0
                          · rw [if_pos c24] at H
                            have c24b0 : decide (0 < t117) = true := decide_eq_true c24
                            clear c24
                            simp only [Option.some.injEq, Prod.mk.injEq] at H
                            obtain ⟨rfl, rfl⟩ := H
                            have p10 : 0 ≤ (a1 : Int) := of_decide_eq_true (by first | (with_reducible assumption) | assumption)
                            have q10 : a1 < (a0.size : Int) := of_decide_eq_true (by first | (with_reducible assumption) | assumption)
                            have hx10 := bt_at a0 a1
                            replace p10 := eq_true p10
                            replace q10 := eq_true q10
                            have p12 : 0 ≤ (a1 : Int) := of_decide_eq_true (by first | (with_reducible assumption) | assumption)
                            have q12 : a1 < (a0.size : Int) := of_decide_eq_true (by first | (with_reducible assumption) | assumption)
                            have hx12 := bt_at a0 a1
                            replace p12 := eq_true p12
                            replace q12 := eq_true q12
                            have p14 : 0 ≤ (a1 : Int) := of_decide_eq_true (by first | (with_reducible assumption) | assumption)
                            have q14 : a1 < (a0.size : Int) := of_decide_eq_true (by first | (with_reducible assumption) | assumption)
                            have hx14 := bt_at a0 a1
                            replace p14 := eq_true p14
                            replace q14 := eq_true q14
                            have p19 : 0 ≤ (a1 : Int) := of_decide_eq_true (by first | (with_reducible assumption) | assumption)
                            have q19 : a1 < (a0.size : Int) := of_decide_eq_true (by first | (with_reducible assumption) | assumption)
                            have hx19 := bt_at a0 a1
                            replace p19 := eq_true p19
                            replace q19 := eq_true q19
                            have p21 : 0 ≤ (a1 : Int) := of_decide_eq_true (by first | (with_reducible assumption) | assumption)
                            have q21 : a1 < (a0.size : Int) := of_decide_eq_true (by first | (with_reducible assumption) | assumption)
                            have hx21 := bt_at a0 a1
                            replace p21 := eq_true p21
                            replace q21 := eq_true q21
                            go_wp2_with (first | ((with_reducible refine gate_callee (f := 69) rfl ?_); refine goesL_ (some 69) rfl rfl Tryz.func69 (by kernel_rfl) rfl #[.string a0, .int .i64 a1] rfl (by (try simp only [List.map_toArray, List.map_cons, List.map_nil]); first | done | rfl | (simp only [List.length_drop, List.length_take]; rfl)) ?_; (with_reducible refine (spec_closed.calls kj2 a0 a1 t117 _ A23.out).mono ?_); rintro e w' ⟨rfl, ⟨nd, rfl⟩⟩; refine ⟨_, rfl, ?_⟩))
                            go_ret2
                            exact ⟨by first | rfl | (simp; done) | (simp [*]; done) | (simp [*, q_isEmpty]; done) | (simp [*]; exact q_gt _ _ (by assumption)), by repeat (first | exact Drawn0.refl _ | apply Drawn0.step)⟩
                          · rw [if_neg c24] at H
                            have c24b0 : decide (0 < t117) = false := decide_eq_false c24
                            clear c24
                            simp only [Option.some.injEq, Prod.mk.injEq] at H
                            obtain ⟨rfl, rfl⟩ := H
                            have p10 : 0 ≤ (a1 : Int) := of_decide_eq_true (by first | (with_reducible assumption) | assumption)
                            have q10 : a1 < (a0.size : Int) := of_decide_eq_true (by first | (with_reducible assumption) | assumption)
                            have hx10 := bt_at a0 a1
                            replace p10 := eq_true p10
                            replace q10 := eq_true q10
                            have p12 : 0 ≤ (a1 : Int) := of_decide_eq_true (by first | (with_reducible assumption) | assumption)
                            have q12 : a1 < (a0.size : Int) := of_decide_eq_true (by first | (with_reducible assumption) | assumption)
                            have hx12 := bt_at a0 a1
                            replace p12 := eq_true p12
                            replace q12 := eq_true q12
                            have p14 : 0 ≤ (a1 : Int) := of_decide_eq_true (by first | (with_reducible assumption) | assumption)
                            have q14 : a1 < (a0.size : Int) := of_decide_eq_true (by first | (with_reducible assumption) | assumption)
                            have hx14 := bt_at a0 a1
                            replace p14 := eq_true p14
                            replace q14 := eq_true q14
                            have p19 : 0 ≤ (a1 : Int) := of_decide_eq_true (by first | (with_reducible assumption) | assumption)
                            have q19 : a1 < (a0.size : Int) := of_decide_eq_true (by first | (with_reducible assumption) | assumption)
                            have hx19 := bt_at a0 a1
                            replace p19 := eq_true p19
                            replace q19 := eq_true q19
                            have p21 : 0 ≤ (a1 : Int) := of_decide_eq_true (by first | (with_reducible assumption) | assumption)
                            have q21 : a1 < (a0.size : Int) := of_decide_eq_true (by first | (with_reducible assumption) | assumption)
                            have hx21 := bt_at a0 a1
                            replace p21 := eq_true p21
                            replace q21 := eq_true q21
                            go_wp2_with (first | ((with_reducible refine gate_callee (f := 69) rfl ?_); refine goesL_ (some 69) rfl rfl Tryz.func69 (by kernel_rfl) rfl #[.string a0, .int .i64 a1] rfl (by (try simp only [List.map_toArray, List.map_cons, List.map_nil]); first | done | rfl | (simp only [List.length_drop, List.length_take]; rfl)) ?_; (with_reducible refine (spec_closed.calls kj2 a0 a1 t117 _ A23.out).mono ?_); rintro e w' ⟨rfl, ⟨nd, rfl⟩⟩; refine ⟨_, rfl, ?_⟩))
                            go_ret2
                            exact ⟨by first | rfl | (simp; done) | (simp [*]; done) | (simp [*, q_isEmpty]; done) | (simp [*]; exact q_gt _ _ (by assumption)), by repeat (first | exact Drawn0.refl _ | apply Drawn0.step)⟩
                        · rw [if_neg c22] at H
                          have c22b0 : ((bt a0 a1) == 34) = false := beq_eq_false_iff_ne.mpr c22
                          have c22b1 : ((bt a0 a1) != 34) = true := bne_iff_ne.mpr c22
                          replace H := Option.bind_eq_some_iff.mp H
                          obtain ⟨t118, A260, H⟩ := H
                          replace H : (if t118 = true then (some (0, a1)) else (spec_token.l0 kj2 a0 a1)) = some (r1, r2) := H
                          have A26 := Aside0.mk A260
                          clear A260
                          by_cases c27 : t118 = true
                          · subst c27
                            have H1 : (some (0, a1)) = some (r1, r2) := by rw [if_pos rfl] at H; exact H
                            clear H
                            have H := H1
                            clear H1
                            simp only [Option.some.injEq, Prod.mk.injEq] at H
                            obtain ⟨rfl, rfl⟩ := H
                            have p10 : 0 ≤ (a1 : Int) := of_decide_eq_true (by first | (with_reducible assumption) | assumption)
                            have q10 : a1 < (a0.size : Int) := of_decide_eq_true (by first | (with_reducible assumption) | assumption)
                            have hx10 := bt_at a0 a1
                            replace p10 := eq_true p10
                            replace q10 := eq_true q10
                            have p12 : 0 ≤ (a1 : Int) := of_decide_eq_true (by first | (with_reducible assumption) | assumption)
                            have q12 : a1 < (a0.size : Int) := of_decide_eq_true (by first | (with_reducible assumption) | assumption)
                            have hx12 := bt_at a0 a1
                            replace p12 := eq_true p12
                            replace q12 := eq_true q12
                            have p14 : 0 ≤ (a1 : Int) := of_decide_eq_true (by first | (with_reducible assumption) | assumption)
                            have q14 : a1 < (a0.size : Int) := of_decide_eq_true (by first | (with_reducible assumption) | assumption)
                            have hx14 := bt_at a0 a1
                            replace p14 := eq_true p14
                            replace q14 := eq_true q14
                            have p19 : 0 ≤ (a1 : Int) := of_decide_eq_true (by first | (with_reducible assumption) | assumption)
                            have q19 : a1 < (a0.size : Int) := of_decide_eq_true (by first | (with_reducible assumption) | assumption)
                            have hx19 := bt_at a0 a1
                            replace p19 := eq_true p19
                            replace q19 := eq_true q19
                            have p21 : 0 ≤ (a1 : Int) := of_decide_eq_true (by first | (with_reducible assumption) | assumption)
                            have q21 : a1 < (a0.size : Int) := of_decide_eq_true (by first | (with_reducible assumption) | assumption)
                            have hx21 := bt_at a0 a1
                            replace p21 := eq_true p21
                            replace q21 := eq_true q21
                            have p25 : 0 ≤ (a1 : Int) := of_decide_eq_true (by first | (with_reducible assumption) | assumption)
                            have q25 : a1 < (a0.size : Int) := of_decide_eq_true (by first | (with_reducible assumption) | assumption)
                            have hx25 := bt_at a0 a1
                            replace p25 := eq_true p25
                            replace q25 := eq_true q25
                            go_wp2_with (first | ((with_reducible refine gate_callee (f := 70) rfl ?_); refine goesL_ (some 78) rfl rfl Tryz.func70 (by kernel_rfl) rfl #[.int .u8 (bt a0 a1)] rfl (by (try simp only [List.map_toArray, List.map_cons, List.map_nil]); first | done | rfl | (simp only [List.length_drop, List.length_take]; rfl)) ?_; (with_reducible refine (spec_reserved.calls (bt a0 a1) true _ A26.out).mono ?_); rintro e w' ⟨rfl, ⟨nd, rfl⟩⟩; refine ⟨_, rfl, ?_⟩))
                            go_ret2
                            exact ⟨by first | rfl | (simp; done) | (simp [*]; done) | (simp [*, q_isEmpty]; done) | (simp [*]; exact q_gt _ _ (by assumption)), by repeat (first | exact Drawn0.refl _ | apply Drawn0.step)⟩
                          · replace c27 := Bool.eq_false_iff.mpr c27
                            subst c27
                            have H1 : (spec_token.l0 kj2 a0 a1) = some (r1, r2) := by rw [if_neg (show ¬ (false = true) by decide)] at H; exact H
                            clear H
                            have H := H1
                            clear H1
                            have H' := Aside0.mk H
                            clear H
                            have p10 : 0 ≤ (a1 : Int) := of_decide_eq_true (by first | (with_reducible assumption) | assumption)
                            have q10 : a1 < (a0.size : Int) := of_decide_eq_true (by first | (with_reducible assumption) | assumption)
                            have hx10 := bt_at a0 a1
                            replace p10 := eq_true p10
                            replace q10 := eq_true q10
                            have p12 : 0 ≤ (a1 : Int) := of_decide_eq_true (by first | (with_reducible assumption) | assumption)
                            have q12 : a1 < (a0.size : Int) := of_decide_eq_true (by first | (with_reducible assumption) | assumption)
                            have hx12 := bt_at a0 a1
                            replace p12 := eq_true p12
                            replace q12 := eq_true q12
                            have p14 : 0 ≤ (a1 : Int) := of_decide_eq_true (by first | (with_reducible assumption) | assumption)
                            have q14 : a1 < (a0.size : Int) := of_decide_eq_true (by first | (with_reducible assumption) | assumption)
                            have hx14 := bt_at a0 a1
                            replace p14 := eq_true p14
                            replace q14 := eq_true q14
                            have p19 : 0 ≤ (a1 : Int) := of_decide_eq_true (by first | (with_reducible assumption) | assumption)
                            have q19 : a1 < (a0.size : Int) := of_decide_eq_true (by first | (with_reducible assumption) | assumption)
                            have hx19 := bt_at a0 a1
                            replace p19 := eq_true p19
                            replace q19 := eq_true q19
                            have p21 : 0 ≤ (a1 : Int) := of_decide_eq_true (by first | (with_reducible assumption) | assumption)
                            have q21 : a1 < (a0.size : Int) := of_decide_eq_true (by first | (with_reducible assumption) | assumption)
                            have hx21 := bt_at a0 a1
                            replace p21 := eq_true p21
                            replace q21 := eq_true q21
                            have p25 : 0 ≤ (a1 : Int) := of_decide_eq_true (by first | (with_reducible assumption) | assumption)
                            have q25 : a1 < (a0.size : Int) := of_decide_eq_true (by first | (with_reducible assumption) | assumption)
                            have hx25 := bt_at a0 a1
                            replace p25 := eq_true p25
                            replace q25 := eq_true q25
                            go_wp2_with (first | ((with_reducible refine gate_callee (f := 70) rfl ?_); refine goesL_ (some 78) rfl rfl Tryz.func70 (by kernel_rfl) rfl #[.int .u8 (bt a0 a1)] rfl (by (try simp only [List.map_toArray, List.map_cons, List.map_nil]); first | done | rfl | (simp only [List.length_drop, List.length_take]; rfl)) ?_; (with_reducible refine (spec_reserved.calls (bt a0 a1) false _ A26.out).mono ?_); rintro e w' ⟨rfl, ⟨nd, rfl⟩⟩; refine ⟨_, rfl, ?_⟩))
                            go_loopg [8] kj2 (fun kq v8 w' => ∃ (x8_2 : Int), v8 = .int .i64 x8_2 ∧ Aside0 (spec_token.l0 kq a0 x8_2 = some (r1, r2)) ∧ Aside0 (kq ≤ kj2) ∧ Drawn0 w w')
                            case atStart => exact ⟨(a1), (by first | rfl | (simp; done) | (simp [*]; done) | (simp [*, q_isEmpty]; done) | (simp [*]; exact q_gt _ _ (by assumption))), H', ⟨Nat.le_refl _⟩, by repeat (first | exact Drawn0.refl _ | apply Drawn0.step)⟩
                            case round =>
                              clear H'
                              try clear c1
                              try clear p1
                              try clear q1
                              try clear hx1
                              try clear c2
                              try clear p2
                              try clear q2
                              try clear hx2
                              try clear c4
                              try clear c4b0
                              try clear c5
                              try clear c5b0
                              try clear c5b1
                              try clear c6
                              try clear c6b0
                              try clear c6b1
                              try clear p6
                              try clear c7
                              try clear c7b0
                              try clear c8
                              try clear c8b0
                              try clear c9
                              try clear c9b0
                              try clear p10
                              try clear q10
                              try clear hx10
                              try clear c11
                              try clear c11b0
                              try clear c11b1
                              try clear p12
                              try clear q12
                              try clear hx12
                              try clear c13
                              try clear c13b0
                              try clear c13b1
                              try clear p14
                              try clear q14
                              try clear hx14
                              try clear c15
                              try clear c15b0
                              try clear c15b1
                              try clear c16
                              try clear c16b0
                              try clear c16b1
                              try clear c17
                              try clear c17b0
                              try clear c17b1
                              try clear c18
                              try clear c18b0
                              try clear c18b1
                              try clear p19
                              try clear q19
                              try clear hx19
                              try clear c20
                              try clear c20b0
                              try clear c20b1
                              try clear p21
                              try clear q21
                              try clear hx21
                              try clear c22
                              try clear c22b0
                              try clear c22b1
                              try clear c24
                              try clear c24b0
                              try clear p25
                              try clear q25
                              try clear hx25
                              try clear c27
                              try clear p10
                              try clear p12
                              try clear p14
                              try clear p19
                              try clear p2
                              try clear p21
                              try clear p25
                              try clear p6
                              try clear q10
                              try clear q12
                              try clear q14
                              try clear q19
                              try clear q21
                              try clear q25
                              obtain ⟨x8_2, rfl, HA, HK2, ⟨m2, rfl⟩⟩ := hrel
                              cases gk with
                              | zero => exact absurd HA.out (by simp [spec_token.l0])
                              | succ k2 =>
                                have H := HA.out
                                clear HA
                                simp only [spec_token.l0] at H
                                by_cases c28 : x8_2 < (a0.size : Int)
                                · rw [if_pos c28] at H
                                  have c28b0 : decide (x8_2 < (a0.size : Int)) = true := decide_eq_true c28
                                  clear c28
                                  by_cases c29 : 0 ≤ x8_2
                                  · rw [if_pos c29] at H
                                    have c29b0 : decide (0 ≤ x8_2) = true := decide_eq_true c29
                                    clear c29
                                    replace H := Option.bind_eq_some_iff.mp H
                                    obtain ⟨t119, A310, H⟩ := H
                                    replace H : (if t119 = true then (some (9, x8_2)) else (spec_token.l0 k2 a0 (wrap64 (x8_2 + 1)))) = some (r1, r2) := H
                                    have A31 := Aside0.mk A310
                                    clear A310
                                    by_cases c32 : t119 = true
                                    · subst c32
                                      have H1 : (some (9, x8_2)) = some (r1, r2) := by rw [if_pos rfl] at H; exact H
                                      clear H
                                      have H := H1
                                      clear H1
                                      simp only [Option.some.injEq, Prod.mk.injEq] at H
                                      obtain ⟨rfl, rfl⟩ := H
                                      have p30 : 0 ≤ (x8_2 : Int) := of_decide_eq_true (by first | (with_reducible assumption) | assumption)
                                      have q30 : x8_2 < (a0.size : Int) := of_decide_eq_true (by first | (with_reducible assumption) | assumption)
                                      have hx30 := bt_at a0 x8_2
                                      replace p30 := eq_true p30
                                      replace q30 := eq_true q30
                                      go_wp2_with (first | (go_at_call 70; (with_reducible refine (spec_reserved.calls (bt a0 x8_2) true _ A31.out).mono ?_); rintro e w' ⟨rfl, ⟨nd, rfl⟩⟩))
                                      go_ret2
                                      exact ⟨by first | rfl | (simp; done) | (simp [*]; done) | (simp [*, q_isEmpty]; done) | (simp [*]; exact q_gt _ _ (by assumption)), by repeat (first | exact Drawn0.refl _ | apply Drawn0.step)⟩
                                    · replace c32 := Bool.eq_false_iff.mpr c32
                                      subst c32
                                      have H1 : (spec_token.l0 k2 a0 (wrap64 (x8_2 + 1))) = some (r1, r2) := by rw [if_neg (show ¬ (false = true) by decide)] at H; exact H
                                      clear H
                                      have H := H1
                                      clear H1
                                      have H' := Aside0.mk H
                                      clear H
                                      have p30 : 0 ≤ (x8_2 : Int) := of_decide_eq_true (by first | (with_reducible assumption) | assumption)
                                      have q30 : x8_2 < (a0.size : Int) := of_decide_eq_true (by first | (with_reducible assumption) | assumption)
                                      have hx30 := bt_at a0 x8_2
                                      replace p30 := eq_true p30
                                      replace q30 := eq_true q30
                                      go_wp2_with (first | (go_at_call 70; (with_reducible refine (spec_reserved.calls (bt a0 x8_2) false _ A31.out).mono ?_); rintro e w' ⟨rfl, ⟨nd, rfl⟩⟩))
                                      go_roundg k2
                                      case measure => have := HJ2.out; have := HK2.out; omega
                                      case rel => exact ⟨(wrap64 (x8_2 + 1)), (by first | rfl | (simp; done) | (simp [*]; done) | (simp [*, q_isEmpty]; done) | (simp [*]; exact q_gt _ _ (by assumption))), H', ⟨by have := HJ2.out; have := HK2.out; omega⟩, by repeat (first | exact Drawn0.refl _ | apply Drawn0.step)⟩
                                  · rw [if_neg c29] at H
                                    exact absurd H (by simp)
                                · rw [if_neg c28] at H
                                  have c28b0 : decide (x8_2 < (a0.size : Int)) = false := decide_eq_false c28
                                  clear c28
                                  simp only [Option.some.injEq, Prod.mk.injEq] at H
                                  obtain ⟨rfl, rfl⟩ := H
                                  go_wp2
                                  go_ret2
                                  exact ⟨by first | rfl | (simp; done) | (simp [*]; done) | (simp [*, q_isEmpty]; done) | (simp [*]; exact q_gt _ _ (by assumption)), by repeat (first | exact Drawn0.refl _ | apply Drawn0.step)⟩
        · rw [if_neg c9] at H
          exact absurd H (by simp)
      · rw [if_neg c8] at H
        exact absurd H (by simp)

end Go.Proofs.YtnnhehlieakedaaGreatDoor.Q
namespace Go.Proofs.YtnnhehlieakedaaGreatDoor.Q
open Go.RowKit Go.Proofs.YtnnhehlieakedaaGreatDoorW.PrintWords Go.Proofs.YtnnhehlieakedaaGreatDoorW.PrintLast Go.Proofs.YtnnhehlieakedaaGreatDoorW.PrintMore
attribute [local go_sem] max2_int min2_int max_two min_two max_three min_three max_four min_four   -- for this text's walks alone
set_option linter.unusedVariables false
set_option linter.unusedSimpArgs false

/-! ### spec_Tokens: function 27 -/
def spec_Tokens.l0 : Nat → ByteArray → List (S61) → Int → Option ((List (S61)) × Int)
  | 0, _, _, _ => none
  | k + 1, x0, x4, x5 => if x5 < (x0.size : Int) then (if 0 ≤ x5 then ((spec_blank.f (bt x0 x5)).bind fun t122 => (if t122 = true then (spec_Tokens.l0 k x0 x4 (wrap64 (x5 + 1))) else ((spec_token.f k x0 x5).bind fun bt123 => (if bt123.1 = 0 then (some (x4, 0)) else (if x5 ≤ bt123.2 then (if bt123.2 ≤ (x0.size : Int) then (if x5 ≤ (x0.size : Int) then ((spec_Runes.f k (x0.extract 0 (x5 : Int).toNat)).bind fun t125 => (if 0 ≤ bt123.2 then ((spec_Runes.f k (x0.extract 0 (bt123.2 : Int).toNat)).bind fun t126 => (if x4.length < 2513169434916 then (spec_Tokens.l0 k x0 (x4 ++ [(⟨bt123.1, x0.extract (x5 : Int).toNat (bt123.2 : Int).toNat, x5, bt123.2, t125, t126⟩ : S61)]) bt123.2) else (none))) else (none))) else (none)) else (none)) else (none)))))) else (none)) else (some (x4, 1))
def spec_Tokens.f (k : Nat) (a0 : ByteArray) : Option ((List (S61)) × Int) := (spec_Settled.f k a0).bind fun t121 => (if t121 = true then (spec_Tokens.l0 k a0 ([] : List (S61)) 0) else (some (([] : List (S61)), 2)))
theorem spec_Tokens.mono_l : ∀ k, (∀ y0 y1 y2, LeO (spec_Tokens.l0 k y0 y1 y2) (spec_Tokens.l0 (k + 1) y0 y1 y2))
  | 0 => fun _ _ _ r h => by simp [spec_Tokens.l0] at h
  | k + 1 => by
    have ih0 := spec_Tokens.mono_l k
    · intro y0 y1 y2
      unfold spec_Tokens.l0
      repeat' first
      | (with_reducible exact ih0 _ _ _)
      | (with_reducible exact spec_Runes.mono _ _)
      | (with_reducible exact spec_Settled.mono _ _)
      | (with_reducible exact spec_token.mono _ _ _)
      | (with_reducible exact LeO.refl _)
      | (with_reducible exact LeO.none _)
      | (with_reducible refine LeO.ite ?_ ?_)
      | (with_reducible refine LeO.bind ?_ (fun _ => ?_))
      | exact ih0 _ _ _
      | exact spec_Runes.mono _ _
      | exact spec_Settled.mono _ _
      | exact spec_token.mono _ _ _
      | exact LeO.none _
      | refine LeO.ite ?_ ?_
      | refine LeO.bind ?_ (fun _ => ?_)
theorem spec_Tokens.mono : ∀ a0 k, LeO (spec_Tokens.f k a0) (spec_Tokens.f (k + 1) a0) := by
  intro a0 k
  have ih0 := spec_Tokens.mono_l k
  unfold spec_Tokens.f
  repeat' first
      | (with_reducible exact ih0 _ _ _)
      | (with_reducible exact spec_Runes.mono _ _)
      | (with_reducible exact spec_Settled.mono _ _)
      | (with_reducible exact spec_token.mono _ _ _)
      | (with_reducible exact LeO.refl _)
      | (with_reducible exact LeO.none _)
      | (with_reducible refine LeO.ite ?_ ?_)
      | (with_reducible refine LeO.bind ?_ (fun _ => ?_))
      | exact ih0 _ _ _
      | exact spec_Runes.mono _ _
      | exact spec_Settled.mono _ _
      | exact spec_token.mono _ _ _
      | exact LeO.none _
      | refine LeO.ite ?_ ?_
      | refine LeO.bind ?_ (fun _ => ?_)
def spec_Tokens.T11 : Bool × List (List Nat × List Nat) := (true, [([], []), ([], []), ([], []), ([], []), ([], []), ([2, 3, 4], [2, 3, 4]), ([], []), ([], []), ([], []), ([], []), ([8, 9], [8, 9]), ([10], [10]), ([], []), ([], []), ([12, 13], [12, 13]), ([14, 11], [14]), ([1, 5, 6, 7, 11, 15], [1, 5, 6, 7, 11, 15]), ([16], [16]), ([0, 17, 15], [0, 17]), ([18, 18, 0, 1, 2, 3, 4, 5, 6, 7, 8, 9, 10, 11, 12, 13, 14, 15, 16, 17, 18], [0, 18])])
def spec_Tokens.B11 : List Nat := [0, 0, 0, 0, 0, 28, 0, 0, 0, 0, 768, 1792, 0, 0, 12288, 32512, 65534, 131070, 262143, 524287]
theorem spec_Tokens.tab11 : rtab .any (opsOf Tryz.f27 11) = spec_Tokens.T11 := by kernel_rfl
theorem spec_Tokens.bits11 : waitsOk spec_Tokens.T11.2 spec_Tokens.B11 = true := by kernel_rfl
set_option maxHeartbeats 8000000 in
set_option maxRecDepth 100000 in
theorem spec_Tokens.calls (k : Nat) (a0 : ByteArray) (r1 : List (S61)) (r2 : Int) (w : World) (h : spec_Tokens.f k a0 = some (r1, r2)) :
    Calls Tryz.prog 27 #[.string a0] w fun e w' => ∃ v0_ : Value, e = .returned (.tuple #[v0_, .int .i64 r2]) ∧ Kd.R k61 61 w' w.heap.size (fun _ => True) v0_ r1 ∧ Below w.heap.size w w' := by
  have hu61 := Tryz.underlying61
  have HB := Aside0.mk (Below.refl w.heap.size w)
  have H : ((spec_Settled.f k a0).bind fun t121 => (if t121 = true then (spec_Tokens.l0 k a0 ([] : List (S61)) 0) else (some (([] : List (S61)), 2)))) = some (r1, r2) := h
  clear h
  replace H := Option.bind_eq_some_iff.mp H
  obtain ⟨t121, A20, H⟩ := H
  replace H : (if t121 = true then (spec_Tokens.l0 k a0 ([] : List (S61)) 0) else (some (([] : List (S61)), 2))) = some (r1, r2) := H
  have A2 := Aside0.mk A20
  clear A20
  by_cases c3 : t121 = true
  · subst c3
    have H1 : (spec_Tokens.l0 k a0 ([] : List (S61)) 0) = some (r1, r2) := by rw [if_pos rfl] at H; exact H
    clear H
    have H := H1
    clear H1
    have H' := Aside0.mk H
    clear H
    go_enter Tryz.func27, Tryz.ntmps27
    go_wp2_with (first | ((with_reducible refine gate_callee (f := 44) rfl ?_); refine goesL_ (some 9) rfl rfl Tryz.func44 (by kernel_rfl) rfl #[.string a0] rfl (by (try simp only [List.map_toArray, List.map_cons, List.map_nil]); first | done | rfl | (simp only [List.length_drop, List.length_take]; rfl)) ?_; (with_reducible refine (spec_Settled.calls k a0 true _ A2.out).mono ?_); rintro e w4 ⟨rfl, hb⟩; refine ⟨_, rfl, ?_⟩; have n0_ := Aside0.mk (below_step (by repeat (first | (with_reducible first | exact HB.out | apply below_alloc | apply pw_below_drewN | apply below_drew1) | exact HB.out)) hb); clear HB; have HB := n0_; clear n0_; (try clear hb); (try clear hb2); (try clear hk); (try clear hi)))
    go_loopg [4, 5] k (fun kq v4 v5 w' => ∃ (x4_1 : List (S61)) (x5_1 : Int), v5 = .int .i64 x5_1 ∧ Aside0 (spec_Tokens.l0 kq a0 x4_1 x5_1 = some (r1, r2)) ∧ Aside0 (kq ≤ k) ∧ Aside0 (Kd.R k61 61 w' w.heap.size (fun _ => True) v4 x4_1) ∧ Aside0 (Below w.heap.size w w'))
    case atStart => exact ⟨(([] : List (S61))), (0), (by first | rfl | (simp; done) | (simp [*]; done) | (simp [*, q_isEmpty]; done) | (simp [*]; exact q_gt _ _ (by assumption))), H', ⟨Nat.le_refl _⟩, ⟨by first | exact Kd.R_nil _ _ _ _ _ | exact Kd.N_nil _ _ _ _ _ | exact Kd.V_nil _ _ _ _ _ | exact Kd.Q_nil _ _ _ _ _ | exact Kd.S_nil _ _ _ _ _⟩, ⟨by repeat (first | (with_reducible first | exact HB.out | apply below_alloc | apply pw_below_drewN | apply below_drew1) | exact HB.out)⟩⟩
    case round =>
      clear H'
      try clear c2
      try clear p2
      try clear c3
      try clear c4
      obtain ⟨x4_1, x5_1, rfl, HA, HK1, HO_4, HB⟩ := hrel
      cases gk with
      | zero => exact absurd HA.out (by simp [spec_Tokens.l0])
      | succ k1 =>
        have H := HA.out
        clear HA
        simp only [spec_Tokens.l0] at H
        by_cases c5 : x5_1 < (a0.size : Int)
        · rw [if_pos c5] at H
          have c5b0 : decide (x5_1 < (a0.size : Int)) = true := decide_eq_true c5
          clear c5
          by_cases c6 : 0 ≤ x5_1
          · rw [if_pos c6] at H
            have c6b0 : decide (0 ≤ x5_1) = true := decide_eq_true c6
            clear c6
            replace H := Option.bind_eq_some_iff.mp H
            obtain ⟨t122, A80, H⟩ := H
            replace H : (if t122 = true then (spec_Tokens.l0 k1 a0 x4_1 (wrap64 (x5_1 + 1))) else ((spec_token.f k1 a0 x5_1).bind fun bt123 => (if bt123.1 = 0 then (some (x4_1, 0)) else (if x5_1 ≤ bt123.2 then (if bt123.2 ≤ (a0.size : Int) then (if x5_1 ≤ (a0.size : Int) then ((spec_Runes.f k1 (a0.extract 0 (x5_1 : Int).toNat)).bind fun t125 => (if 0 ≤ bt123.2 then ((spec_Runes.f k1 (a0.extract 0 (bt123.2 : Int).toNat)).bind fun t126 => (if x4_1.length < 2513169434916 then (spec_Tokens.l0 k1 a0 (x4_1 ++ [(⟨bt123.1, a0.extract (x5_1 : Int).toNat (bt123.2 : Int).toNat, x5_1, bt123.2, t125, t126⟩ : S61)]) bt123.2) else (none))) else (none))) else (none)) else (none)) else (none))))) = some (r1, r2) := H
            have A8 := Aside0.mk A80
            clear A80
            by_cases c9 : t122 = true
            · subst c9
              have H1 : (spec_Tokens.l0 k1 a0 x4_1 (wrap64 (x5_1 + 1))) = some (r1, r2) := by rw [if_pos rfl] at H; exact H
              clear H
              have H := H1
              clear H1
              have H' := Aside0.mk H
              clear H
              have p7 : 0 ≤ (x5_1 : Int) := of_decide_eq_true (by first | (with_reducible assumption) | assumption)
              have q7 : x5_1 < (a0.size : Int) := of_decide_eq_true (by first | (with_reducible assumption) | assumption)
              have hx7 := bt_at a0 x5_1
              replace p7 := eq_true p7
              replace q7 := eq_true q7
              go_wp2_with (first | ((with_reducible refine gate_callee (f := 45) rfl ?_); refine goesL_ (some 18) rfl rfl Tryz.func45 (by kernel_rfl) rfl #[.int .u8 (bt a0 x5_1)] rfl (by (try simp only [List.map_toArray, List.map_cons, List.map_nil]); first | done | rfl | (simp only [List.length_drop, List.length_take]; rfl)) ?_; (with_reducible refine (spec_blank.calls (bt a0 x5_1) true _ A8.out).mono ?_); rintro e w' ⟨rfl, ⟨nd, rfl⟩⟩; refine ⟨_, rfl, ?_⟩))
              go_roundg k1
              case measure => have := HK1.out; omega
              case rel => exact ⟨(x4_1), (wrap64 (x5_1 + 1)), (by first | rfl | (simp; done) | (simp [*]; done) | (simp [*, q_isEmpty]; done) | (simp [*]; exact q_gt _ _ (by assumption))), H', ⟨by have := HK1.out; omega⟩, ⟨by (with_reducible repeat (first | apply Kd.R_alloc | apply Kd.R_drewN | apply Kd.R_drew)); exact HO_4.out⟩, ⟨by repeat (first | (with_reducible first | exact HB.out | apply below_alloc | apply pw_below_drewN | apply below_drew1) | exact HB.out)⟩⟩
            · replace c9 := Bool.eq_false_iff.mpr c9
              subst c9
              have H1 : ((spec_token.f k1 a0 x5_1).bind fun bt123 => (if bt123.1 = 0 then (some (x4_1, 0)) else (if x5_1 ≤ bt123.2 then (if bt123.2 ≤ (a0.size : Int) then (if x5_1 ≤ (a0.size : Int) then ((spec_Runes.f k1 (a0.extract 0 (x5_1 : Int).toNat)).bind fun t125 => (if 0 ≤ bt123.2 then ((spec_Runes.f k1 (a0.extract 0 (bt123.2 : Int).toNat)).bind fun t126 => (if x4_1.length < 2513169434916 then (spec_Tokens.l0 k1 a0 (x4_1 ++ [(⟨bt123.1, a0.extract (x5_1 : Int).toNat (bt123.2 : Int).toNat, x5_1, bt123.2, t125, t126⟩ : S61)]) bt123.2) else (none))) else (none))) else (none)) else (none)) else (none)))) = some (r1, r2) := by rw [if_neg (show ¬ (false = true) by decide)] at H; exact H
              clear H
              have H := H1
              clear H1
              replace H := Option.bind_eq_some_iff.mp H
              obtain ⟨⟨t123, t124⟩, A100, H⟩ := H
              replace H : (if t123 = 0 then (some (x4_1, 0)) else (if x5_1 ≤ t124 then (if t124 ≤ (a0.size : Int) then (if x5_1 ≤ (a0.size : Int) then ((spec_Runes.f k1 (a0.extract 0 (x5_1 : Int).toNat)).bind fun t125 => (if 0 ≤ t124 then ((spec_Runes.f k1 (a0.extract 0 (t124 : Int).toNat)).bind fun t126 => (if x4_1.length < 2513169434916 then (spec_Tokens.l0 k1 a0 (x4_1 ++ [(⟨t123, a0.extract (x5_1 : Int).toNat (t124 : Int).toNat, x5_1, t124, t125, t126⟩ : S61)]) t124) else (none))) else (none))) else (none)) else (none)) else (none))) = some (r1, r2) := H
              have A10 := Aside0.mk A100
              clear A100
              by_cases c11 : t123 = 0
              · rw [if_pos c11] at H
                have c11b0 : (t123 == 0) = true := beq_iff_eq.mpr c11
                have c11b1 : (t123 != 0) = false := bne_eq_false_iff_eq.mpr c11
                clear c11
                simp only [Option.some.injEq, Prod.mk.injEq] at H
                obtain ⟨rfl, rfl⟩ := H
                have p7 : 0 ≤ (x5_1 : Int) := of_decide_eq_true (by first | (with_reducible assumption) | assumption)
                have q7 : x5_1 < (a0.size : Int) := of_decide_eq_true (by first | (with_reducible assumption) | assumption)
                have hx7 := bt_at a0 x5_1
                replace p7 := eq_true p7
                replace q7 := eq_true q7
                go_wp2_with (first | ((with_reducible refine gate_callee (f := 45) rfl ?_); refine goesL_ (some 18) rfl rfl Tryz.func45 (by kernel_rfl) rfl #[.int .u8 (bt a0 x5_1)] rfl (by (try simp only [List.map_toArray, List.map_cons, List.map_nil]); first | done | rfl | (simp only [List.length_drop, List.length_take]; rfl)) ?_; (with_reducible refine (spec_blank.calls (bt a0 x5_1) false _ A8.out).mono ?_); rintro e w' ⟨rfl, ⟨nd, rfl⟩⟩; refine ⟨_, rfl, ?_⟩) | ((with_reducible refine gate_callee (f := 46) rfl ?_); refine goesL_ (some 24) rfl rfl Tryz.func46 (by kernel_rfl) rfl #[.string a0, .int .i64 x5_1] rfl (by (try simp only [List.map_toArray, List.map_cons, List.map_nil]); first | done | rfl | (simp only [List.length_drop, List.length_take]; rfl)) ?_; (with_reducible refine (spec_token.calls k1 a0 x5_1 t123 t124 _ A10.out).mono ?_); rintro e w' ⟨rfl, ⟨nd, rfl⟩⟩; refine ⟨_, rfl, ?_⟩))
                go_ret2
                exact ⟨_, by first | rfl | (simp [errW_none, errW_some] <;> rfl) | (simp [*, errW_none, errW_some] <;> rfl) | (simp [*, q_isEmpty]; done) | (simp [*]; exact q_gt _ _ (by assumption)), by (with_reducible repeat (first | apply Kd.R_alloc | apply Kd.R_drewN | apply Kd.R_drew)); exact HO_4.out, by repeat (first | (with_reducible first | exact HB.out | apply below_alloc | apply pw_below_drewN | apply below_drew1) | exact HB.out)⟩
              · rw [if_neg c11] at H
                have c11b0 : (t123 == 0) = false := beq_eq_false_iff_ne.mpr c11
                have c11b1 : (t123 != 0) = true := bne_iff_ne.mpr c11
                have c12b0 := eq_true (of_decide_eq_true (by first | (with_reducible assumption) | assumption) : 0 ≤ x5_1)
                by_cases c13 : x5_1 ≤ t124
                · rw [if_pos c13] at H
                  have c13b0 := eq_true c13
                  have c13b1 : decide (x5_1 ≤ t124) = true := decide_eq_true c13
                  clear c13
                  by_cases c14 : t124 ≤ (a0.size : Int)
                  · rw [if_pos c14] at H
                    have c14b0 := eq_true c14
                    have c14b1 : decide (t124 ≤ (a0.size : Int)) = true := decide_eq_true c14
                    clear c14
                    have c15b0 := eq_true (of_decide_eq_true (by first | (with_reducible assumption) | assumption) : 0 ≤ x5_1)
                    by_cases c16 : x5_1 ≤ (a0.size : Int)
                    · rw [if_pos c16] at H
                      have c16b0 := eq_true c16
                      have c16b1 : decide (x5_1 ≤ (a0.size : Int)) = true := decide_eq_true c16
                      clear c16
                      replace H := Option.bind_eq_some_iff.mp H
                      obtain ⟨t125, A170, H⟩ := H
                      replace H : (if 0 ≤ t124 then ((spec_Runes.f k1 (a0.extract 0 (t124 : Int).toNat)).bind fun t126 => (if x4_1.length < 2513169434916 then (spec_Tokens.l0 k1 a0 (x4_1 ++ [(⟨t123, a0.extract (x5_1 : Int).toNat (t124 : Int).toNat, x5_1, t124, t125, t126⟩ : S61)]) t124) else (none))) else (none)) = some (r1, r2) := H
                      have A17 := Aside0.mk A170
                      clear A170
                      by_cases c18 : 0 ≤ t124
                      · rw [if_pos c18] at H
                        have c18b0 := eq_true c18
                        have c18b1 : decide (0 ≤ t124) = true := decide_eq_true c18
                        clear c18
                        have c19b0 := eq_true (of_decide_eq_true (by first | (with_reducible assumption) | assumption) : t124 ≤ (a0.size : Int))
                        replace H := Option.bind_eq_some_iff.mp H
                        obtain ⟨t126, A200, H⟩ := H
                        replace H : (if x4_1.length < 2513169434916 then (spec_Tokens.l0 k1 a0 (x4_1 ++ [(⟨t123, a0.extract (x5_1 : Int).toNat (t124 : Int).toNat, x5_1, t124, t125, t126⟩ : S61)]) t124) else (none)) = some (r1, r2) := H
                        have A20 := Aside0.mk A200
                        clear A200
                        by_cases c21 : x4_1.length < 2513169434916
                        · rw [if_pos c21] at H
                          have LMc21 := Aside0.mk c21
                          clear c21
                          obtain ⟨y127, hy127⟩ : ∃ y_ : List (S61), y_ = (x4_1 ++ [(⟨t123, a0.extract (x5_1 : Int).toNat (t124 : Int).toNat, x5_1, t124, t125, t126⟩ : S61)]) := ⟨_, rfl⟩
                          replace H : (spec_Tokens.l0 k1 a0 y127 t124) = some (r1, r2) := by first | (rw [hy127]; with_reducible exact H) | (have H2_ := (Option.bind_some _ _).symm.trans H; rw [hy127]; with_reducible exact H2_) | (have H2_ := (Option.bind_some _ _).symm.trans H; with_reducible exact H2_) | with_reducible exact H | (rw [hy127]; exact H) | exact H
                          have Ny127 := Aside0.mk hy127
                          clear hy127
                          have H' := Aside0.mk H
                          clear H
                          have p7 : 0 ≤ (x5_1 : Int) := of_decide_eq_true (by first | (with_reducible assumption) | assumption)
                          have q7 : x5_1 < (a0.size : Int) := of_decide_eq_true (by first | (with_reducible assumption) | assumption)
                          have hx7 := bt_at a0 x5_1
                          replace p7 := eq_true p7
                          replace q7 := eq_true q7
                          try go_wp2_with (first | ((with_reducible refine gate_callee (f := 45) rfl ?_); refine goesL_ (some 18) rfl rfl Tryz.func45 (by kernel_rfl) rfl #[.int .u8 (bt a0 x5_1)] rfl (by (try simp only [List.map_toArray, List.map_cons, List.map_nil]); first | done | rfl | (simp only [List.length_drop, List.length_take]; rfl)) ?_; (with_reducible refine (spec_blank.calls (bt a0 x5_1) false _ A8.out).mono ?_); rintro e w' ⟨rfl, ⟨nd, rfl⟩⟩; refine ⟨_, rfl, ?_⟩) | ((with_reducible refine gate_callee (f := 46) rfl ?_); refine goesL_ (some 24) rfl rfl Tryz.func46 (by kernel_rfl) rfl #[.string a0, .int .i64 x5_1] rfl (by (try simp only [List.map_toArray, List.map_cons, List.map_nil]); first | done | rfl | (simp only [List.length_drop, List.length_take]; rfl)) ?_; (with_reducible refine (spec_token.calls k1 a0 x5_1 t123 t124 _ A10.out).mono ?_); rintro e w' ⟨rfl, ⟨nd, rfl⟩⟩; refine ⟨_, rfl, ?_⟩))
                          (try (rw [drewN_self wr]; generalize hq_ : World.drewN wr _ = wr; have n0_ : Aside0 (Kd.R k61 61 wr w.heap.size (fun _ => True) u4 x4_1) := ⟨by rw [← hq_]; exact (by (with_reducible repeat (first | apply Kd.R_alloc | apply Kd.R_drewN | apply Kd.R_drew)); exact HO_4.out)⟩; have n1_ : Aside0 (Below w.heap.size w wr) := ⟨by rw [← hq_]; exact (by repeat (first | (with_reducible first | exact HB.out | apply below_alloc | apply pw_below_drewN | apply below_drew1) | exact HB.out))⟩; clear HO_4 HB hq_; have HO_4 := n0_; have HB := n1_; clear n0_ n1_))
                          have n0_ := Aside0.mk (Kd.R_drew HO_4.out)
                          have n1_ := Aside0.mk (below_drew1 HB.out)
                          clear HO_4
                          clear HB
                          have HO_4 := n0_
                          have HB := n1_
                          clear n0_ n1_
                          refine start_ (n := 20) (S := fun w' => True) (ds := []) #[false, false, false, false, false, false, false, false, false, false, false, false, false, false, false, false, false, false, false, false] (by kernel_rfl) rfl rfl trivial (fun hHeld => ?_); refine with_tabW spec_Tokens.tab11 spec_Tokens.bits11 (fun HT_ HW_ => ?_)
                          generalize wr.drew = w22 at HO_4 HB hHeld ⊢
                          refine pure_ (i := 0) (N := some 30) (v := ?_) (a' := ?_) #[true, false, false, false, false, false, false, false, false, false, false, false, false, false, false, false, false, false, false, false] rfl rfl (any_of HT_.out (by kernel_rfl)) (fun _ _ _ h => h) (Or.inl ⟨by rfl, ?_⟩) ?_ ?_
                          rotate_left
                          · intro w'
                            go_simp
                            with_reducible rfl
                          rotate_left
                          · simp only [Act.put, List.setIfInBounds_toArray, List.set_cons_zero, List.set_cons_succ, i64_w, i32_w]
                            rfl
                          refine pure_ (i := 1) (N := some 31) (v := ?_) (a' := ?_) #[true, true, false, false, false, false, false, false, false, false, false, false, false, false, false, false, false, false, false, false] rfl rfl (any_of HT_.out (by kernel_rfl)) (fun _ _ _ h => h) (Or.inl ⟨by rfl, ?_⟩) ?_ ?_
                          rotate_left
                          · intro w'
                            go_simp
                            with_reducible rfl
                          rotate_left
                          · simp only [Act.put, List.setIfInBounds_toArray, List.set_cons_zero, List.set_cons_succ, i64_w, i32_w]
                            rfl
                          refine pure_ (i := 2) (N := some 32) (v := ?_) (a' := ?_) #[true, true, true, false, false, false, false, false, false, false, false, false, false, false, false, false, false, false, false, false] rfl rfl (any_of HT_.out (by kernel_rfl)) (fun _ _ _ h => h) (Or.inl ⟨by rfl, ?_⟩) ?_ ?_
                          rotate_left
                          · intro w'
                            go_simp
                            with_reducible rfl
                          rotate_left
                          · simp only [Act.put, List.setIfInBounds_toArray, List.set_cons_zero, List.set_cons_succ, i64_w, i32_w]
                            rfl
                          refine pure_ (i := 3) (N := some 33) (v := ?_) (a' := ?_) #[true, true, true, true, false, false, false, false, false, false, false, false, false, false, false, false, false, false, false, false] rfl rfl (any_of HT_.out (by kernel_rfl)) (fun _ _ _ h => h) (Or.inl ⟨by rfl, ?_⟩) ?_ ?_
                          rotate_left
                          · intro w'
                            go_simp
                            with_reducible rfl
                          rotate_left
                          · simp only [Act.put, List.setIfInBounds_toArray, List.set_cons_zero, List.set_cons_succ, i64_w, i32_w]
                            rfl
                          refine pure_ (i := 4) (N := some 34) (v := ?_) (a' := ?_) #[true, true, true, true, true, false, false, false, false, false, false, false, false, false, false, false, false, false, false, false] rfl rfl (any_of HT_.out (by kernel_rfl)) (fun _ _ _ h => h) (Or.inl ⟨by rfl, ?_⟩) ?_ ?_
                          rotate_left
                          · intro w'
                            go_simp
                            with_reducible rfl
                          rotate_left
                          · simp only [Act.put, List.setIfInBounds_toArray, List.set_cons_zero, List.set_cons_succ, i64_w, i32_w]
                            rfl
                          refine pure_ (i := 5) (N := some 35) (v := ?_) (a' := ?_) #[true, true, true, true, true, true, false, false, false, false, false, false, false, false, false, false, false, false, false, false] rfl rfl (any_of HT_.out (by kernel_rfl)) (fun _ _ _ h => h) (Or.inl ⟨by rfl, ?_⟩) ?_ ?_
                          rotate_left
                          · intro w'
                            go_simp
                            with_reducible rfl
                          rotate_left
                          · simp only [Act.put, List.setIfInBounds_toArray, List.set_cons_zero, List.set_cons_succ, i64_w, i32_w]
                            rfl
                          refine pure_ (i := 6) (N := some 36) (v := ?_) (a' := ?_) #[true, true, true, true, true, true, true, false, false, false, false, false, false, false, false, false, false, false, false, false] rfl rfl (any_of HT_.out (by kernel_rfl)) (fun _ _ _ h => h) (Or.inl ⟨by rfl, ?_⟩) ?_ ?_
                          rotate_left
                          · intro w'
                            go_simp
                            with_reducible rfl
                          rotate_left
                          · simp only [Act.put, List.setIfInBounds_toArray, List.set_cons_zero, List.set_cons_succ, i64_w, i32_w]
                            rfl
                          refine pure_ (i := 7) (N := some 37) (v := ?_) (a' := ?_) #[true, true, true, true, true, true, true, true, false, false, false, false, false, false, false, false, false, false, false, false] rfl rfl (any_of HT_.out (by kernel_rfl)) (fun _ _ _ h => h) (Or.inl ⟨by rfl, ?_⟩) ?_ ?_
                          rotate_left
                          · intro w'
                            go_simp
                            with_reducible rfl
                          rotate_left
                          · simp only [Act.put, List.setIfInBounds_toArray, List.set_cons_zero, List.set_cons_succ, i64_w, i32_w]
                            rfl
                          refine pure_ (i := 8) (N := some 38) (v := ?_) (a' := ?_) #[true, true, true, true, true, true, true, true, true, false, false, false, false, false, false, false, false, false, false, false] rfl rfl (any_of HT_.out (by kernel_rfl)) (fun _ _ _ h => h) (Or.inl ⟨by rfl, ?_⟩) ?_ ?_
                          rotate_left
                          · intro w'
                            go_simp
                            with_reducible rfl
                          rotate_left
                          · simp only [Act.put, List.setIfInBounds_toArray, List.set_cons_zero, List.set_cons_succ, i64_w, i32_w]
                            rfl
                          refine pure_ (i := 9) (N := some 39) (v := ?_) (a' := ?_) #[true, true, true, true, true, true, true, true, true, true, false, false, false, false, false, false, false, false, false, false] rfl rfl (any_of HT_.out (by kernel_rfl)) (fun _ _ _ h => h) (Or.inl ⟨by rfl, ?_⟩) ?_ ?_
                          rotate_left
                          · intro w'
                            go_simp
                            with_reducible rfl
                          rotate_left
                          · simp only [Act.put, List.setIfInBounds_toArray, List.set_cons_zero, List.set_cons_succ, i64_w, i32_w]
                            rfl
                          refine pure_ (i := 10) (N := some 40) (v := ?_) (a' := ?_) #[true, true, true, true, true, true, true, true, true, true, true, false, false, false, false, false, false, false, false, false] rfl rfl (any_of HT_.out (by kernel_rfl)) (fun _ _ _ h => h) (Or.inl ⟨by rfl, ?_⟩) ?_ ?_
                          rotate_left
                          · intro w'
                            go_simp
                            with_reducible rfl
                          rotate_left
                          · simp only [Act.put, List.setIfInBounds_toArray, List.set_cons_zero, List.set_cons_succ, i64_w, i32_w]
                            rfl
                          refine pure_ (i := 12) (N := some 42) (v := ?_) (a' := ?_) #[true, true, true, true, true, true, true, true, true, true, true, false, true, false, false, false, false, false, false, false] rfl rfl (any_of HT_.out (by kernel_rfl)) (fun _ _ _ h => h) (Or.inl ⟨by rfl, ?_⟩) ?_ ?_
                          rotate_left
                          · intro w'
                            go_simp
                            with_reducible rfl
                          rotate_left
                          · simp only [Act.put, List.setIfInBounds_toArray, List.set_cons_zero, List.set_cons_succ, i64_w, i32_w]
                            rfl
                          refine pure_ (i := 13) (N := some 43) (v := ?_) (a' := ?_) #[true, true, true, true, true, true, true, true, true, true, true, false, true, true, false, false, false, false, false, false] rfl rfl (any_of HT_.out (by kernel_rfl)) (fun _ _ _ h => h) (Or.inl ⟨by rfl, ?_⟩) ?_ ?_
                          rotate_left
                          · intro w'
                            go_simp
                            with_reducible rfl
                          rotate_left
                          · simp only [Act.put, List.setIfInBounds_toArray, List.set_cons_zero, List.set_cons_succ, i64_w, i32_w]
                            rfl
                          refine pure_ (i := 14) (N := some 44) (v := ?_) (a' := ?_) #[true, true, true, true, true, true, true, true, true, true, true, false, true, true, true, false, false, false, false, false] rfl rfl (any_of HT_.out (by kernel_rfl)) (fun _ _ _ h => h) (Or.inl ⟨by rfl, ?_⟩) ?_ ?_
                          rotate_left
                          · intro w'
                            go_simp
                            with_reducible rfl
                          rotate_left
                          · simp only [Act.put, List.setIfInBounds_toArray, List.set_cons_zero, List.set_cons_succ, i64_w, i32_w]
                            rfl
                          refine one_ (i := 11) (N := some 41) #[true, true, true, true, true, true, true, true, true, true, true, true, true, true, true, false, false, false, false, false] rfl rfl (one_of HT_.out (by kernel_rfl)) (by decide) (fun K hK => ?_)
                          refine goes_ Tryz.func47 (by kernel_rfl) rfl #[.string (a0.extract 0 (x5_1 : Int).toNat)] (by rfl) rfl rfl (by (try simp only [List.map_toArray, List.map_cons, List.map_nil]); first | done | rfl | (simp only [List.length_drop, List.length_take]; rfl)) ?_
                          with_reducible refine (spec_Runes.calls k1 (a0.extract 0 (x5_1 : Int).toNat) t125 _ A17.out).mono ?_
                          rintro e w' ⟨rfl, ⟨nd, rfl⟩⟩
                          refine ⟨_, rfl, ?_⟩
                          refine hK.out _ _ trivial (fun hHeld => ?_)
                          clear hK K
                          refine norm_ (a' := ?_) ?_ ?_
                          rotate_left
                          · show Act.put _ (some 41) _ = _
                            simp only [Act.put, List.setIfInBounds_toArray, List.set_cons_zero, List.set_cons_succ, i64_w, i32_w]
                            rfl
                          refine one_ (i := 15) (N := some 45) #[true, true, true, true, true, true, true, true, true, true, true, true, true, true, true, true, false, false, false, false] rfl rfl (one_of HT_.out (by kernel_rfl)) (by decide) (fun K hK => ?_)
                          refine goes_ Tryz.func47 (by kernel_rfl) rfl #[.string (a0.extract 0 (t124 : Int).toNat)] (by rfl) rfl rfl (by (try simp only [List.map_toArray, List.map_cons, List.map_nil]); first | done | rfl | (simp only [List.length_drop, List.length_take]; rfl)) ?_
                          with_reducible refine (spec_Runes.calls k1 (a0.extract 0 (t124 : Int).toNat) t126 _ A20.out).mono ?_
                          rintro e w' ⟨rfl, ⟨nd, rfl⟩⟩
                          refine ⟨_, rfl, ?_⟩
                          refine hK.out _ _ trivial (fun hHeld => ?_)
                          clear hK K
                          refine norm_ (a' := ?_) ?_ ?_
                          rotate_left
                          · show Act.put _ (some 45) _ = _
                            simp only [Act.put, List.setIfInBounds_toArray, List.set_cons_zero, List.set_cons_succ, i64_w, i32_w]
                            rfl
                          refine pure_ (i := 16) (N := some 46) (v := ?_) (a' := ?_) #[true, true, true, true, true, true, true, true, true, true, true, true, true, true, true, true, true, false, false, false] rfl rfl (any_of HT_.out (by kernel_rfl)) (fun _ _ _ h => h) (Or.inl ⟨by rfl, ?_⟩) ?_ ?_
                          rotate_left
                          · intro w'
                            go_simp
                            with_reducible rfl
                          rotate_left
                          · simp only [Act.put, List.setIfInBounds_toArray, List.set_cons_zero, List.set_cons_succ, i64_w, i32_w]
                            rfl
                          refine one_ (i := 17) (N := some 47) #[true, true, true, true, true, true, true, true, true, true, true, true, true, true, true, true, true, true, false, false] rfl rfl (one_of HT_.out (by kernel_rfl)) (by decide) (fun K hK => ?_)
                          refine value_ (w1 := ?_) (v := ?_) (by rfl) rfl ?_ ?_
                          rotate_left 2
                          · go_simp
                            constructor
                            · rfl
                            · rfl
                          refine hK.out _ _ trivial (fun hHeld => ?_)
                          clear hK K
                          refine norm_ (a' := ?_) ?_ ?_
                          rotate_left
                          · show Act.put _ (some 47) _ = _
                            simp only [Act.put, List.setIfInBounds_toArray, List.set_cons_zero, List.set_cons_succ, i64_w, i32_w]
                            rfl
                          refine one_ (i := 18) (N := some 48) #[true, true, true, true, true, true, true, true, true, true, true, true, true, true, true, true, true, true, true, false] rfl rfl (one_of HT_.out (by kernel_rfl)) (by decide) (fun K hK => ?_)
                          refine Kd.R_append_step k61 (w0 := w) w.heap.size (by rfl) (.tmp 30) (.tmp 47) 57 61 (.agg #[(.int .i64 0), (.string ⟨#[]⟩), (.int .i64 0), (.int .i64 0), (.int .i64 0), (.int .i64 0)]) 56 rfl Tryz.underlying57 info61 rfl (by decide) (by omega) u4 x4_1 (⟨t123, a0.extract (x5_1 : Int).toNat (t124 : Int).toNat, x5_1, t124, t125, t126⟩ : S61) [.int .i64 t123, .string (a0.extract (x5_1 : Int).toNat (t124 : Int).toNat), .int .i64 x5_1, .int .i64 t124, .int .i64 t125, .int .i64 t126] (fun _ => True) (fun _ => False) rfl rfl ?aP (fun _ hk => hk.elim) ?aF ?aO ?aB ?aS ?aL ?_
                          (case aP => exact k61_mkM _ _ _ (⟨t123, a0.extract (x5_1 : Int).toNat (t124 : Int).toNat, x5_1, t124, t125, t126⟩ : S61))
                          (case aB => exact (by repeat (first | (with_reducible first | exact HB.out | apply below_alloc | apply pw_below_drewN | apply below_drew1) | exact HB.out)))
                          (case aF => exact (fun _ _ => trivial))
                          (case aO => exact (by (with_reducible repeat (first | apply Kd.R_alloc | apply Kd.R_drewN | apply Kd.R_drew)); exact HO_4.out))
                          (case aS => exact (below_size (by repeat (first | (with_reducible first | exact HB.out | apply below_alloc | apply pw_below_drewN | apply below_drew1) | exact HB.out))))
                          (case aL => have := LMc21.out; omega)
                          intro v128 w23 ho hb hg hat
                          rw [← Ny127.out] at ho
                          have n0_ := Aside0.mk (hb)
                          have n1_ := Aside0.mk (ho)
                          clear HB
                          clear HO_4
                          have HB := n0_
                          have HO129 := n1_
                          clear n0_ n1_
                          clear ho hb hg hat
                          refine hK.out _ _ trivial (fun hHeld => ?_)
                          clear hK K
                          refine norm_ (a' := ?_) ?_ ?_
                          rotate_left
                          · show Act.put _ (some 48) _ = _
                            simp only [Act.put, List.setIfInBounds_toArray, List.set_cons_zero, List.set_cons_succ, i64_w, i32_w]
                            rfl
                          refine pure_ (i := 19) (N := some 4) (v := ?_) (a' := ?_) #[true, true, true, true, true, true, true, true, true, true, true, true, true, true, true, true, true, true, true, true] rfl rfl (any_of HT_.out (by kernel_rfl)) (fun _ _ _ h => h) (Or.inl ⟨by rfl, ?_⟩) ?_ ?_
                          rotate_left
                          · intro w'
                            go_simp
                            with_reducible rfl
                          rotate_left
                          · simp only [Act.put, List.setIfInBounds_toArray, List.set_cons_zero, List.set_cons_succ, i64_w, i32_w]
                            rfl
                          refine done_ (done_of HT_.out (by kernel_rfl)) ?_
                          try go_wp2
                          go_roundg k1
                          case measure => have := HK1.out; omega
                          case rel => exact ⟨(y127), (t124), (by first | rfl | (simp; done) | (simp [*]; done) | (simp [*, q_isEmpty]; done) | (simp [*]; exact q_gt _ _ (by assumption))), H', ⟨by have := HK1.out; omega⟩, ⟨by (with_reducible repeat (first | apply Kd.R_alloc | apply Kd.R_drewN | apply Kd.R_drew)); exact HO129.out⟩, ⟨by repeat (first | (with_reducible first | exact HB.out | apply below_alloc | apply pw_below_drewN | apply below_drew1) | exact HB.out)⟩⟩
                        · rw [if_neg c21] at H
                          exact absurd H (by simp)
                      · rw [if_neg c18] at H
                        exact absurd H (by simp)
                    · rw [if_neg c16] at H
                      exact absurd H (by simp)
                  · rw [if_neg c14] at H
                    exact absurd H (by simp)
                · rw [if_neg c13] at H
                  exact absurd H (by simp)
          · rw [if_neg c6] at H
            exact absurd H (by simp)
        · rw [if_neg c5] at H
          have c5b0 : decide (x5_1 < (a0.size : Int)) = false := decide_eq_false c5
          clear c5
          simp only [Option.some.injEq, Prod.mk.injEq] at H
          obtain ⟨rfl, rfl⟩ := H
          go_wp2
          go_ret2
          exact ⟨_, by first | rfl | (simp [errW_none, errW_some] <;> rfl) | (simp [*, errW_none, errW_some] <;> rfl) | (simp [*, q_isEmpty]; done) | (simp [*]; exact q_gt _ _ (by assumption)), by (with_reducible repeat (first | apply Kd.R_alloc | apply Kd.R_drewN | apply Kd.R_drew)); exact HO_4.out, by repeat (first | (with_reducible first | exact HB.out | apply below_alloc | apply pw_below_drewN | apply below_drew1) | exact HB.out)⟩
  · replace c3 := Bool.eq_false_iff.mpr c3
    subst c3
    have H1 : (some (([] : List (S61)), 2)) = some (r1, r2) := by rw [if_neg (show ¬ (false = true) by decide)] at H; exact H
    clear H
    have H := H1
    clear H1
    simp only [Option.some.injEq, Prod.mk.injEq] at H
    obtain ⟨rfl, rfl⟩ := H
    go_enter Tryz.func27, Tryz.ntmps27
    go_wp2_with (first | ((with_reducible refine gate_callee (f := 44) rfl ?_); refine goesL_ (some 9) rfl rfl Tryz.func44 (by kernel_rfl) rfl #[.string a0] rfl (by (try simp only [List.map_toArray, List.map_cons, List.map_nil]); first | done | rfl | (simp only [List.length_drop, List.length_take]; rfl)) ?_; (with_reducible refine (spec_Settled.calls k a0 false _ A2.out).mono ?_); rintro e w24 ⟨rfl, hb⟩; refine ⟨_, rfl, ?_⟩; have n0_ := Aside0.mk (below_step (by repeat (first | (with_reducible first | exact HB.out | apply below_alloc | apply pw_below_drewN | apply below_drew1) | exact HB.out)) hb); clear HB; have HB := n0_; clear n0_; (try clear hb); (try clear hb2); (try clear hk); (try clear hi)))
    go_ret2
    exact ⟨_, by first | rfl | (simp [errW_none, errW_some] <;> rfl) | (simp [*, errW_none, errW_some] <;> rfl) | (simp [*, q_isEmpty]; done) | (simp [*]; exact q_gt _ _ (by assumption)), by first | exact Kd.R_nil _ _ _ _ _ | exact Kd.N_nil _ _ _ _ _ | exact Kd.V_nil _ _ _ _ _ | exact Kd.Q_nil _ _ _ _ _ | exact Kd.S_nil _ _ _ _ _, by repeat (first | (with_reducible first | exact HB.out | apply below_alloc | apply pw_below_drewN | apply below_drew1) | exact HB.out)⟩

end Go.Proofs.YtnnhehlieakedaaGreatDoor.Q
