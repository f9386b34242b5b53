-- Printed for this seat by wip/pp.py of this repo; nothing here is trusted: Lean checks it.
import Derived.Test.YtmmcibeeojfplaaDoorQ0
import Derived.Test.YtmmcibeeojfplaaDoorQspecunitOf
namespace Go.Proofs.YtmmcibeeojfplaaDoor.Q
open Go.RowKit Go.Proofs.YtmmcibeeojfplaaDoorW.PrintWords Go.Proofs.YtmmcibeeojfplaaDoorW.PrintLast Go.Proofs.YtmmcibeeojfplaaDoorW.PrintMore
attribute [local go_sem] max2_int min2_int max_two min_two max_three min_three max_four min_four   -- for this text's walks alone
set_option linter.unusedVariables false
set_option linter.unusedSimpArgs false

/-! ### spec_ReadDuration: function 15 -/
theorem q_w0 : wrap64 0 = 0 := by unfold wrap64; omega
mutual
def spec_ReadDuration.l0 : Nat → ByteArray → Int → Int → Int → Option (Int × Int)
  | 0, _, _, _, _ => none
  | k + 1, x0, x4, x5, x6 => if (x0.size : Int) > 0 then (spec_ReadDuration.l1 k x0 x4 x5 x6 0 0) else (if x6 = 1 then (some (x4, 1)) else (some (0, x6)))
def spec_ReadDuration.l1 : Nat → ByteArray → Int → Int → Int → Int → Int → Option (Int × Int)
  | 0, _, _, _, _, _, _ => none
  | k + 1, x0, x4, x5, x6, x7, x8 => if x8 < (x0.size : Int) then (if 0 ≤ x8 then (if (bt x0 x8) ≥ 48 then (spec_ReadDuration.j2 k x0 x4 x5 x6 x7 x8 (decide ((bt x0 x8) ≤ 57))) else (spec_ReadDuration.j2 k x0 x4 x5 x6 x7 x8 false)) else (none)) else (spec_ReadDuration.j2 k x0 x4 x5 x6 x7 x8 false)
def spec_ReadDuration.j2 : Nat → ByteArray → Int → Int → Int → Int → Int → Bool → Option (Int × Int)
  | 0, _, _, _, _, _, _, _ => none
  | k + 1, x0, x4, x5, x6, x7, x8, x34 => if x34 = true then (if x8 < 18 then (if 0 ≤ x8 then (if x8 < (x0.size : Int) then (spec_ReadDuration.l1 k x0 x4 x5 x6 (wrap64 ((wrap64 (10 * x7)) + (((bt x0 x8) - 48) % 256))) (wrap64 (x8 + 1))) else (none)) else (none)) else (spec_ReadDuration.l1 k x0 x4 x5 x6 x7 (wrap64 (x8 + 1)))) else (if 0 ≤ x8 then (if x8 ≤ (x0.size : Int) then ((spec_unitOf.f (x0.extract (x8 : Int).toNat x0.size)).bind fun bt132 => (if x8 = 0 then (spec_ReadDuration.j3 k x0 x4 x6 x7 x8 bt132.1 bt132.2.1 bt132.2.2 true) else (spec_ReadDuration.j3 k x0 x4 x6 x7 x8 bt132.1 bt132.2.1 bt132.2.2 (decide (bt132.1 ≤ x5))))) else (none)) else (none))
def spec_ReadDuration.j3 : Nat → ByteArray → Int → Int → Int → Int → Int → Int → Int → Bool → Option (Int × Int)
  | 0, _, _, _, _, _, _, _, _, _ => none
  | k + 1, x0, x4, x6, x7, x8, x9, x10, x11, x61 => if x61 = true then (some (0, 0)) else (if x8 > 18 then (if 0 ≤ (wrap64 (x8 + x10)) then (if (wrap64 (x8 + x10)) ≤ (x0.size : Int) then (spec_ReadDuration.l0 k (x0.extract ((wrap64 (x8 + x10)) : Int).toNat x0.size) (wrap64 (x4 + (wrap64 (0 * x11)))) x9 2) else (none)) else (none)) else (if x11 = 0 then (none) else (if x7 > (wrap64 (Int.tdiv (wrap64 (9223372036854775807 - x4)) x11)) then (if 0 ≤ (wrap64 (x8 + x10)) then (if (wrap64 (x8 + x10)) ≤ (x0.size : Int) then (spec_ReadDuration.l0 k (x0.extract ((wrap64 (x8 + x10)) : Int).toNat x0.size) (wrap64 (x4 + (wrap64 (0 * x11)))) x9 2) else (none)) else (none)) else (if 0 ≤ (wrap64 (x8 + x10)) then (if (wrap64 (x8 + x10)) ≤ (x0.size : Int) then (spec_ReadDuration.l0 k (x0.extract ((wrap64 (x8 + x10)) : Int).toNat x0.size) (wrap64 (x4 + (wrap64 (x7 * x11)))) x9 x6) else (none)) else (none)))))
end
def spec_ReadDuration.f (k : Nat) (a0 : ByteArray) : Option (Int × Int) := if a0.toList = ([48] : List UInt8) then (some (0, 1)) else (if a0.toList = ([] : List UInt8) then (some (0, 0)) else (spec_ReadDuration.l0 k a0 0 (-1) 1))
theorem spec_ReadDuration.mono_l : ∀ k, (∀ y0 y1 y2 y3, LeO (spec_ReadDuration.l0 k y0 y1 y2 y3) (spec_ReadDuration.l0 (k + 1) y0 y1 y2 y3)) ∧ (∀ y0 y1 y2 y3 y4 y5, LeO (spec_ReadDuration.l1 k y0 y1 y2 y3 y4 y5) (spec_ReadDuration.l1 (k + 1) y0 y1 y2 y3 y4 y5)) ∧ (∀ y0 y1 y2 y3 y4 y5 y6, LeO (spec_ReadDuration.j2 k y0 y1 y2 y3 y4 y5 y6) (spec_ReadDuration.j2 (k + 1) y0 y1 y2 y3 y4 y5 y6)) ∧ (∀ y0 y1 y2 y3 y4 y5 y6 y7 y8, LeO (spec_ReadDuration.j3 k y0 y1 y2 y3 y4 y5 y6 y7 y8) (spec_ReadDuration.j3 (k + 1) y0 y1 y2 y3 y4 y5 y6 y7 y8))
  | 0 => ⟨fun _ _ _ _ r h => by simp [spec_ReadDuration.l0] at h, fun _ _ _ _ _ _ r h => by simp [spec_ReadDuration.l1] at h, fun _ _ _ _ _ _ _ r h => by simp [spec_ReadDuration.j2] at h, fun _ _ _ _ _ _ _ _ _ r h => by simp [spec_ReadDuration.j3] at h⟩
  | k + 1 => by
    obtain ⟨ih0, ih1, ih2, ih3⟩ := spec_ReadDuration.mono_l k
    refine ⟨?_, ?_, ?_, ?_⟩
    · intro y0 y1 y2 y3
      unfold spec_ReadDuration.l0
      repeat' first
      | (with_reducible exact ih0 _ _ _ _)
      | (with_reducible exact ih1 _ _ _ _ _ _)
      | (with_reducible exact ih2 _ _ _ _ _ _ _)
      | (with_reducible exact ih3 _ _ _ _ _ _ _ _ _)
      | (with_reducible exact LeO.refl _)
      | (with_reducible exact LeO.none _)
      | (with_reducible refine LeO.ite ?_ ?_)
      | (with_reducible refine LeO.bind ?_ (fun _ => ?_))
      | exact ih0 _ _ _ _
      | exact ih1 _ _ _ _ _ _
      | exact ih2 _ _ _ _ _ _ _
      | exact ih3 _ _ _ _ _ _ _ _ _
      | exact LeO.none _
      | refine LeO.ite ?_ ?_
      | refine LeO.bind ?_ (fun _ => ?_)
    · intro y0 y1 y2 y3 y4 y5
      unfold spec_ReadDuration.l1
      repeat' first
      | (with_reducible exact ih0 _ _ _ _)
      | (with_reducible exact ih1 _ _ _ _ _ _)
      | (with_reducible exact ih2 _ _ _ _ _ _ _)
      | (with_reducible exact ih3 _ _ _ _ _ _ _ _ _)
      | (with_reducible exact LeO.refl _)
      | (with_reducible exact LeO.none _)
      | (with_reducible refine LeO.ite ?_ ?_)
      | (with_reducible refine LeO.bind ?_ (fun _ => ?_))
      | exact ih0 _ _ _ _
      | exact ih1 _ _ _ _ _ _
      | exact ih2 _ _ _ _ _ _ _
      | exact ih3 _ _ _ _ _ _ _ _ _
      | exact LeO.none _
      | refine LeO.ite ?_ ?_
      | refine LeO.bind ?_ (fun _ => ?_)
    · intro y0 y1 y2 y3 y4 y5 y6
      unfold spec_ReadDuration.j2
      repeat' first
      | (with_reducible exact ih0 _ _ _ _)
      | (with_reducible exact ih1 _ _ _ _ _ _)
      | (with_reducible exact ih2 _ _ _ _ _ _ _)
      | (with_reducible exact ih3 _ _ _ _ _ _ _ _ _)
      | (with_reducible exact LeO.refl _)
      | (with_reducible exact LeO.none _)
      | (with_reducible refine LeO.ite ?_ ?_)
      | (with_reducible refine LeO.bind ?_ (fun _ => ?_))
      | exact ih0 _ _ _ _
      | exact ih1 _ _ _ _ _ _
      | exact ih2 _ _ _ _ _ _ _
      | exact ih3 _ _ _ _ _ _ _ _ _
      | exact LeO.none _
      | refine LeO.ite ?_ ?_
      | refine LeO.bind ?_ (fun _ => ?_)
    · intro y0 y1 y2 y3 y4 y5 y6 y7 y8
      unfold spec_ReadDuration.j3
      repeat' first
      | (with_reducible exact ih0 _ _ _ _)
      | (with_reducible exact ih1 _ _ _ _ _ _)
      | (with_reducible exact ih2 _ _ _ _ _ _ _)
      | (with_reducible exact ih3 _ _ _ _ _ _ _ _ _)
      | (with_reducible exact LeO.refl _)
      | (with_reducible exact LeO.none _)
      | (with_reducible refine LeO.ite ?_ ?_)
      | (with_reducible refine LeO.bind ?_ (fun _ => ?_))
      | exact ih0 _ _ _ _
      | exact ih1 _ _ _ _ _ _
      | exact ih2 _ _ _ _ _ _ _
      | exact ih3 _ _ _ _ _ _ _ _ _
      | exact LeO.none _
      | refine LeO.ite ?_ ?_
      | refine LeO.bind ?_ (fun _ => ?_)
theorem spec_ReadDuration.mono : ∀ a0 k, LeO (spec_ReadDuration.f k a0) (spec_ReadDuration.f (k + 1) a0) := by
  intro a0 k
  obtain ⟨ih0, ih1, ih2, ih3⟩ := spec_ReadDuration.mono_l k
  unfold spec_ReadDuration.f
  repeat' first
      | (with_reducible exact ih0 _ _ _ _)
      | (with_reducible exact ih1 _ _ _ _ _ _)
      | (with_reducible exact ih2 _ _ _ _ _ _ _)
      | (with_reducible exact ih3 _ _ _ _ _ _ _ _ _)
      | (with_reducible exact LeO.refl _)
      | (with_reducible exact LeO.none _)
      | (with_reducible refine LeO.ite ?_ ?_)
      | (with_reducible refine LeO.bind ?_ (fun _ => ?_))
      | exact ih0 _ _ _ _
      | exact ih1 _ _ _ _ _ _
      | exact ih2 _ _ _ _ _ _ _
      | exact ih3 _ _ _ _ _ _ _ _ _
      | exact LeO.none _
      | refine LeO.ite ?_ ?_
      | refine LeO.bind ?_ (fun _ => ?_)
set_option maxHeartbeats 8000000 in
set_option maxRecDepth 100000 in
theorem spec_ReadDuration.calls (k : Nat) (a0 : ByteArray) (r1 : Int) (r2 : Int) (w : World) (h : spec_ReadDuration.f k a0 = some (r1, r2)) :
    Calls Tryd.prog 15 #[.string a0] w fun e w' => e = .returned (.tuple #[.int .i64 r1, .int .i64 r2]) ∧ Drawn0 w w' := by
  have H : (if a0.toList = ([48] : List UInt8) then (some (0, 1)) else (if a0.toList = ([] : List UInt8) then (some (0, 0)) else (spec_ReadDuration.l0 k a0 0 (-1) 1))) = some (r1, r2) := h
  clear h
  by_cases c2 : a0.toList = ([48] : List UInt8)
  · rw [if_pos c2] at H
    have c2b0 : (a0.toList == ([48] : List UInt8)) = true := beq_iff_eq.mpr c2
    have c2b1 : (a0.toList != ([48] : List UInt8)) = false := bne_eq_false_iff_eq.mpr c2
    clear c2
    simp only [Option.some.injEq, Prod.mk.injEq] at H
    obtain ⟨rfl, rfl⟩ := H
    go_enter Tryd.func15, Tryd.ntmps15
    go_wp2
    go_ret2
    exact ⟨by first | rfl | (simp; done) | (simp [*]; done) | (simp [*, q_isEmpty]; done) | (simp [*]; exact q_gt _ _ (by assumption)), by repeat (first | exact Drawn0.refl _ | apply Drawn0.step)⟩
  · rw [if_neg c2] at H
    have c2b0 : (a0.toList == ([48] : List UInt8)) = false := beq_eq_false_iff_ne.mpr c2
    have c2b1 : (a0.toList != ([48] : List UInt8)) = true := bne_iff_ne.mpr c2
    by_cases c3 : a0.toList = ([] : List UInt8)
    · rw [if_pos c3] at H
      have c3b0 : (a0.toList == ([] : List UInt8)) = true := beq_iff_eq.mpr c3
      have c3b1 : (a0.toList != ([] : List UInt8)) = false := bne_eq_false_iff_eq.mpr c3
      clear c3
      simp only [Option.some.injEq, Prod.mk.injEq] at H
      obtain ⟨rfl, rfl⟩ := H
      go_enter Tryd.func15, Tryd.ntmps15
      go_wp2
      go_ret2
      exact ⟨by first | rfl | (simp; done) | (simp [*]; done) | (simp [*, q_isEmpty]; done) | (simp [*]; exact q_gt _ _ (by assumption)), by repeat (first | exact Drawn0.refl _ | apply Drawn0.step)⟩
    · rw [if_neg c3] at H
      have c3b0 : (a0.toList == ([] : List UInt8)) = false := beq_eq_false_iff_ne.mpr c3
      have c3b1 : (a0.toList != ([] : List UInt8)) = true := bne_iff_ne.mpr c3
      have H' := Aside0.mk H
      clear H
      go_enter Tryd.func15, Tryd.ntmps15
      go_wp2
      go_loopg [0, 4, 5, 6] k (fun kq v0 v4 v5 v6 w' => ∃ (x0_1 : ByteArray) (x4_1 : Int) (x5_1 : Int) (x6_1 : Int), v0 = .string x0_1 ∧ v4 = .int .i64 x4_1 ∧ v5 = .int .i64 x5_1 ∧ v6 = .int .i64 x6_1 ∧ Aside0 (spec_ReadDuration.l0 kq x0_1 x4_1 x5_1 x6_1 = some (r1, r2)) ∧ Aside0 (kq ≤ k) ∧ Drawn0 w w')
      case atStart => exact ⟨(a0), (0), ((-1)), (1), (by first | rfl | (simp; done) | (simp [q_w0]; done) | (simp [*]; done) | (simp [*, q_isEmpty]; done) | (simp [*]; exact q_gt _ _ (by assumption))), (by first | rfl | (simp; done) | (simp [q_w0]; done) | (simp [*]; done) | (simp [*, q_isEmpty]; done) | (simp [*]; exact q_gt _ _ (by assumption))), (by first | rfl | (simp; done) | (simp [q_w0]; done) | (simp [*]; done) | (simp [*, q_isEmpty]; done) | (simp [*]; exact q_gt _ _ (by assumption))), (by first | rfl | (simp; done) | (simp [q_w0]; done) | (simp [*]; done) | (simp [*, q_isEmpty]; done) | (simp [*]; exact q_gt _ _ (by assumption))), H', ⟨Nat.le_refl _⟩, by repeat (first | exact Drawn0.refl _ | apply Drawn0.step)⟩
      case round =>
        clear H'
        try clear c1
        try clear c2
        try clear c2b0
        try clear c2b1
        try clear p2
        try clear c3
        try clear c3b0
        try clear c3b1
        obtain ⟨x0_1, x4_1, x5_1, x6_1, rfl, rfl, rfl, rfl, HA, HK1, ⟨m1, rfl⟩⟩ := hrel
        cases gk with
        | zero => exact absurd HA.out (by simp [spec_ReadDuration.l0])
        | succ k1 =>
          have H := HA.out
          clear HA
          simp only [spec_ReadDuration.l0] at H
          by_cases c4 : (x0_1.size : Int) > 0
          · rw [if_pos c4] at H
            have c4b0 : decide (0 < (x0_1.size : Int)) = true := decide_eq_true c4
            have c4b1 : decide (0 < x0_1.size) = true := decide_eq_true (by omega)
            clear c4
            have H' := Aside0.mk H
            clear H
            go_wp2
            go_loopg [7, 8] k1 (fun kq v7 v8 w' => ∃ (x7_2 : Int) (x8_2 : Int), v7 = .int .i64 x7_2 ∧ v8 = .int .i64 x8_2 ∧ Aside0 (spec_ReadDuration.l1 kq x0_1 x4_1 x5_1 x6_1 x7_2 x8_2 = some (r1, r2)) ∧ Aside0 (kq ≤ k1) ∧ Drawn0 w w')
            case atStart => exact ⟨(0), (0), (by first | rfl | (simp; done) | (simp [q_w0]; done) | (simp [*]; done) | (simp [*, q_isEmpty]; done) | (simp [*]; exact q_gt _ _ (by assumption))), (by first | rfl | (simp; done) | (simp [q_w0]; done) | (simp [*]; done) | (simp [*, q_isEmpty]; done) | (simp [*]; exact q_gt _ _ (by assumption))), H', ⟨Nat.le_refl _⟩, by repeat (first | exact Drawn0.refl _ | apply Drawn0.step)⟩
            case round =>
              clear H'
              try clear c1
              try clear c2
              try clear c2b0
              try clear c2b1
              try clear p2
              try clear c3
              try clear c3b0
              try clear c3b1
              try clear c4
              try clear c4b0
              try clear c4b1
              try clear p2
              obtain ⟨x7_2, x8_2, rfl, rfl, HA, HK2, ⟨m2, rfl⟩⟩ := hrel
              cases gk with
              | zero => exact absurd HA.out (by simp [spec_ReadDuration.l1])
              | succ k2 =>
                have H := HA.out
                clear HA
                simp only [spec_ReadDuration.l1] at H
                have HC5 := Aside0.mk H
                clear H
                go_upto_region 9 with (fail)
                go_cut [34] (fun v34 wc => ∃ (kq : Nat) (x34_4 : Bool), v34 = .bool x34_4 ∧ Aside0 (spec_ReadDuration.j2 kq x0_1 x4_1 x5_1 x6_1 x7_2 x8_2 x34_4 = some (r1, r2)) ∧ Aside0 (kq ≤ k2) ∧ Drawn0 w wc)
                case first =>
                  have H := HC5.out
                  clear HC5
                  by_cases c6 : x8_2 < (x0_1.size : Int)
                  · rw [if_pos c6] at H
                    have c6b0 : decide (x8_2 < (x0_1.size : Int)) = true := decide_eq_true c6
                    clear c6
                    (first | rw [c6b0] | (simp only [i64_w, i32_w]; rw [c6b0]) | skip)
                    by_cases c7 : 0 ≤ x8_2
                    · rw [if_pos c7] at H
                      have c7b0 : decide (0 ≤ x8_2) = true := decide_eq_true c7
                      clear c7
                      by_cases c9 : (bt x0_1 x8_2) ≥ 48
                      · rw [if_pos c9] at H
                        have c9b0 : decide (48 ≤ (bt x0_1 x8_2)) = true := decide_eq_true c9
                        clear c9
                        have H' := Aside0.mk H
                        clear H
                        have p8 : 0 ≤ (x8_2 : Int) := of_decide_eq_true (by first | (with_reducible assumption) | assumption)
                        have q8 : x8_2 < (x0_1.size : Int) := of_decide_eq_true (by first | (with_reducible assumption) | assumption)
                        have hx8 := bt_at x0_1 x8_2
                        replace p8 := eq_true p8
                        replace q8 := eq_true q8
                        have p10 : 0 ≤ (x8_2 : Int) := of_decide_eq_true (by first | (with_reducible assumption) | assumption)
                        have q10 : x8_2 < (x0_1.size : Int) := of_decide_eq_true (by first | (with_reducible assumption) | assumption)
                        have hx10 := bt_at x0_1 x8_2
                        replace p10 := eq_true p10
                        replace q10 := eq_true q10
                        go_wp2
                        go_meet
                        case rel => exact ⟨_, (decide ((bt x0_1 x8_2) ≤ 57)), (by first | rfl | (simp; done) | (simp [q_w0]; done) | (simp [*]; done) | (simp [*, q_isEmpty]; done) | (simp [*]; exact q_gt _ _ (by assumption))), H', ⟨by have := HK1.out; have := HK2.out; first | omega | exact Nat.le_refl _⟩, by repeat (first | exact Drawn0.refl _ | apply Drawn0.step)⟩
                      · rw [if_neg c9] at H
                        have c9b0 : decide (48 ≤ (bt x0_1 x8_2)) = false := decide_eq_false c9
                        clear c9
                        have H' := Aside0.mk H
                        clear H
                        have p8 : 0 ≤ (x8_2 : Int) := of_decide_eq_true (by first | (with_reducible assumption) | assumption)
                        have q8 : x8_2 < (x0_1.size : Int) := of_decide_eq_true (by first | (with_reducible assumption) | assumption)
                        have hx8 := bt_at x0_1 x8_2
                        replace p8 := eq_true p8
                        replace q8 := eq_true q8
                        go_wp2
                        go_meet
                        case rel => exact ⟨_, (false), (by first | rfl | (simp; done) | (simp [q_w0]; done) | (simp [*]; done) | (simp [*, q_isEmpty]; done) | (simp [*]; exact q_gt _ _ (by assumption))), H', ⟨by have := HK1.out; have := HK2.out; first | omega | exact Nat.le_refl _⟩, by repeat (first | exact Drawn0.refl _ | apply Drawn0.step)⟩
                    · rw [if_neg c7] at H
                      exact absurd H (by simp)
                  · rw [if_neg c6] at H
                    have c6b0 : decide (x8_2 < (x0_1.size : Int)) = false := decide_eq_false c6
                    clear c6
                    (first | rw [c6b0] | (simp only [i64_w, i32_w]; rw [c6b0]) | skip)
                    have H' := Aside0.mk H
                    clear H
                    go_wp2
                    go_meet
                    case rel => exact ⟨_, (false), (by first | rfl | (simp; done) | (simp [q_w0]; done) | (simp [*]; done) | (simp [*, q_isEmpty]; done) | (simp [*]; exact q_gt _ _ (by assumption))), H', ⟨by have := HK1.out; have := HK2.out; first | omega | exact Nat.le_refl _⟩, by repeat (first | exact Drawn0.refl _ | apply Drawn0.step)⟩
                case rest =>
                  clear HC5
                  try clear c1
                  try clear p1
                  try clear q1
                  try clear hx1
                  try clear c2
                  try clear c2b0
                  try clear c2b1
                  try clear p2
                  try clear c3
                  try clear c3b0
                  try clear c3b1
                  try clear c4
                  try clear c4b0
                  try clear c4b1
                  try clear c6
                  try clear c6b0
                  try clear c7
                  try clear c7b0
                  try clear p8
                  try clear q8
                  try clear hx8
                  try clear c9
                  try clear c9b0
                  try clear p10
                  try clear q10
                  try clear hx10
                  try clear p10
                  try clear p2
                  try clear p8
                  try clear q10
                  try clear q8
                  obtain ⟨kq, x34_4, rfl, HA, HJ4, ⟨mc4, rfl⟩⟩ := hcut
                  cases kq with
                  | zero => exact absurd HA.out (by simp [spec_ReadDuration.j2])
                  | succ kj4 =>
                    have H := HA.out
                    clear HA
                    simp only [spec_ReadDuration.j2] at H
                    by_cases c11 : x34_4 = true
                    · subst c11
                      have H1 : (if x8_2 < 18 then (if 0 ≤ x8_2 then (if x8_2 < (x0_1.size : Int) then (spec_ReadDuration.l1 kj4 x0_1 x4_1 x5_1 x6_1 (wrap64 ((wrap64 (10 * x7_2)) + (((bt x0_1 x8_2) - 48) % 256))) (wrap64 (x8_2 + 1))) else (none)) else (none)) else (spec_ReadDuration.l1 kj4 x0_1 x4_1 x5_1 x6_1 x7_2 (wrap64 (x8_2 + 1)))) = some (r1, r2) := by rw [if_pos rfl] at H; exact H
                      clear H
                      have H := H1
                      clear H1
                      by_cases c12 : x8_2 < 18
                      · rw [if_pos c12] at H
                        have c12b0 : decide (x8_2 < 18) = true := decide_eq_true c12
                        clear c12
                        by_cases c13 : 0 ≤ x8_2
                        · rw [if_pos c13] at H
                          have c13b0 : decide (0 ≤ x8_2) = true := decide_eq_true c13
                          clear c13
                          by_cases c14 : x8_2 < (x0_1.size : Int)
                          · rw [if_pos c14] at H
                            have c14b0 : decide (x8_2 < (x0_1.size : Int)) = true := decide_eq_true c14
                            clear c14
                            have H' := Aside0.mk H
                            clear H
                            have p15 : 0 ≤ (x8_2 : Int) := of_decide_eq_true (by first | (with_reducible assumption) | assumption)
                            have q15 : x8_2 < (x0_1.size : Int) := of_decide_eq_true (by first | (with_reducible assumption) | assumption)
                            have hx15 := bt_at x0_1 x8_2
                            replace p15 := eq_true p15
                            replace q15 := eq_true q15
                            go_wp2
                            go_roundg kj4
                            case measure => have := HK1.out; have := HK2.out; have := HJ4.out; omega
                            case rel => exact ⟨(wrap64 ((wrap64 (10 * x7_2)) + (((bt x0_1 x8_2) - 48) % 256))), (wrap64 (x8_2 + 1)), (by first | rfl | (simp; done) | (simp [q_w0]; done) | (simp [*]; done) | (simp [*, q_isEmpty]; done) | (simp [*]; exact q_gt _ _ (by assumption))), (by first | rfl | (simp; done) | (simp [q_w0]; done) | (simp [*]; done) | (simp [*, q_isEmpty]; done) | (simp [*]; exact q_gt _ _ (by assumption))), H', ⟨by have := HK1.out; have := HK2.out; have := HJ4.out; omega⟩, by repeat (first | exact Drawn0.refl _ | apply Drawn0.step)⟩
                          · rw [if_neg c14] at H
                            exact absurd H (by simp)
                        · rw [if_neg c13] at H
                          exact absurd H (by simp)
                      · rw [if_neg c12] at H
                        have c12b0 : decide (x8_2 < 18) = false := decide_eq_false c12
                        clear c12
                        have H' := Aside0.mk H
                        clear H
                        go_wp2
                        go_roundg kj4
                        case measure => have := HK1.out; have := HK2.out; have := HJ4.out; omega
                        case rel => exact ⟨(x7_2), (wrap64 (x8_2 + 1)), (by first | rfl | (simp; done) | (simp [q_w0]; done) | (simp [*]; done) | (simp [*, q_isEmpty]; done) | (simp [*]; exact q_gt _ _ (by assumption))), (by first | rfl | (simp; done) | (simp [q_w0]; done) | (simp [*]; done) | (simp [*, q_isEmpty]; done) | (simp [*]; exact q_gt _ _ (by assumption))), H', ⟨by have := HK1.out; have := HK2.out; have := HJ4.out; omega⟩, by repeat (first | exact Drawn0.refl _ | apply Drawn0.step)⟩
                    · replace c11 := Bool.eq_false_iff.mpr c11
                      subst c11
                      have H1 : (if 0 ≤ x8_2 then (if x8_2 ≤ (x0_1.size : Int) then ((spec_unitOf.f (x0_1.extract (x8_2 : Int).toNat x0_1.size)).bind fun bt132 => (if x8_2 = 0 then (spec_ReadDuration.j3 kj4 x0_1 x4_1 x6_1 x7_2 x8_2 bt132.1 bt132.2.1 bt132.2.2 true) else (spec_ReadDuration.j3 kj4 x0_1 x4_1 x6_1 x7_2 x8_2 bt132.1 bt132.2.1 bt132.2.2 (decide (bt132.1 ≤ x5_1))))) else (none)) else (none)) = some (r1, r2) := by rw [if_neg (show ¬ (false = true) by decide)] at H; exact H
                      clear H
                      have H := H1
                      clear H1
                      by_cases c16 : 0 ≤ x8_2
                      · rw [if_pos c16] at H
                        have c16b0 := eq_true c16
                        have c16b1 : decide (0 ≤ x8_2) = true := decide_eq_true c16
                        clear c16
                        by_cases c17 : x8_2 ≤ (x0_1.size : Int)
                        · rw [if_pos c17] at H
                          have c17b0 := eq_true c17
                          have c17b1 : decide (x8_2 ≤ (x0_1.size : Int)) = true := decide_eq_true c17
                          clear c17
                          replace H := Option.bind_eq_some_iff.mp H
                          obtain ⟨⟨t132, t133, t134⟩, A180, H⟩ := H
                          replace H : (if x8_2 = 0 then (spec_ReadDuration.j3 kj4 x0_1 x4_1 x6_1 x7_2 x8_2 t132 t133 t134 true) else (spec_ReadDuration.j3 kj4 x0_1 x4_1 x6_1 x7_2 x8_2 t132 t133 t134 (decide (t132 ≤ x5_1)))) = some (r1, r2) := H
                          have A18 := Aside0.mk A180
                          clear A180
                          have HC19 := Aside0.mk H
                          clear H
                          go_upto_region 14 with (first | ((with_reducible refine gate_callee (f := 42) rfl ?_); refine goesL_ (some 51) rfl rfl Tryd.func42 (by kernel_rfl) rfl #[.string (x0_1.extract (x8_2 : Int).toNat x0_1.size)] rfl (by (try simp only [List.map_toArray, List.map_cons, List.map_nil]); first | done | rfl | (simp only [List.length_drop, List.length_take]; rfl)) ?_; (with_reducible refine (spec_unitOf.calls (x0_1.extract (x8_2 : Int).toNat x0_1.size) t132 t133 t134 _ A18.out).mono ?_); rintro e w' ⟨rfl, ⟨nd, rfl⟩⟩; refine ⟨_, rfl, ?_⟩))
                          (try simp only [Act.put, List.setIfInBounds_toArray, List.set_cons_zero, List.set_cons_succ])
                          go_cut [61] (fun v61 wc => ∃ (kq : Nat) (x61_18 : Bool), v61 = .bool x61_18 ∧ Aside0 (spec_ReadDuration.j3 kq x0_1 x4_1 x6_1 x7_2 x8_2 t132 t133 t134 x61_18 = some (r1, r2)) ∧ Aside0 (kq ≤ kj4) ∧ Drawn0 w wc)
                          case first =>
                            have H := HC19.out
                            clear HC19
                            by_cases c20 : x8_2 = 0
                            · rw [if_pos c20] at H
                              have c20b0 : (x8_2 == 0) = true := beq_iff_eq.mpr c20
                              have c20b1 : (x8_2 != 0) = false := bne_eq_false_iff_eq.mpr c20
                              clear c20
                              (first | rw [c20b0] | (simp only [i64_w, i32_w]; rw [c20b0]) | skip)
                              have H' := Aside0.mk H
                              clear H
                              go_wp2
                              go_meet
                              case rel => exact ⟨_, (true), (by first | rfl | (simp; done) | (simp [q_w0]; done) | (simp [*]; done) | (simp [*, q_isEmpty]; done) | (simp [*]; exact q_gt _ _ (by assumption))), H', ⟨by have := HK1.out; have := HK2.out; have := HJ4.out; first | omega | exact Nat.le_refl _⟩, by repeat (first | exact Drawn0.refl _ | apply Drawn0.step)⟩
                            · rw [if_neg c20] at H
                              have c20b0 : (x8_2 == 0) = false := beq_eq_false_iff_ne.mpr c20
                              have c20b1 : (x8_2 != 0) = true := bne_iff_ne.mpr c20
                              (first | rw [c20b0] | (simp only [i64_w, i32_w]; rw [c20b0]) | skip)
                              have H' := Aside0.mk H
                              clear H
                              go_wp2
                              go_meet
                              case rel => exact ⟨_, (decide (t132 ≤ x5_1)), (by first | rfl | (simp; done) | (simp [q_w0]; done) | (simp [*]; done) | (simp [*, q_isEmpty]; done) | (simp [*]; exact q_gt _ _ (by assumption))), H', ⟨by have := HK1.out; have := HK2.out; have := HJ4.out; first | omega | exact Nat.le_refl _⟩, by repeat (first | exact Drawn0.refl _ | apply Drawn0.step)⟩
                          case rest =>
                            clear HC19
                            try clear c1
                            try clear p1
                            try clear q1
                            try clear hx1
                            try clear c2
                            try clear c2b0
                            try clear c2b1
                            try clear p2
                            try clear c3
                            try clear c3b0
                            try clear c3b1
                            try clear c4
                            try clear c4b0
                            try clear c4b1
                            try clear c6
                            try clear c6b0
                            try clear p6
                            try clear c7
                            try clear c7b0
                            try clear p8
                            try clear q8
                            try clear hx8
                            try clear c9
                            try clear c9b0
                            try clear p10
                            try clear q10
                            try clear hx10
                            try clear c11
                            try clear c12
                            try clear c12b0
                            try clear c13
                            try clear c13b0
                            try clear c14
                            try clear c14b0
                            try clear c15
                            try clear p15
                            try clear q15
                            try clear hx15
                            try clear c16
                            try clear c16b0
                            try clear c16b1
                            try clear c17
                            try clear c17b0
                            try clear c17b1
                            try clear c20
                            try clear c20b0
                            try clear c20b1
                            try clear p1
                            try clear p10
                            try clear p15
                            try clear p2
                            try clear p8
                            try clear q1
                            try clear q10
                            try clear q15
                            try clear q8
                            obtain ⟨kq, x61_18, rfl, HA, HJ18, ⟨mc18, rfl⟩⟩ := hcut
                            cases kq with
                            | zero => exact absurd HA.out (by simp [spec_ReadDuration.j3])
                            | succ kj18 =>
                              have H := HA.out
                              clear HA
                              simp only [spec_ReadDuration.j3] at H
                              by_cases c21 : x61_18 = true
                              · subst c21
                                have H1 : (some (0, 0)) = some (r1, r2) := by rw [if_pos rfl] at H; exact H
                                clear H
                                have H := H1
                                clear H1
                                simp only [Option.some.injEq, Prod.mk.injEq] at H
                                obtain ⟨rfl, rfl⟩ := H
                                go_wp2
                                go_ret2
                                exact ⟨by first | rfl | (simp; done) | (simp [*]; done) | (simp [*, q_isEmpty]; done) | (simp [*]; exact q_gt _ _ (by assumption)), by repeat (first | exact Drawn0.refl _ | apply Drawn0.step)⟩
                              · replace c21 := Bool.eq_false_iff.mpr c21
                                subst c21
                                have H1 : (if x8_2 > 18 then (if 0 ≤ (wrap64 (x8_2 + t133)) then (if (wrap64 (x8_2 + t133)) ≤ (x0_1.size : Int) then (spec_ReadDuration.l0 kj18 (x0_1.extract ((wrap64 (x8_2 + t133)) : Int).toNat x0_1.size) (wrap64 (x4_1 + (wrap64 (0 * t134)))) t132 2) else (none)) else (none)) else (if t134 = 0 then (none) else (if x7_2 > (wrap64 (Int.tdiv (wrap64 (9223372036854775807 - x4_1)) t134)) then (if 0 ≤ (wrap64 (x8_2 + t133)) then (if (wrap64 (x8_2 + t133)) ≤ (x0_1.size : Int) then (spec_ReadDuration.l0 kj18 (x0_1.extract ((wrap64 (x8_2 + t133)) : Int).toNat x0_1.size) (wrap64 (x4_1 + (wrap64 (0 * t134)))) t132 2) else (none)) else (none)) else (if 0 ≤ (wrap64 (x8_2 + t133)) then (if (wrap64 (x8_2 + t133)) ≤ (x0_1.size : Int) then (spec_ReadDuration.l0 kj18 (x0_1.extract ((wrap64 (x8_2 + t133)) : Int).toNat x0_1.size) (wrap64 (x4_1 + (wrap64 (x7_2 * t134)))) t132 x6_1) else (none)) else (none))))) = some (r1, r2) := by rw [if_neg (show ¬ (false = true) by decide)] at H; exact H
                                clear H
                                have H := H1
                                clear H1
                                by_cases c22 : x8_2 > 18
                                · rw [if_pos c22] at H
                                  have c22b0 : decide (18 < x8_2) = true := decide_eq_true c22
                                  clear c22
                                  obtain ⟨ji23, hji23⟩ : ∃ j_ : Int, (wrap64 (x8_2 + t133)) = j_ := ⟨_, rfl⟩
                                  replace H : (if 0 ≤ (ji23) then (if (ji23) ≤ (x0_1.size : Int) then (spec_ReadDuration.l0 kj18 (x0_1.extract ((ji23) : Int).toNat x0_1.size) (wrap64 (x4_1 + (wrap64 (0 * t134)))) t132 2) else (none)) else (none)) = some (r1, r2) := by first | (rw [hji23] at H; exact H) | (simp only [hji23] at H ⊢; exact H)
                                  have hji23w : (IntKind.i64.wrap (x8_2 + t133)) = ji23 := (i64_w _).trans hji23
                                  by_cases c24 : 0 ≤ (ji23)
                                  · rw [if_pos c24] at H
                                    have c24b0 := eq_true c24
                                    have c24b1 : decide (0 ≤ (ji23)) = true := decide_eq_true c24
                                    clear c24
                                    by_cases c25 : (ji23) ≤ (x0_1.size : Int)
                                    · rw [if_pos c25] at H
                                      have c25b0 := eq_true c25
                                      have c25b1 : decide ((ji23) ≤ (x0_1.size : Int)) = true := decide_eq_true c25
                                      clear c25
                                      have H' := Aside0.mk H
                                      clear H
                                      go_wp2
                                      go_roundg kj18
                                      case measure => have := HK1.out; have := HK2.out; have := HJ4.out; have := HJ18.out; omega
                                      case rel => exact ⟨(x0_1.extract ((ji23) : Int).toNat x0_1.size), (wrap64 (x4_1 + (wrap64 (0 * t134)))), (t132), (2), (by first | rfl | (simp; done) | (simp only [← hji23] <;> (first | rfl | simp)) | (simp [*]; done) | (simp [*, q_isEmpty]; done) | (simp [*]; exact q_gt _ _ (by assumption))), (by first | rfl | (simp; done) | (simp [q_w0]; done) | (simp [*]; done) | (simp [*, q_isEmpty]; done) | (simp [*]; exact q_gt _ _ (by assumption))), (by first | rfl | (simp; done) | (simp [q_w0]; done) | (simp [*]; done) | (simp [*, q_isEmpty]; done) | (simp [*]; exact q_gt _ _ (by assumption))), (by first | rfl | (simp; done) | (simp [q_w0]; done) | (simp [*]; done) | (simp [*, q_isEmpty]; done) | (simp [*]; exact q_gt _ _ (by assumption))), H', ⟨by have := HK1.out; have := HK2.out; have := HJ4.out; have := HJ18.out; omega⟩, by repeat (first | exact Drawn0.refl _ | apply Drawn0.step)⟩
                                    · rw [if_neg c25] at H
                                      exact absurd H (by simp)
                                  · rw [if_neg c24] at H
                                    exact absurd H (by simp)
                                · rw [if_neg c22] at H
                                  have c22b0 : decide (18 < x8_2) = false := decide_eq_false c22
                                  clear c22
                                  by_cases c26 : t134 = 0
                                  · rw [if_pos c26] at H
                                    exact absurd H (by simp)
                                  · rw [if_neg c26] at H
                                    have c26b0 : (t134 == 0) = false := beq_eq_false_iff_ne.mpr c26
                                    have c26b1 : (t134 != 0) = true := bne_iff_ne.mpr c26
                                    by_cases c27 : x7_2 > (wrap64 (Int.tdiv (wrap64 (9223372036854775807 - x4_1)) t134))
                                    · rw [if_pos c27] at H
                                      have c27b0 : decide ((wrap64 (Int.tdiv (wrap64 (9223372036854775807 - x4_1)) t134)) < x7_2) = true := decide_eq_true c27
                                      clear c27
                                      obtain ⟨ji28, hji28⟩ : ∃ j_ : Int, (wrap64 (x8_2 + t133)) = j_ := ⟨_, rfl⟩
                                      replace H : (if 0 ≤ (ji28) then (if (ji28) ≤ (x0_1.size : Int) then (spec_ReadDuration.l0 kj18 (x0_1.extract ((ji28) : Int).toNat x0_1.size) (wrap64 (x4_1 + (wrap64 (0 * t134)))) t132 2) else (none)) else (none)) = some (r1, r2) := by first | (rw [hji28] at H; exact H) | (simp only [hji28] at H ⊢; exact H)
                                      have hji28w : (IntKind.i64.wrap (x8_2 + t133)) = ji28 := (i64_w _).trans hji28
                                      by_cases c29 : 0 ≤ (ji28)
                                      · rw [if_pos c29] at H
                                        have c29b0 := eq_true c29
                                        have c29b1 : decide (0 ≤ (ji28)) = true := decide_eq_true c29
                                        clear c29
                                        by_cases c30 : (ji28) ≤ (x0_1.size : Int)
                                        · rw [if_pos c30] at H
                                          have c30b0 := eq_true c30
                                          have c30b1 : decide ((ji28) ≤ (x0_1.size : Int)) = true := decide_eq_true c30
                                          clear c30
                                          have H' := Aside0.mk H
                                          clear H
                                          go_wp2
                                          go_roundg kj18
                                          case measure => have := HK1.out; have := HK2.out; have := HJ4.out; have := HJ18.out; omega
                                          case rel => exact ⟨(x0_1.extract ((ji28) : Int).toNat x0_1.size), (wrap64 (x4_1 + (wrap64 (0 * t134)))), (t132), (2), (by first | rfl | (simp; done) | (simp only [← hji28] <;> (first | rfl | simp)) | (simp [*]; done) | (simp [*, q_isEmpty]; done) | (simp [*]; exact q_gt _ _ (by assumption))), (by first | rfl | (simp; done) | (simp [q_w0]; done) | (simp [*]; done) | (simp [*, q_isEmpty]; done) | (simp [*]; exact q_gt _ _ (by assumption))), (by first | rfl | (simp; done) | (simp [q_w0]; done) | (simp [*]; done) | (simp [*, q_isEmpty]; done) | (simp [*]; exact q_gt _ _ (by assumption))), (by first | rfl | (simp; done) | (simp [q_w0]; done) | (simp [*]; done) | (simp [*, q_isEmpty]; done) | (simp [*]; exact q_gt _ _ (by assumption))), H', ⟨by have := HK1.out; have := HK2.out; have := HJ4.out; have := HJ18.out; omega⟩, by repeat (first | exact Drawn0.refl _ | apply Drawn0.step)⟩
                                        · rw [if_neg c30] at H
                                          exact absurd H (by simp)
                                      · rw [if_neg c29] at H
                                        exact absurd H (by simp)
                                    · rw [if_neg c27] at H
                                      have c27b0 : decide ((wrap64 (Int.tdiv (wrap64 (9223372036854775807 - x4_1)) t134)) < x7_2) = false := decide_eq_false c27
                                      clear c27
                                      obtain ⟨ji31, hji31⟩ : ∃ j_ : Int, (wrap64 (x8_2 + t133)) = j_ := ⟨_, rfl⟩
                                      replace H : (if 0 ≤ (ji31) then (if (ji31) ≤ (x0_1.size : Int) then (spec_ReadDuration.l0 kj18 (x0_1.extract ((ji31) : Int).toNat x0_1.size) (wrap64 (x4_1 + (wrap64 (x7_2 * t134)))) t132 x6_1) else (none)) else (none)) = some (r1, r2) := by first | (rw [hji31] at H; exact H) | (simp only [hji31] at H ⊢; exact H)
                                      have hji31w : (IntKind.i64.wrap (x8_2 + t133)) = ji31 := (i64_w _).trans hji31
                                      by_cases c32 : 0 ≤ (ji31)
                                      · rw [if_pos c32] at H
                                        have c32b0 := eq_true c32
                                        have c32b1 : decide (0 ≤ (ji31)) = true := decide_eq_true c32
                                        clear c32
                                        by_cases c33 : (ji31) ≤ (x0_1.size : Int)
                                        · rw [if_pos c33] at H
                                          have c33b0 := eq_true c33
                                          have c33b1 : decide ((ji31) ≤ (x0_1.size : Int)) = true := decide_eq_true c33
                                          clear c33
                                          have H' := Aside0.mk H
                                          clear H
                                          go_wp2
                                          go_roundg kj18
                                          case measure => have := HK1.out; have := HK2.out; have := HJ4.out; have := HJ18.out; omega
                                          case rel => exact ⟨(x0_1.extract ((ji31) : Int).toNat x0_1.size), (wrap64 (x4_1 + (wrap64 (x7_2 * t134)))), (t132), (x6_1), (by first | rfl | (simp; done) | (simp only [← hji31] <;> (first | rfl | simp)) | (simp [*]; done) | (simp [*, q_isEmpty]; done) | (simp [*]; exact q_gt _ _ (by assumption))), (by first | rfl | (simp; done) | (simp [q_w0]; done) | (simp [*]; done) | (simp [*, q_isEmpty]; done) | (simp [*]; exact q_gt _ _ (by assumption))), (by first | rfl | (simp; done) | (simp [q_w0]; done) | (simp [*]; done) | (simp [*, q_isEmpty]; done) | (simp [*]; exact q_gt _ _ (by assumption))), (by first | rfl | (simp; done) | (simp [q_w0]; done) | (simp [*]; done) | (simp [*, q_isEmpty]; done) | (simp [*]; exact q_gt _ _ (by assumption))), H', ⟨by have := HK1.out; have := HK2.out; have := HJ4.out; have := HJ18.out; omega⟩, by repeat (first | exact Drawn0.refl _ | apply Drawn0.step)⟩
                                        · rw [if_neg c33] at H
                                          exact absurd H (by simp)
                                      · rw [if_neg c32] at H
                                        exact absurd H (by simp)
                        · rw [if_neg c17] at H
                          exact absurd H (by simp)
                      · rw [if_neg c16] at H
                        exact absurd H (by simp)
          · rw [if_neg c4] at H
            have c4b0 : decide (0 < (x0_1.size : Int)) = false := decide_eq_false c4
            have c4b1 : decide (0 < x0_1.size) = false := decide_eq_false (by omega)
            clear c4
            by_cases c34 : x6_1 = 1
            · rw [if_pos c34] at H
              have c34b0 : (x6_1 == 1) = true := beq_iff_eq.mpr c34
              have c34b1 : (x6_1 != 1) = false := bne_eq_false_iff_eq.mpr c34
              clear c34
              simp only [Option.some.injEq, Prod.mk.injEq] at H
              obtain ⟨rfl, rfl⟩ := H
              go_wp2
              go_ret2
              exact ⟨by first | rfl | (simp; done) | (simp [*]; done) | (simp [*, q_isEmpty]; done) | (simp [*]; exact q_gt _ _ (by assumption)), by repeat (first | exact Drawn0.refl _ | apply Drawn0.step)⟩
            · rw [if_neg c34] at H
              have c34b0 : (x6_1 == 1) = false := beq_eq_false_iff_ne.mpr c34
              have c34b1 : (x6_1 != 1) = true := bne_iff_ne.mpr c34
              simp only [Option.some.injEq, Prod.mk.injEq] at H
              obtain ⟨rfl, rfl⟩ := H
              go_wp2
              go_ret2
              exact ⟨by first | rfl | (simp; done) | (simp [*]; done) | (simp [*, q_isEmpty]; done) | (simp [*]; exact q_gt _ _ (by assumption)), by repeat (first | exact Drawn0.refl _ | apply Drawn0.step)⟩

end Go.Proofs.YtmmcibeeojfplaaDoor.Q
