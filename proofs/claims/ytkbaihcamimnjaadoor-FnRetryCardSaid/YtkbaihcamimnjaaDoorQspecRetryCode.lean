-- Printed for this seat by wip/pp.py of this repo; nothing here is trusted: Lean checks it.
import Derived.Test.YtkbaihcamimnjaaDoorQ0
namespace Go.Proofs.YtkbaihcamimnjaaDoor.Q
open Go.RowKit Go.Proofs.YtkbaihcamimnjaaDoorW.PrintWords Go.Proofs.YtkbaihcamimnjaaDoorW.PrintLast Go.Proofs.YtkbaihcamimnjaaDoorW.PrintMore
attribute [local go_sem] max2_int min2_int max_two min_two max_three min_three max_four min_four   -- for this text's walks alone
set_option linter.unusedVariables false
set_option linter.unusedSimpArgs false

/-! ### spec_RetryCode: function 11 -/
mutual
def spec_RetryCode.j0 : Nat → Int → List Int → Bool → Option (Bool × Bool)
  | 0, _, _, _ => none
  | k + 1, x0, x1, x13 => if x13 = true then (some (false, false)) else (if x0 ≥ 500 then (spec_RetryCode.j1 k x0 x1 (decide (x0 ≤ 599))) else (spec_RetryCode.j1 k x0 x1 false))
def spec_RetryCode.j1 : Nat → Int → List Int → Bool → Option (Bool × Bool)
  | 0, _, _, _ => none
  | k + 1, x0, x1, x6 => spec_RetryCode.l0 k x0 x1 x6 (x1.length : Int) 0
def spec_RetryCode.l0 : Nat → Int → List Int → Bool → Int → Int → Option (Bool × Bool)
  | 0, _, _, _, _, _ => none
  | k + 1, x0, x1, x6, x21, x22 => if x22 < x21 then (if x6 = true then (spec_RetryCode.l0 k x0 x1 true x21 (wrap64 (x22 + 1))) else (if 0 ≤ x22 then (if x22 < (x1.length : Int) then (spec_RetryCode.l0 k x0 x1 ((rd x1 x22) == x0) x21 (wrap64 (x22 + 1))) else (none)) else (none))) else (some (x6, true))
end
def spec_RetryCode.f (k : Nat) (a0 : Int) (l1 : List Int) : Option (Bool × Bool) := if a0 ≥ 200 then (spec_RetryCode.j0 k a0 l1 (decide (a0 ≤ 299))) else (spec_RetryCode.j0 k a0 l1 false)
theorem spec_RetryCode.mono_l : ∀ k, (∀ y0 y1 y2, LeO (spec_RetryCode.j0 k y0 y1 y2) (spec_RetryCode.j0 (k + 1) y0 y1 y2)) ∧ (∀ y0 y1 y2, LeO (spec_RetryCode.j1 k y0 y1 y2) (spec_RetryCode.j1 (k + 1) y0 y1 y2)) ∧ (∀ y0 y1 y2 y3 y4, LeO (spec_RetryCode.l0 k y0 y1 y2 y3 y4) (spec_RetryCode.l0 (k + 1) y0 y1 y2 y3 y4))
  | 0 => ⟨fun _ _ _ r h => by simp [spec_RetryCode.j0] at h, fun _ _ _ r h => by simp [spec_RetryCode.j1] at h, fun _ _ _ _ _ r h => by simp [spec_RetryCode.l0] at h⟩
  | k + 1 => by
    obtain ⟨ih0, ih1, ih2⟩ := spec_RetryCode.mono_l k
    refine ⟨?_, ?_, ?_⟩
    · intro y0 y1 y2
      unfold spec_RetryCode.j0
      repeat' first
      | (with_reducible exact ih0 _ _ _)
      | (with_reducible exact ih1 _ _ _)
      | (with_reducible exact ih2 _ _ _ _ _)
      | (with_reducible exact LeO.refl _)
      | (with_reducible exact LeO.none _)
      | (with_reducible refine LeO.ite ?_ ?_)
      | (with_reducible refine LeO.bind ?_ (fun _ => ?_))
      | exact ih0 _ _ _
      | exact ih1 _ _ _
      | exact ih2 _ _ _ _ _
      | exact LeO.none _
      | refine LeO.ite ?_ ?_
      | refine LeO.bind ?_ (fun _ => ?_)
    · intro y0 y1 y2
      unfold spec_RetryCode.j1
      repeat' first
      | (with_reducible exact ih0 _ _ _)
      | (with_reducible exact ih1 _ _ _)
      | (with_reducible exact ih2 _ _ _ _ _)
      | (with_reducible exact LeO.refl _)
      | (with_reducible exact LeO.none _)
      | (with_reducible refine LeO.ite ?_ ?_)
      | (with_reducible refine LeO.bind ?_ (fun _ => ?_))
      | exact ih0 _ _ _
      | exact ih1 _ _ _
      | exact ih2 _ _ _ _ _
      | exact LeO.none _
      | refine LeO.ite ?_ ?_
      | refine LeO.bind ?_ (fun _ => ?_)
    · intro y0 y1 y2 y3 y4
      unfold spec_RetryCode.l0
      repeat' first
      | (with_reducible exact ih0 _ _ _)
      | (with_reducible exact ih1 _ _ _)
      | (with_reducible exact ih2 _ _ _ _ _)
      | (with_reducible exact LeO.refl _)
      | (with_reducible exact LeO.none _)
      | (with_reducible refine LeO.ite ?_ ?_)
      | (with_reducible refine LeO.bind ?_ (fun _ => ?_))
      | exact ih0 _ _ _
      | exact ih1 _ _ _
      | exact ih2 _ _ _ _ _
      | exact LeO.none _
      | refine LeO.ite ?_ ?_
      | refine LeO.bind ?_ (fun _ => ?_)
theorem spec_RetryCode.mono : ∀ a0 a1 k, LeO (spec_RetryCode.f k a0 a1) (spec_RetryCode.f (k + 1) a0 a1) := by
  intro a0 a1 k
  obtain ⟨ih0, ih1, ih2⟩ := spec_RetryCode.mono_l k
  unfold spec_RetryCode.f
  repeat' first
      | (with_reducible exact ih0 _ _ _)
      | (with_reducible exact ih1 _ _ _)
      | (with_reducible exact ih2 _ _ _ _ _)
      | (with_reducible exact LeO.refl _)
      | (with_reducible exact LeO.none _)
      | (with_reducible refine LeO.ite ?_ ?_)
      | (with_reducible refine LeO.bind ?_ (fun _ => ?_))
      | exact ih0 _ _ _
      | exact ih1 _ _ _
      | exact ih2 _ _ _ _ _
      | exact LeO.none _
      | refine LeO.ite ?_ ?_
      | refine LeO.bind ?_ (fun _ => ?_)
set_option maxHeartbeats 8000000 in
set_option maxRecDepth 100000 in
theorem spec_RetryCode.calls (k : Nat) (a0 : Int) (A1 : Option Addr) (c1 : Nat) (l1 : List Int) (r1 : Bool) (r2 : Bool) (w : World) (hr1 : Kd.C (Kd.int .i64) w A1 l1.length l1) (hc1 : l1.length ≤ c1) (h : spec_RetryCode.f k a0 l1 = some (r1, r2)) :
    Calls Tryd.prog 11 #[.int .i64 a0, .slice A1 l1.length c1] w fun e w' => e = .returned (.tuple #[.bool r1, .bool r2]) ∧ Drawn0 w w' := by
  have HR1 := Aside0.mk hr1
  have HC1 := Aside0.mk hc1
  clear hr1 hc1
  have H : (if a0 ≥ 200 then (spec_RetryCode.j0 k a0 l1 (decide (a0 ≤ 299))) else (spec_RetryCode.j0 k a0 l1 false)) = some (r1, r2) := h
  clear h
  have HC3 := Aside0.mk H
  clear H
  go_enter Tryd.func11, Tryd.ntmps11
  go_upto_region 1 with (fail)
  go_cut [13] (fun v13 wc => ∃ (kq : Nat) (x13_2 : Bool), v13 = .bool x13_2 ∧ Aside0 (spec_RetryCode.j0 kq a0 l1 x13_2 = some (r1, r2)) ∧ Aside0 (kq ≤ k) ∧ Drawn0 w wc)
  case first =>
    have H := HC3.out
    clear HC3
    by_cases c4 : a0 ≥ 200
    · rw [if_pos c4] at H
      have c4b0 : decide (200 ≤ a0) = true := decide_eq_true c4
      clear c4
      (first | rw [c4b0] | (simp only [i64_w, i32_w]; rw [c4b0]) | skip)
      have H' := Aside0.mk H
      clear H
      go_wp2
      go_meet
      case rel => exact ⟨_, (decide (a0 ≤ 299)), (by first | rfl | (simp; done) | (simp [*]; done) | (simp [*, q_isEmpty]; done) | (simp [*]; exact q_gt _ _ (by assumption))), H', ⟨by first | omega | exact Nat.le_refl _⟩, by repeat (first | exact Drawn0.refl _ | apply Drawn0.step)⟩
    · rw [if_neg c4] at H
      have c4b0 : decide (200 ≤ a0) = false := decide_eq_false c4
      clear c4
      (first | rw [c4b0] | (simp only [i64_w, i32_w]; rw [c4b0]) | skip)
      have H' := Aside0.mk H
      clear H
      go_wp2
      go_meet
      case rel => exact ⟨_, (false), (by first | rfl | (simp; done) | (simp [*]; done) | (simp [*, q_isEmpty]; done) | (simp [*]; exact q_gt _ _ (by assumption))), H', ⟨by first | omega | exact Nat.le_refl _⟩, by repeat (first | exact Drawn0.refl _ | apply Drawn0.step)⟩
  case rest =>
    clear HC3
    try clear c1
    try clear p2
    try clear c4
    try clear c4b0
    obtain ⟨kq, x13_2, rfl, HA, HJ2, ⟨mc2, rfl⟩⟩ := hcut
    cases kq with
    | zero => exact absurd HA.out (by simp [spec_RetryCode.j0])
    | succ kj2 =>
      have H := HA.out
      clear HA
      simp only [spec_RetryCode.j0] at H
      by_cases c5 : x13_2 = true
      · subst c5
        have H1 : (some (false, false)) = some (r1, r2) := by rw [if_pos rfl] at H; exact H
        clear H
        have H := H1
        clear H1
        simp only [Option.some.injEq, Prod.mk.injEq] at H
        obtain ⟨rfl, rfl⟩ := H
        go_wp2
        go_ret2
        exact ⟨by first | rfl | (simp; done) | (simp [*]; done) | (simp [*, q_isEmpty]; done) | (simp [*]; exact q_gt _ _ (by assumption)), by repeat (first | exact Drawn0.refl _ | apply Drawn0.step)⟩
      · replace c5 := Bool.eq_false_iff.mpr c5
        subst c5
        have H1 : (if a0 ≥ 500 then (spec_RetryCode.j1 kj2 a0 l1 (decide (a0 ≤ 599))) else (spec_RetryCode.j1 kj2 a0 l1 false)) = some (r1, r2) := by rw [if_neg (show ¬ (false = true) by decide)] at H; exact H
        clear H
        have H := H1
        clear H1
        have HC6 := Aside0.mk H
        clear H
        go_upto_region 3 with (fail)
        go_cut [6] (fun v6 wc => ∃ (kq : Nat) (x6_5 : Bool), v6 = .bool x6_5 ∧ Aside0 (spec_RetryCode.j1 kq a0 l1 x6_5 = some (r1, r2)) ∧ Aside0 (kq ≤ kj2) ∧ Drawn0 w wc)
        case first =>
          have H := HC6.out
          clear HC6
          by_cases c7 : a0 ≥ 500
          · rw [if_pos c7] at H
            have c7b0 : decide (500 ≤ a0) = true := decide_eq_true c7
            clear c7
            (first | rw [c7b0] | (simp only [i64_w, i32_w]; rw [c7b0]) | skip)
            have H' := Aside0.mk H
            clear H
            go_wp2
            go_meet
            case rel => exact ⟨_, (decide (a0 ≤ 599)), (by first | rfl | (simp; done) | (simp [*]; done) | (simp [*, q_isEmpty]; done) | (simp [*]; exact q_gt _ _ (by assumption))), H', ⟨by have := HJ2.out; first | omega | exact Nat.le_refl _⟩, by repeat (first | exact Drawn0.refl _ | apply Drawn0.step)⟩
          · rw [if_neg c7] at H
            have c7b0 : decide (500 ≤ a0) = false := decide_eq_false c7
            clear c7
            (first | rw [c7b0] | (simp only [i64_w, i32_w]; rw [c7b0]) | skip)
            have H' := Aside0.mk H
            clear H
            go_wp2
            go_meet
            case rel => exact ⟨_, (false), (by first | rfl | (simp; done) | (simp [*]; done) | (simp [*, q_isEmpty]; done) | (simp [*]; exact q_gt _ _ (by assumption))), H', ⟨by have := HJ2.out; first | omega | exact Nat.le_refl _⟩, by repeat (first | exact Drawn0.refl _ | apply Drawn0.step)⟩
        case rest =>
          clear HC6
          try clear c1
          try clear c2
          try clear p2
          try clear c4
          try clear c4b0
          try clear c5
          try clear c7
          try clear c7b0
          try clear p2
          obtain ⟨kq, x6_5, rfl, HA, HJ5, ⟨mc5, rfl⟩⟩ := hcut
          cases kq with
          | zero => exact absurd HA.out (by simp [spec_RetryCode.j1])
          | succ kj5 =>
            have H := HA.out
            clear HA
            simp only [spec_RetryCode.j1] at H
            have H' := Aside0.mk H
            clear H
            go_wp2
            go_loopg [6, 22] kj5 (fun kq v6 v22 w' => ∃ (x6_3 : Bool) (x22_3 : Int), v6 = .bool x6_3 ∧ v22 = .int .i64 x22_3 ∧ Aside0 (spec_RetryCode.l0 kq a0 l1 x6_3 (l1.length : Int) x22_3 = some (r1, r2)) ∧ Aside0 (kq ≤ kj5) ∧ Drawn0 w w')
            case atStart => exact ⟨(x6_5), (0), (by first | rfl | (simp; done) | (simp [*]; done) | (simp [*, q_isEmpty]; done) | (simp [*]; exact q_gt _ _ (by assumption))), (by first | rfl | (simp; done) | (simp [*]; done) | (simp [*, q_isEmpty]; done) | (simp [*]; exact q_gt _ _ (by assumption))), H', ⟨Nat.le_refl _⟩, by repeat (first | exact Drawn0.refl _ | apply Drawn0.step)⟩
            case round =>
              clear H'
              try clear c1
              try clear c2
              try clear p2
              try clear c4
              try clear c4b0
              try clear c5
              try clear c7
              try clear c7b0
              try clear p2
              obtain ⟨x6_3, x22_3, rfl, rfl, HA, HK3, ⟨m3, rfl⟩⟩ := hrel
              cases gk with
              | zero => exact absurd HA.out (by simp [spec_RetryCode.l0])
              | succ k3 =>
                have H := HA.out
                clear HA
                simp only [spec_RetryCode.l0] at H
                by_cases c8 : x22_3 < (l1.length : Int)
                · rw [if_pos c8] at H
                  have c8b0 : decide (x22_3 < (l1.length : Int)) = true := decide_eq_true c8
                  clear c8
                  by_cases c9 : x6_3 = true
                  · subst c9
                    have H1 : (spec_RetryCode.l0 k3 a0 l1 true (l1.length : Int) (wrap64 (x22_3 + 1))) = some (r1, r2) := by rw [if_pos rfl] at H; exact H
                    clear H
                    have H := H1
                    clear H1
                    have H' := Aside0.mk H
                    clear H
                    go_wp2
                    go_roundg k3
                    case measure => have := HJ2.out; have := HJ5.out; have := HK3.out; omega
                    case rel => exact ⟨(true), (wrap64 (x22_3 + 1)), (by first | rfl | (simp; done) | (simp [*]; done) | (simp [*, q_isEmpty]; done) | (simp [*]; exact q_gt _ _ (by assumption))), (by first | rfl | (simp; done) | (simp [*]; done) | (simp [*, q_isEmpty]; done) | (simp [*]; exact q_gt _ _ (by assumption))), H', ⟨by have := HJ2.out; have := HJ5.out; have := HK3.out; omega⟩, by repeat (first | exact Drawn0.refl _ | apply Drawn0.step)⟩
                  · replace c9 := Bool.eq_false_iff.mpr c9
                    subst c9
                    have H1 : (if 0 ≤ x22_3 then (if x22_3 < (l1.length : Int) then (spec_RetryCode.l0 k3 a0 l1 ((rd l1 x22_3) == a0) (l1.length : Int) (wrap64 (x22_3 + 1))) else (none)) else (none)) = some (r1, r2) := by rw [if_neg (show ¬ (false = true) by decide)] at H; exact H
                    clear H
                    have H := H1
                    clear H1
                    by_cases c10 : 0 ≤ x22_3
                    · rw [if_pos c10] at H
                      have c10b0 : decide (0 ≤ x22_3) = true := decide_eq_true c10
                      clear c10
                      by_cases c11 : x22_3 < (l1.length : Int)
                      · rw [if_pos c11] at H
                        have c11b0 : decide (x22_3 < (l1.length : Int)) = true := decide_eq_true c11
                        clear c11
                        have H' := Aside0.mk H
                        clear H
                        have p104 : 0 ≤ (x22_3 : Int) := of_decide_eq_true (by first | (with_reducible assumption) | assumption)
                        have q104 : x22_3 < (l1.length : Int) := of_decide_eq_true (by first | (with_reducible assumption) | assumption)
                        obtain ⟨ad104, e104, hx104_0⟩ := Kd.at_int HR1.out x22_3 p104 q104
                        cases e104
                        replace p104 := eq_true p104
                        replace q104 := eq_true q104
                        go_wp2
                        go_roundg k3
                        case measure => have := HJ2.out; have := HJ5.out; have := HK3.out; omega
                        case rel => exact ⟨(((rd l1 x22_3) == a0)), (wrap64 (x22_3 + 1)), (by first | rfl | (simp; done) | (simp [*]; done) | (simp [*, q_isEmpty]; done) | (simp [*]; exact q_gt _ _ (by assumption))), (by first | rfl | (simp; done) | (simp [*]; done) | (simp [*, q_isEmpty]; done) | (simp [*]; exact q_gt _ _ (by assumption))), H', ⟨by have := HJ2.out; have := HJ5.out; have := HK3.out; omega⟩, by repeat (first | exact Drawn0.refl _ | apply Drawn0.step)⟩
                      · rw [if_neg c11] at H
                        exact absurd H (by simp)
                    · rw [if_neg c10] at H
                      exact absurd H (by simp)
                · rw [if_neg c8] at H
                  have c8b0 : decide (x22_3 < (l1.length : Int)) = false := decide_eq_false c8
                  clear c8
                  simp only [Option.some.injEq, Prod.mk.injEq] at H
                  obtain ⟨rfl, rfl⟩ := H
                  go_wp2
                  go_ret2
                  exact ⟨by first | rfl | (simp; done) | (simp [*]; done) | (simp [*, q_isEmpty]; done) | (simp [*]; exact q_gt _ _ (by assumption)), by repeat (first | exact Drawn0.refl _ | apply Drawn0.step)⟩

end Go.Proofs.YtkbaihcamimnjaaDoor.Q
