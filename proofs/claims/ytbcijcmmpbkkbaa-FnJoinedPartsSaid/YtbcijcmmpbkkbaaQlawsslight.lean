-- Printed for this seat by wip/pp.py of this repo; nothing here is trusted: Lean checks it.
import Derived.Test.YtbcijcmmpbkkbaaQ0
namespace Go.Proofs.Ytbcijcmmpbkkbaa.Q
open Go.RowKit Go.Proofs.YtbcijcmmpbkkbaaW.PrintWords Go.Proofs.YtbcijcmmpbkkbaaW.PrintLast Go.Proofs.YtbcijcmmpbkkbaaW.PrintMore
attribute [local go_sem] max2_int min2_int max_two min_two max_three min_three max_four min_four   -- for this text's walks alone
set_option linter.unusedVariables false
set_option linter.unusedSimpArgs false

/-! ### laws_slight: function 42 -/
mutual
def laws_slight.j0 : Nat → List ByteArray → ByteArray → Bool → Option (Bool)
  | 0, _, _, _ => none
  | k + 1, x0, x1, x23 => if x23 = true then (some false) else (laws_slight.l0 k (wrap64 ((x0.length : Int) * (x1.size : Int))) x0 (x0.length : Int) 0)
def laws_slight.l0 : Nat → Int → List ByteArray → Int → Int → Option (Bool)
  | 0, _, _, _, _ => none
  | k + 1, x5, x29, x30, x31 => if x31 < x30 then (if 0 ≤ x31 then (if x31 < (x29.length : Int) then (if ((rdOf ByteArray.empty x29 x31).size : Int) > (wrap64 (262144 - x5)) then (some false) else (laws_slight.l0 k (wrap64 (x5 + ((rdOf ByteArray.empty x29 x31).size : Int))) x29 x30 (wrap64 (x31 + 1)))) else (none)) else (none)) else (some true)
end
def laws_slight.f (k : Nat) (l0 : List ByteArray) (a1 : ByteArray) : Option (Bool) := if (l0.length : Int) > 10000 then (laws_slight.j0 k l0 a1 true) else (if (a1.size : Int) > 262144 then (laws_slight.j0 k l0 a1 true) else (laws_slight.j0 k l0 a1 (decide ((wrap64 ((l0.length : Int) * (a1.size : Int))) > 262144))))
theorem laws_slight.mono_l : ∀ k, (∀ y0 y1 y2, LeO (laws_slight.j0 k y0 y1 y2) (laws_slight.j0 (k + 1) y0 y1 y2)) ∧ (∀ y0 y1 y2 y3, LeO (laws_slight.l0 k y0 y1 y2 y3) (laws_slight.l0 (k + 1) y0 y1 y2 y3))
  | 0 => ⟨fun _ _ _ r h => by simp [laws_slight.j0] at h, fun _ _ _ _ r h => by simp [laws_slight.l0] at h⟩
  | k + 1 => by
    obtain ⟨ih0, ih1⟩ := laws_slight.mono_l k
    refine ⟨?_, ?_⟩
    · intro y0 y1 y2
      unfold laws_slight.j0
      repeat' first
      | (with_reducible exact ih0 _ _ _)
      | (with_reducible exact ih1 _ _ _ _)
      | (with_reducible exact LeO.refl _)
      | (with_reducible exact LeO.none _)
      | (with_reducible refine LeO.ite ?_ ?_)
      | (with_reducible refine LeO.bind ?_ (fun _ => ?_))
      | exact ih0 _ _ _
      | exact ih1 _ _ _ _
      | exact LeO.none _
      | refine LeO.ite ?_ ?_
      | refine LeO.bind ?_ (fun _ => ?_)
    · intro y0 y1 y2 y3
      unfold laws_slight.l0
      repeat' first
      | (with_reducible exact ih0 _ _ _)
      | (with_reducible exact ih1 _ _ _ _)
      | (with_reducible exact LeO.refl _)
      | (with_reducible exact LeO.none _)
      | (with_reducible refine LeO.ite ?_ ?_)
      | (with_reducible refine LeO.bind ?_ (fun _ => ?_))
      | exact ih0 _ _ _
      | exact ih1 _ _ _ _
      | exact LeO.none _
      | refine LeO.ite ?_ ?_
      | refine LeO.bind ?_ (fun _ => ?_)
theorem laws_slight.mono : ∀ a0 a1 k, LeO (laws_slight.f k a0 a1) (laws_slight.f (k + 1) a0 a1) := by
  intro a0 a1 k
  obtain ⟨ih0, ih1⟩ := laws_slight.mono_l k
  unfold laws_slight.f
  repeat' first
      | (with_reducible exact ih0 _ _ _)
      | (with_reducible exact ih1 _ _ _ _)
      | (with_reducible exact LeO.refl _)
      | (with_reducible exact LeO.none _)
      | (with_reducible refine LeO.ite ?_ ?_)
      | (with_reducible refine LeO.bind ?_ (fun _ => ?_))
      | exact ih0 _ _ _
      | exact ih1 _ _ _ _
      | exact LeO.none _
      | refine LeO.ite ?_ ?_
      | refine LeO.bind ?_ (fun _ => ?_)
set_option maxHeartbeats 8000000 in
set_option maxRecDepth 100000 in
theorem laws_slight.calls (k : Nat) (A0 : Option Addr) (c0 : Nat) (l0 : List ByteArray) (a1 : ByteArray) (r : Bool) (w : World) (hr0 : Kd.C Kd.string w A0 l0.length l0) (hc0 : l0.length ≤ c0) (h : laws_slight.f k l0 a1 = some r) :
    Calls Try.prog 42 #[.slice A0 l0.length c0, .string a1] w fun e w' => e = .returned (.bool r) ∧ Drawn0 w w' := by
  have HR0 := Aside0.mk hr0
  have HC0 := Aside0.mk hc0
  clear hr0 hc0
  have H : (if (l0.length : Int) > 10000 then (laws_slight.j0 k l0 a1 true) else (if (a1.size : Int) > 262144 then (laws_slight.j0 k l0 a1 true) else (laws_slight.j0 k l0 a1 (decide ((wrap64 ((l0.length : Int) * (a1.size : Int))) > 262144))))) = some r := h
  clear h
  have HC3 := Aside0.mk H
  clear H
  go_enter Try.func42, Try.ntmps42
  go_upto_region 1 with (fail)
  go_cut [23] (fun v23 wc => ∃ (kq : Nat) (x23_2 : Bool), v23 = .bool x23_2 ∧ Aside0 (laws_slight.j0 kq l0 a1 x23_2 = some r) ∧ Aside0 (kq ≤ k) ∧ Drawn0 w wc)
  case first =>
    have H := HC3.out
    clear HC3
    by_cases c4 : (l0.length : Int) > 10000
    · rw [if_pos c4] at H
      have c4b0 : decide (10000 < (l0.length : Int)) = true := decide_eq_true c4
      have c4b1 : decide (10000 < l0.length) = true := decide_eq_true (by omega)
      clear c4
      (first | rw [c4b0] | (simp only [i64_w, i32_w]; rw [c4b0]) | skip)
      have H' := Aside0.mk H
      clear H
      go_wp2
      go_meet
      case rel => exact ⟨_, (true), (by first | rfl | (simp; done) | (simp [*]; done) | (simp [*, q_isEmpty]; done)), H', ⟨by first | omega | exact Nat.le_refl _⟩, by repeat (first | exact Drawn0.refl _ | apply Drawn0.step)⟩
    · rw [if_neg c4] at H
      have c4b0 : decide (10000 < (l0.length : Int)) = false := decide_eq_false c4
      have c4b1 : decide (10000 < l0.length) = false := decide_eq_false (by omega)
      clear c4
      (first | rw [c4b0] | (simp only [i64_w, i32_w]; rw [c4b0]) | skip)
      by_cases c5 : (a1.size : Int) > 262144
      · rw [if_pos c5] at H
        have c5b0 : decide (262144 < (a1.size : Int)) = true := decide_eq_true c5
        have c5b1 : decide (262144 < a1.size) = true := decide_eq_true (by omega)
        clear c5
        have H' := Aside0.mk H
        clear H
        go_wp2
        go_meet
        case rel => exact ⟨_, (true), (by first | rfl | (simp; done) | (simp [*]; done) | (simp [*, q_isEmpty]; done)), H', ⟨by first | omega | exact Nat.le_refl _⟩, by repeat (first | exact Drawn0.refl _ | apply Drawn0.step)⟩
      · rw [if_neg c5] at H
        have c5b0 : decide (262144 < (a1.size : Int)) = false := decide_eq_false c5
        have c5b1 : decide (262144 < a1.size) = false := decide_eq_false (by omega)
        clear c5
        have H' := Aside0.mk H
        clear H
        go_wp2
        go_meet
        case rel => exact ⟨_, (decide ((wrap64 ((l0.length : Int) * (a1.size : Int))) > 262144)), (by first | rfl | (simp; done) | (simp [*]; done) | (simp [*, q_isEmpty]; done)), H', ⟨by first | omega | exact Nat.le_refl _⟩, by repeat (first | exact Drawn0.refl _ | apply Drawn0.step)⟩
  case rest =>
    clear HC3
    try clear p2
    try clear c4
    try clear c4b0
    try clear c4b1
    try clear c5
    try clear c5b0
    try clear c5b1
    obtain ⟨kq, x23_2, rfl, HA, HJ2, ⟨mc2, rfl⟩⟩ := hcut
    cases kq with
    | zero => exact absurd HA.out (by simp [laws_slight.j0])
    | succ kj2 =>
      have H := HA.out
      clear HA
      simp only [laws_slight.j0] at H
      by_cases c6 : x23_2 = true
      · subst c6
        have H1 : (some false) = some r := by rw [if_pos rfl] at H; exact H
        clear H
        have H := H1
        clear H1
        obtain rfl := Option.some.inj H
        go_wp2
        go_ret
        exact ⟨by first | rfl | (simp; done) | (simp [*]; done) | (simp [*, q_isEmpty]; done), by repeat (first | exact Drawn0.refl _ | apply Drawn0.step)⟩
      · replace c6 := Bool.eq_false_iff.mpr c6
        subst c6
        have H1 : (laws_slight.l0 kj2 (wrap64 ((l0.length : Int) * (a1.size : Int))) l0 (l0.length : Int) 0) = some r := by rw [if_neg (show ¬ (false = true) by decide)] at H; exact H
        clear H
        have H := H1
        clear H1
        have H' := Aside0.mk H
        clear H
        go_wp2
        go_loopg [5, 31] kj2 (fun kq v5 v31 w' => ∃ (x5_2 : Int) (x31_2 : Int), v5 = .int .i64 x5_2 ∧ v31 = .int .i64 x31_2 ∧ Aside0 (laws_slight.l0 kq x5_2 l0 (l0.length : Int) x31_2 = some r) ∧ Aside0 (kq ≤ kj2) ∧ Drawn0 w w')
        case atStart => exact ⟨(wrap64 ((l0.length : Int) * (a1.size : Int))), (0), (by first | rfl | (simp; done) | (simp [*]; done) | (simp [*, q_isEmpty]; done)), (by first | rfl | (simp; done) | (simp [*]; done) | (simp [*, q_isEmpty]; done)), H', ⟨Nat.le_refl _⟩, by repeat (first | exact Drawn0.refl _ | apply Drawn0.step)⟩
        case round =>
          clear H'
          try clear c2
          try clear p2
          try clear c4
          try clear c4b0
          try clear c4b1
          try clear c5
          try clear c5b0
          try clear c5b1
          try clear c6
          try clear p6
          try clear p2
          obtain ⟨x5_2, x31_2, rfl, rfl, HA, HK2, ⟨m2, rfl⟩⟩ := hrel
          cases gk with
          | zero => exact absurd HA.out (by simp [laws_slight.l0])
          | succ k2 =>
            have H := HA.out
            clear HA
            simp only [laws_slight.l0] at H
            by_cases c7 : x31_2 < (l0.length : Int)
            · rw [if_pos c7] at H
              have c7b0 : decide (x31_2 < (l0.length : Int)) = true := decide_eq_true c7
              clear c7
              by_cases c8 : 0 ≤ x31_2
              · rw [if_pos c8] at H
                have c8b0 : decide (0 ≤ x31_2) = true := decide_eq_true c8
                clear c8
                by_cases c9 : x31_2 < (l0.length : Int)
                · rw [if_pos c9] at H
                  have c9b0 : decide (x31_2 < (l0.length : Int)) = true := decide_eq_true c9
                  clear c9
                  by_cases c10 : ((rdOf ByteArray.empty l0 x31_2).size : Int) > (wrap64 (262144 - x5_2))
                  · rw [if_pos c10] at H
                    have c10b0 : decide ((wrap64 (262144 - x5_2)) < ((rdOf ByteArray.empty l0 x31_2).size : Int)) = true := decide_eq_true c10
                    clear c10
                    obtain rfl := Option.some.inj H
                    have p261 : 0 ≤ (x31_2 : Int) := of_decide_eq_true (by first | (with_reducible assumption) | assumption)
                    have q261 : x31_2 < (l0.length : Int) := of_decide_eq_true (by first | (with_reducible assumption) | assumption)
                    obtain ⟨ad261, e261, hx261_0⟩ := Kd.at_string HR0.out x31_2 p261 q261
                    cases e261
                    replace p261 := eq_true p261
                    replace q261 := eq_true q261
                    go_wp2
                    go_ret
                    exact ⟨by first | rfl | (simp; done) | (simp [*]; done) | (simp [*, q_isEmpty]; done), by repeat (first | exact Drawn0.refl _ | apply Drawn0.step)⟩
                  · rw [if_neg c10] at H
                    have c10b0 : decide ((wrap64 (262144 - x5_2)) < ((rdOf ByteArray.empty l0 x31_2).size : Int)) = false := decide_eq_false c10
                    clear c10
                    have H' := Aside0.mk H
                    clear H
                    have p261 : 0 ≤ (x31_2 : Int) := of_decide_eq_true (by first | (with_reducible assumption) | assumption)
                    have q261 : x31_2 < (l0.length : Int) := of_decide_eq_true (by first | (with_reducible assumption) | assumption)
                    obtain ⟨ad261, e261, hx261_0⟩ := Kd.at_string HR0.out x31_2 p261 q261
                    cases e261
                    replace p261 := eq_true p261
                    replace q261 := eq_true q261
                    go_wp2
                    go_roundg k2
                    case measure => have := HJ2.out; have := HK2.out; omega
                    case rel => exact ⟨(wrap64 (x5_2 + ((rdOf ByteArray.empty l0 x31_2).size : Int))), (wrap64 (x31_2 + 1)), (by first | rfl | (simp; done) | (simp [*]; done) | (simp [*, q_isEmpty]; done)), (by first | rfl | (simp; done) | (simp [*]; done) | (simp [*, q_isEmpty]; done)), H', ⟨by have := HJ2.out; have := HK2.out; omega⟩, by repeat (first | exact Drawn0.refl _ | apply Drawn0.step)⟩
                · rw [if_neg c9] at H
                  exact absurd H (by simp)
              · rw [if_neg c8] at H
                exact absurd H (by simp)
            · rw [if_neg c7] at H
              have c7b0 : decide (x31_2 < (l0.length : Int)) = false := decide_eq_false c7
              clear c7
              obtain rfl := Option.some.inj H
              go_wp2
              go_ret
              exact ⟨by first | rfl | (simp; done) | (simp [*]; done) | (simp [*, q_isEmpty]; done), by repeat (first | exact Drawn0.refl _ | apply Drawn0.step)⟩

end Go.Proofs.Ytbcijcmmpbkkbaa.Q
