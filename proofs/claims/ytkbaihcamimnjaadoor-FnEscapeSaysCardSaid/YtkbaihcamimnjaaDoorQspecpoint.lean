-- Printed for this seat by wip/pp.py of this repo; nothing here is trusted: Lean checks it.
import Derived.Test.YtkbaihcamimnjaaDoorQ0
namespace Go.Proofs.YtkbaihcamimnjaaDoor.Q
open Go.RowKit Go.Proofs.YtkbaihcamimnjaaDoorW.PrintWords Go.Proofs.YtkbaihcamimnjaaDoorW.PrintLast Go.Proofs.YtkbaihcamimnjaaDoorW.PrintMore
attribute [local go_sem] max2_int min2_int max_two min_two max_three min_three max_four min_four   -- for this text's walks alone
set_option linter.unusedVariables false
set_option linter.unusedSimpArgs false

/-! ### spec_point: function 36 -/
def spec_point.f (a0 : ByteArray) (a1 : Int) : Option (Int) := if a1 = 2 then (if 0 < (a0.size : Int) then (if 1 < (a0.size : Int) then (some (Go.bits .or .i64 (wrap64 ((wrap64 (Go.bits .and .u8 (bt a0 0) 31)) * 64)) (wrap64 (Go.bits .and .u8 (bt a0 1) 63)))) else (none)) else (none)) else (if a1 = 3 then (if 0 < (a0.size : Int) then (if 1 < (a0.size : Int) then (if 2 < (a0.size : Int) then (some (Go.bits .or .i64 (Go.bits .or .i64 (wrap64 ((wrap64 (Go.bits .and .u8 (bt a0 0) 15)) * 4096)) (wrap64 ((wrap64 (Go.bits .and .u8 (bt a0 1) 63)) * 64))) (wrap64 (Go.bits .and .u8 (bt a0 2) 63)))) else (none)) else (none)) else (none)) else (if a1 = 4 then (if 0 < (a0.size : Int) then (if 1 < (a0.size : Int) then (if 2 < (a0.size : Int) then (if 3 < (a0.size : Int) then (some (Go.bits .or .i64 (Go.bits .or .i64 (Go.bits .or .i64 (wrap64 ((wrap64 (Go.bits .and .u8 (bt a0 0) 7)) * 262144)) (wrap64 ((wrap64 (Go.bits .and .u8 (bt a0 1) 63)) * 4096))) (wrap64 ((wrap64 (Go.bits .and .u8 (bt a0 2) 63)) * 64))) (wrap64 (Go.bits .and .u8 (bt a0 3) 63)))) else (none)) else (none)) else (none)) else (none)) else (if 0 < (a0.size : Int) then (some (wrap64 (bt a0 0))) else (none))))
set_option maxHeartbeats 8000000 in
set_option maxRecDepth 100000 in
theorem spec_point.calls (a0 : ByteArray) (a1 : Int) (r : Int) (w : World) (h : spec_point.f a0 a1 = some r) :
    Calls Tryd.prog 36 #[.string a0, .int .i64 a1] w fun e w' => e = .returned (.int .i64 r) ∧ Drawn0 w w' := by
  have H : (if a1 = 2 then (if 0 < (a0.size : Int) then (if 1 < (a0.size : Int) then (some (Go.bits .or .i64 (wrap64 ((wrap64 (Go.bits .and .u8 (bt a0 0) 31)) * 64)) (wrap64 (Go.bits .and .u8 (bt a0 1) 63)))) else (none)) else (none)) else (if a1 = 3 then (if 0 < (a0.size : Int) then (if 1 < (a0.size : Int) then (if 2 < (a0.size : Int) then (some (Go.bits .or .i64 (Go.bits .or .i64 (wrap64 ((wrap64 (Go.bits .and .u8 (bt a0 0) 15)) * 4096)) (wrap64 ((wrap64 (Go.bits .and .u8 (bt a0 1) 63)) * 64))) (wrap64 (Go.bits .and .u8 (bt a0 2) 63)))) else (none)) else (none)) else (none)) else (if a1 = 4 then (if 0 < (a0.size : Int) then (if 1 < (a0.size : Int) then (if 2 < (a0.size : Int) then (if 3 < (a0.size : Int) then (some (Go.bits .or .i64 (Go.bits .or .i64 (Go.bits .or .i64 (wrap64 ((wrap64 (Go.bits .and .u8 (bt a0 0) 7)) * 262144)) (wrap64 ((wrap64 (Go.bits .and .u8 (bt a0 1) 63)) * 4096))) (wrap64 ((wrap64 (Go.bits .and .u8 (bt a0 2) 63)) * 64))) (wrap64 (Go.bits .and .u8 (bt a0 3) 63)))) else (none)) else (none)) else (none)) else (none)) else (if 0 < (a0.size : Int) then (some (wrap64 (bt a0 0))) else (none))))) = some r := h
  clear h
  by_cases c3 : a1 = 2
  · rw [if_pos c3] at H
    have c3b0 : (a1 == 2) = true := beq_iff_eq.mpr c3
    have c3b1 : (a1 != 2) = false := bne_eq_false_iff_eq.mpr c3
    clear c3
    by_cases c4 : 0 < (a0.size : Int)
    · rw [if_pos c4] at H
      have c4b0 : decide (0 < (a0.size : Int)) = true := decide_eq_true c4
      have c4b1 : decide (0 < a0.size) = true := decide_eq_true (by omega)
      clear c4
      by_cases c6 : 1 < (a0.size : Int)
      · rw [if_pos c6] at H
        have c6b0 : decide (1 < (a0.size : Int)) = true := decide_eq_true c6
        have c6b1 : decide (1 < a0.size) = true := decide_eq_true (by omega)
        clear c6
        obtain rfl := Option.some.inj H
        have p5 : 0 ≤ (0 : Int) := (by omega)
        have q5 : 0 < a0.size := (by have : (0 : Int) < (a0.size : Int) := of_decide_eq_true (by first | (with_reducible assumption) | assumption); omega)
        have hx5 : ∀ h : 0 < a0.size, ((a0[0]'h).toNat : Int) = bt a0 0 := bt_at a0 0
        clear p5
        have qi5 : (0 < (a0.size : Int)) = True := eq_true (of_decide_eq_true (by first | (with_reducible assumption) | assumption))
        replace q5 := eq_true q5
        have p7 : 0 ≤ (1 : Int) := (by omega)
        have q7 : 1 < a0.size := (by have : (1 : Int) < (a0.size : Int) := of_decide_eq_true (by first | (with_reducible assumption) | assumption); omega)
        have hx7 : ∀ h : 1 < a0.size, ((a0[1]'h).toNat : Int) = bt a0 1 := bt_at a0 1
        clear p7
        have qi7 : (1 < (a0.size : Int)) = True := eq_true (of_decide_eq_true (by first | (with_reducible assumption) | assumption))
        replace q7 := eq_true q7
        go_enter Tryd.func36, Tryd.ntmps36
        go_wp2
        repeat (go_quiet (fail); try go_wp2)
        go_ret
        exact ⟨by first | rfl | (simp; done) | (simp [*]; done) | (simp [*, q_isEmpty]; done) | (simp [*]; exact q_gt _ _ (by assumption)), by repeat (first | exact Drawn0.refl _ | apply Drawn0.step)⟩
      · rw [if_neg c6] at H
        exact absurd H (by simp)
    · rw [if_neg c4] at H
      exact absurd H (by simp)
  · rw [if_neg c3] at H
    have c3b0 : (a1 == 2) = false := beq_eq_false_iff_ne.mpr c3
    have c3b1 : (a1 != 2) = true := bne_iff_ne.mpr c3
    by_cases c8 : a1 = 3
    · rw [if_pos c8] at H
      have c8b0 : (a1 == 3) = true := beq_iff_eq.mpr c8
      have c8b1 : (a1 != 3) = false := bne_eq_false_iff_eq.mpr c8
      clear c8
      by_cases c9 : 0 < (a0.size : Int)
      · rw [if_pos c9] at H
        have c9b0 : decide (0 < (a0.size : Int)) = true := decide_eq_true c9
        have c9b1 : decide (0 < a0.size) = true := decide_eq_true (by omega)
        clear c9
        by_cases c11 : 1 < (a0.size : Int)
        · rw [if_pos c11] at H
          have c11b0 : decide (1 < (a0.size : Int)) = true := decide_eq_true c11
          have c11b1 : decide (1 < a0.size) = true := decide_eq_true (by omega)
          clear c11
          by_cases c13 : 2 < (a0.size : Int)
          · rw [if_pos c13] at H
            have c13b0 : decide (2 < (a0.size : Int)) = true := decide_eq_true c13
            have c13b1 : decide (2 < a0.size) = true := decide_eq_true (by omega)
            clear c13
            obtain rfl := Option.some.inj H
            have p10 : 0 ≤ (0 : Int) := (by omega)
            have q10 : 0 < a0.size := (by have : (0 : Int) < (a0.size : Int) := of_decide_eq_true (by first | (with_reducible assumption) | assumption); omega)
            have hx10 : ∀ h : 0 < a0.size, ((a0[0]'h).toNat : Int) = bt a0 0 := bt_at a0 0
            clear p10
            have qi10 : (0 < (a0.size : Int)) = True := eq_true (of_decide_eq_true (by first | (with_reducible assumption) | assumption))
            replace q10 := eq_true q10
            have p12 : 0 ≤ (1 : Int) := (by omega)
            have q12 : 1 < a0.size := (by have : (1 : Int) < (a0.size : Int) := of_decide_eq_true (by first | (with_reducible assumption) | assumption); omega)
            have hx12 : ∀ h : 1 < a0.size, ((a0[1]'h).toNat : Int) = bt a0 1 := bt_at a0 1
            clear p12
            have qi12 : (1 < (a0.size : Int)) = True := eq_true (of_decide_eq_true (by first | (with_reducible assumption) | assumption))
            replace q12 := eq_true q12
            have p14 : 0 ≤ (2 : Int) := (by omega)
            have q14 : 2 < a0.size := (by have : (2 : Int) < (a0.size : Int) := of_decide_eq_true (by first | (with_reducible assumption) | assumption); omega)
            have hx14 : ∀ h : 2 < a0.size, ((a0[2]'h).toNat : Int) = bt a0 2 := bt_at a0 2
            clear p14
            have qi14 : (2 < (a0.size : Int)) = True := eq_true (of_decide_eq_true (by first | (with_reducible assumption) | assumption))
            replace q14 := eq_true q14
            go_enter Tryd.func36, Tryd.ntmps36
            go_wp2
            repeat (go_quiet (fail); try go_wp2)
            go_ret
            exact ⟨by first | rfl | (simp; done) | (simp [*]; done) | (simp [*, q_isEmpty]; done) | (simp [*]; exact q_gt _ _ (by assumption)), by repeat (first | exact Drawn0.refl _ | apply Drawn0.step)⟩
          · rw [if_neg c13] at H
            exact absurd H (by simp)
        · rw [if_neg c11] at H
          exact absurd H (by simp)
      · rw [if_neg c9] at H
        exact absurd H (by simp)
    · rw [if_neg c8] at H
      have c8b0 : (a1 == 3) = false := beq_eq_false_iff_ne.mpr c8
      have c8b1 : (a1 != 3) = true := bne_iff_ne.mpr c8
      by_cases c15 : a1 = 4
      · rw [if_pos c15] at H
        have c15b0 : (a1 == 4) = true := beq_iff_eq.mpr c15
        have c15b1 : (a1 != 4) = false := bne_eq_false_iff_eq.mpr c15
        clear c15
        by_cases c16 : 0 < (a0.size : Int)
        · rw [if_pos c16] at H
          have c16b0 : decide (0 < (a0.size : Int)) = true := decide_eq_true c16
          have c16b1 : decide (0 < a0.size) = true := decide_eq_true (by omega)
          clear c16
          by_cases c18 : 1 < (a0.size : Int)
          · rw [if_pos c18] at H
            have c18b0 : decide (1 < (a0.size : Int)) = true := decide_eq_true c18
            have c18b1 : decide (1 < a0.size) = true := decide_eq_true (by omega)
            clear c18
            by_cases c20 : 2 < (a0.size : Int)
            · rw [if_pos c20] at H
              have c20b0 : decide (2 < (a0.size : Int)) = true := decide_eq_true c20
              have c20b1 : decide (2 < a0.size) = true := decide_eq_true (by omega)
              clear c20
              by_cases c22 : 3 < (a0.size : Int)
              · rw [if_pos c22] at H
                have c22b0 : decide (3 < (a0.size : Int)) = true := decide_eq_true c22
                have c22b1 : decide (3 < a0.size) = true := decide_eq_true (by omega)
                clear c22
                obtain rfl := Option.some.inj H
                have p17 : 0 ≤ (0 : Int) := (by omega)
                have q17 : 0 < a0.size := (by have : (0 : Int) < (a0.size : Int) := of_decide_eq_true (by first | (with_reducible assumption) | assumption); omega)
                have hx17 : ∀ h : 0 < a0.size, ((a0[0]'h).toNat : Int) = bt a0 0 := bt_at a0 0
                clear p17
                have qi17 : (0 < (a0.size : Int)) = True := eq_true (of_decide_eq_true (by first | (with_reducible assumption) | assumption))
                replace q17 := eq_true q17
                have p19 : 0 ≤ (1 : Int) := (by omega)
                have q19 : 1 < a0.size := (by have : (1 : Int) < (a0.size : Int) := of_decide_eq_true (by first | (with_reducible assumption) | assumption); omega)
                have hx19 : ∀ h : 1 < a0.size, ((a0[1]'h).toNat : Int) = bt a0 1 := bt_at a0 1
                clear p19
                have qi19 : (1 < (a0.size : Int)) = True := eq_true (of_decide_eq_true (by first | (with_reducible assumption) | assumption))
                replace q19 := eq_true q19
                have p21 : 0 ≤ (2 : Int) := (by omega)
                have q21 : 2 < a0.size := (by have : (2 : Int) < (a0.size : Int) := of_decide_eq_true (by first | (with_reducible assumption) | assumption); omega)
                have hx21 : ∀ h : 2 < a0.size, ((a0[2]'h).toNat : Int) = bt a0 2 := bt_at a0 2
                clear p21
                have qi21 : (2 < (a0.size : Int)) = True := eq_true (of_decide_eq_true (by first | (with_reducible assumption) | assumption))
                replace q21 := eq_true q21
                have p23 : 0 ≤ (3 : Int) := (by omega)
                have q23 : 3 < a0.size := (by have : (3 : Int) < (a0.size : Int) := of_decide_eq_true (by first | (with_reducible assumption) | assumption); omega)
                have hx23 : ∀ h : 3 < a0.size, ((a0[3]'h).toNat : Int) = bt a0 3 := bt_at a0 3
                clear p23
                have qi23 : (3 < (a0.size : Int)) = True := eq_true (of_decide_eq_true (by first | (with_reducible assumption) | assumption))
                replace q23 := eq_true q23
                go_enter Tryd.func36, Tryd.ntmps36
                go_wp2
                repeat (go_quiet (fail); try go_wp2)
                go_ret
                exact ⟨by first | rfl | (simp; done) | (simp [*]; done) | (simp [*, q_isEmpty]; done) | (simp [*]; exact q_gt _ _ (by assumption)), by repeat (first | exact Drawn0.refl _ | apply Drawn0.step)⟩
              · rw [if_neg c22] at H
                exact absurd H (by simp)
            · rw [if_neg c20] at H
              exact absurd H (by simp)
          · rw [if_neg c18] at H
            exact absurd H (by simp)
        · rw [if_neg c16] at H
          exact absurd H (by simp)
      · rw [if_neg c15] at H
        have c15b0 : (a1 == 4) = false := beq_eq_false_iff_ne.mpr c15
        have c15b1 : (a1 != 4) = true := bne_iff_ne.mpr c15
        by_cases c24 : 0 < (a0.size : Int)
        · rw [if_pos c24] at H
          have c24b0 : decide (0 < (a0.size : Int)) = true := decide_eq_true c24
          have c24b1 : decide (0 < a0.size) = true := decide_eq_true (by omega)
          clear c24
          obtain rfl := Option.some.inj H
          have p25 : 0 ≤ (0 : Int) := (by omega)
          have q25 : 0 < a0.size := (by have : (0 : Int) < (a0.size : Int) := of_decide_eq_true (by first | (with_reducible assumption) | assumption); omega)
          have hx25 : ∀ h : 0 < a0.size, ((a0[0]'h).toNat : Int) = bt a0 0 := bt_at a0 0
          clear p25
          have qi25 : (0 < (a0.size : Int)) = True := eq_true (of_decide_eq_true (by first | (with_reducible assumption) | assumption))
          replace q25 := eq_true q25
          go_enter Tryd.func36, Tryd.ntmps36
          go_wp2
          repeat (go_quiet (fail); try go_wp2)
          go_ret
          exact ⟨by first | rfl | (simp; done) | (simp [*]; done) | (simp [*, q_isEmpty]; done) | (simp [*]; exact q_gt _ _ (by assumption)), by repeat (first | exact Drawn0.refl _ | apply Drawn0.step)⟩
        · rw [if_neg c24] at H
          exact absurd H (by simp)

end Go.Proofs.YtkbaihcamimnjaaDoor.Q
