-- Printed for this seat by wip/pp.py of this repo; nothing here is trusted: Lean checks it.
import Derived.Test.YtmmcibeeojfplaaDoorQ0
namespace Go.Proofs.YtmmcibeeojfplaaDoor.Q
open Go.RowKit Go.Proofs.YtmmcibeeojfplaaDoorW.PrintWords Go.Proofs.YtmmcibeeojfplaaDoorW.PrintLast Go.Proofs.YtmmcibeeojfplaaDoorW.PrintMore
attribute [local go_sem] max2_int min2_int max_two min_two max_three min_three max_four min_four   -- for this text's walks alone
set_option linter.unusedVariables false
set_option linter.unusedSimpArgs false

/-! ### spec_unitOf: function 42 -/
def spec_unitOf.f (a0 : ByteArray) : Option (Int × Int × Int) := if (a0.size : Int) = 0 then (some ((-1), 0, 0)) else (if 0 < (a0.size : Int) then (if (bt a0 0) = 121 then (some (0, 1, 31536000000000000)) else (if (bt a0 0) = 119 then (some (1, 1, 604800000000000)) else (if (bt a0 0) = 100 then (some (2, 1, 86400000000000)) else (if (bt a0 0) = 104 then (some (3, 1, 3600000000000)) else (if (bt a0 0) = 109 then (if (a0.size : Int) > 1 then (if 1 < (a0.size : Int) then (if (bt a0 1) = 115 then (some (6, 2, 1000000)) else (some (4, 1, 60000000000))) else (none)) else (some (4, 1, 60000000000))) else (if (bt a0 0) = 115 then (some (5, 1, 1000000000)) else (some ((-1), 0, 0)))))))) else (none))
set_option maxHeartbeats 8000000 in
set_option maxRecDepth 100000 in
theorem spec_unitOf.calls (a0 : ByteArray) (r1 : Int) (r2 : Int) (r3 : Int) (w : World) (h : spec_unitOf.f a0 = some (r1, r2, r3)) :
    Calls Tryd.prog 42 #[.string a0] w fun e w' => e = .returned (.tuple #[.int .i64 r1, .int .i64 r2, .int .i64 r3]) ∧ Drawn0 w w' := by
  have H : (if (a0.size : Int) = 0 then (some ((-1), 0, 0)) else (if 0 < (a0.size : Int) then (if (bt a0 0) = 121 then (some (0, 1, 31536000000000000)) else (if (bt a0 0) = 119 then (some (1, 1, 604800000000000)) else (if (bt a0 0) = 100 then (some (2, 1, 86400000000000)) else (if (bt a0 0) = 104 then (some (3, 1, 3600000000000)) else (if (bt a0 0) = 109 then (if (a0.size : Int) > 1 then (if 1 < (a0.size : Int) then (if (bt a0 1) = 115 then (some (6, 2, 1000000)) else (some (4, 1, 60000000000))) else (none)) else (some (4, 1, 60000000000))) else (if (bt a0 0) = 115 then (some (5, 1, 1000000000)) else (some ((-1), 0, 0)))))))) else (none))) = some (r1, r2, r3) := h
  clear h
  by_cases c2 : (a0.size : Int) = 0
  · rw [if_pos c2] at H
    have c2b0 : ((a0.size : Int) == 0) = true := beq_iff_eq.mpr c2
    have c2b1 : ((a0.size : Int) != 0) = false := bne_eq_false_iff_eq.mpr c2
    clear c2
    simp only [Option.some.injEq, Prod.mk.injEq] at H
    obtain ⟨rfl, rfl, rfl⟩ := H
    go_enter Tryd.func42, Tryd.ntmps42
    go_wp2
    go_ret3
    exact ⟨by first | rfl | (simp; done) | (simp [*]; done) | (simp [*, q_isEmpty]; done) | (simp [*]; exact q_gt _ _ (by assumption)), by repeat (first | exact Drawn0.refl _ | apply Drawn0.step)⟩
  · rw [if_neg c2] at H
    have c2b0 : ((a0.size : Int) == 0) = false := beq_eq_false_iff_ne.mpr c2
    have c2b1 : ((a0.size : Int) != 0) = true := bne_iff_ne.mpr c2
    by_cases c3 : 0 < (a0.size : Int)
    · rw [if_pos c3] at H
      have c3b0 : decide (0 < (a0.size : Int)) = true := decide_eq_true c3
      have c3b1 : decide (0 < a0.size) = true := decide_eq_true (by omega)
      clear c3
      by_cases c5 : (bt a0 0) = 121
      · rw [if_pos c5] at H
        have c5b0 : ((bt a0 0) == 121) = true := beq_iff_eq.mpr c5
        have c5b1 : ((bt a0 0) != 121) = false := bne_eq_false_iff_eq.mpr c5
        clear c5
        simp only [Option.some.injEq, Prod.mk.injEq] at H
        obtain ⟨rfl, rfl, rfl⟩ := H
        have p4 : 0 ≤ (0 : Int) := (by omega)
        have q4 : 0 < a0.size := (by have : (0 : Int) < (a0.size : Int) := of_decide_eq_true (by first | (with_reducible assumption) | assumption); omega)
        have hx4 : ∀ h : 0 < a0.size, ((a0[0]'h).toNat : Int) = bt a0 0 := bt_at a0 0
        clear p4
        have qi4 : (0 < (a0.size : Int)) = True := eq_true (of_decide_eq_true (by first | (with_reducible assumption) | assumption))
        replace q4 := eq_true q4
        go_enter Tryd.func42, Tryd.ntmps42
        go_wp2
        go_ret3
        exact ⟨by first | rfl | (simp; done) | (simp [*]; done) | (simp [*, q_isEmpty]; done) | (simp [*]; exact q_gt _ _ (by assumption)), by repeat (first | exact Drawn0.refl _ | apply Drawn0.step)⟩
      · rw [if_neg c5] at H
        have c5b0 : ((bt a0 0) == 121) = false := beq_eq_false_iff_ne.mpr c5
        have c5b1 : ((bt a0 0) != 121) = true := bne_iff_ne.mpr c5
        by_cases c6 : (bt a0 0) = 119
        · rw [if_pos c6] at H
          have c6b0 : ((bt a0 0) == 119) = true := beq_iff_eq.mpr c6
          have c6b1 : ((bt a0 0) != 119) = false := bne_eq_false_iff_eq.mpr c6
          clear c6
          simp only [Option.some.injEq, Prod.mk.injEq] at H
          obtain ⟨rfl, rfl, rfl⟩ := H
          have p4 : 0 ≤ (0 : Int) := (by omega)
          have q4 : 0 < a0.size := (by have : (0 : Int) < (a0.size : Int) := of_decide_eq_true (by first | (with_reducible assumption) | assumption); omega)
          have hx4 : ∀ h : 0 < a0.size, ((a0[0]'h).toNat : Int) = bt a0 0 := bt_at a0 0
          clear p4
          have qi4 : (0 < (a0.size : Int)) = True := eq_true (of_decide_eq_true (by first | (with_reducible assumption) | assumption))
          replace q4 := eq_true q4
          go_enter Tryd.func42, Tryd.ntmps42
          go_wp2
          go_ret3
          exact ⟨by first | rfl | (simp; done) | (simp [*]; done) | (simp [*, q_isEmpty]; done) | (simp [*]; exact q_gt _ _ (by assumption)), by repeat (first | exact Drawn0.refl _ | apply Drawn0.step)⟩
        · rw [if_neg c6] at H
          have c6b0 : ((bt a0 0) == 119) = false := beq_eq_false_iff_ne.mpr c6
          have c6b1 : ((bt a0 0) != 119) = true := bne_iff_ne.mpr c6
          by_cases c7 : (bt a0 0) = 100
          · rw [if_pos c7] at H
            have c7b0 : ((bt a0 0) == 100) = true := beq_iff_eq.mpr c7
            have c7b1 : ((bt a0 0) != 100) = false := bne_eq_false_iff_eq.mpr c7
            clear c7
            simp only [Option.some.injEq, Prod.mk.injEq] at H
            obtain ⟨rfl, rfl, rfl⟩ := H
            have p4 : 0 ≤ (0 : Int) := (by omega)
            have q4 : 0 < a0.size := (by have : (0 : Int) < (a0.size : Int) := of_decide_eq_true (by first | (with_reducible assumption) | assumption); omega)
            have hx4 : ∀ h : 0 < a0.size, ((a0[0]'h).toNat : Int) = bt a0 0 := bt_at a0 0
            clear p4
            have qi4 : (0 < (a0.size : Int)) = True := eq_true (of_decide_eq_true (by first | (with_reducible assumption) | assumption))
            replace q4 := eq_true q4
            go_enter Tryd.func42, Tryd.ntmps42
            go_wp2
            go_ret3
            exact ⟨by first | rfl | (simp; done) | (simp [*]; done) | (simp [*, q_isEmpty]; done) | (simp [*]; exact q_gt _ _ (by assumption)), by repeat (first | exact Drawn0.refl _ | apply Drawn0.step)⟩
          · rw [if_neg c7] at H
            have c7b0 : ((bt a0 0) == 100) = false := beq_eq_false_iff_ne.mpr c7
            have c7b1 : ((bt a0 0) != 100) = true := bne_iff_ne.mpr c7
            by_cases c8 : (bt a0 0) = 104
            · rw [if_pos c8] at H
              have c8b0 : ((bt a0 0) == 104) = true := beq_iff_eq.mpr c8
              have c8b1 : ((bt a0 0) != 104) = false := bne_eq_false_iff_eq.mpr c8
              clear c8
              simp only [Option.some.injEq, Prod.mk.injEq] at H
              obtain ⟨rfl, rfl, rfl⟩ := H
              have p4 : 0 ≤ (0 : Int) := (by omega)
              have q4 : 0 < a0.size := (by have : (0 : Int) < (a0.size : Int) := of_decide_eq_true (by first | (with_reducible assumption) | assumption); omega)
              have hx4 : ∀ h : 0 < a0.size, ((a0[0]'h).toNat : Int) = bt a0 0 := bt_at a0 0
              clear p4
              have qi4 : (0 < (a0.size : Int)) = True := eq_true (of_decide_eq_true (by first | (with_reducible assumption) | assumption))
              replace q4 := eq_true q4
              go_enter Tryd.func42, Tryd.ntmps42
              go_wp2
              go_ret3
              exact ⟨by first | rfl | (simp; done) | (simp [*]; done) | (simp [*, q_isEmpty]; done) | (simp [*]; exact q_gt _ _ (by assumption)), by repeat (first | exact Drawn0.refl _ | apply Drawn0.step)⟩
            · rw [if_neg c8] at H
              have c8b0 : ((bt a0 0) == 104) = false := beq_eq_false_iff_ne.mpr c8
              have c8b1 : ((bt a0 0) != 104) = true := bne_iff_ne.mpr c8
              by_cases c9 : (bt a0 0) = 109
              · rw [if_pos c9] at H
                have c9b0 : ((bt a0 0) == 109) = true := beq_iff_eq.mpr c9
                have c9b1 : ((bt a0 0) != 109) = false := bne_eq_false_iff_eq.mpr c9
                clear c9
                by_cases c10 : (a0.size : Int) > 1
                · rw [if_pos c10] at H
                  have c10b0 : decide (1 < (a0.size : Int)) = true := decide_eq_true c10
                  have c10b1 : decide (1 < a0.size) = true := decide_eq_true (by omega)
                  clear c10
                  by_cases c11 : 1 < (a0.size : Int)
                  · rw [if_pos c11] at H
                    have c11b0 : decide (1 < (a0.size : Int)) = true := decide_eq_true c11
                    have c11b1 : decide (1 < a0.size) = true := decide_eq_true (by omega)
                    clear c11
                    by_cases c13 : (bt a0 1) = 115
                    · rw [if_pos c13] at H
                      have c13b0 : ((bt a0 1) == 115) = true := beq_iff_eq.mpr c13
                      have c13b1 : ((bt a0 1) != 115) = false := bne_eq_false_iff_eq.mpr c13
                      clear c13
                      simp only [Option.some.injEq, Prod.mk.injEq] at H
                      obtain ⟨rfl, rfl, rfl⟩ := H
                      have p4 : 0 ≤ (0 : Int) := (by omega)
                      have q4 : 0 < a0.size := (by have : (0 : Int) < (a0.size : Int) := of_decide_eq_true (by first | (with_reducible assumption) | assumption); omega)
                      have hx4 : ∀ h : 0 < a0.size, ((a0[0]'h).toNat : Int) = bt a0 0 := bt_at a0 0
                      clear p4
                      have qi4 : (0 < (a0.size : Int)) = True := eq_true (of_decide_eq_true (by first | (with_reducible assumption) | assumption))
                      replace q4 := eq_true q4
                      have p12 : 0 ≤ (1 : Int) := (by omega)
                      have q12 : 1 < a0.size := (by have : (1 : Int) < (a0.size : Int) := of_decide_eq_true (by first | (with_reducible assumption) | assumption); omega)
                      have hx12 : ∀ h : 1 < a0.size, ((a0[1]'h).toNat : Int) = bt a0 1 := bt_at a0 1
                      clear p12
                      have qi12 : (1 < (a0.size : Int)) = True := eq_true (of_decide_eq_true (by first | (with_reducible assumption) | assumption))
                      replace q12 := eq_true q12
                      go_enter Tryd.func42, Tryd.ntmps42
                      go_wp2
                      go_ret3
                      exact ⟨by first | rfl | (simp; done) | (simp [*]; done) | (simp [*, q_isEmpty]; done) | (simp [*]; exact q_gt _ _ (by assumption)), by repeat (first | exact Drawn0.refl _ | apply Drawn0.step)⟩
                    · rw [if_neg c13] at H
                      have c13b0 : ((bt a0 1) == 115) = false := beq_eq_false_iff_ne.mpr c13
                      have c13b1 : ((bt a0 1) != 115) = true := bne_iff_ne.mpr c13
                      simp only [Option.some.injEq, Prod.mk.injEq] at H
                      obtain ⟨rfl, rfl, rfl⟩ := H
                      have p4 : 0 ≤ (0 : Int) := (by omega)
                      have q4 : 0 < a0.size := (by have : (0 : Int) < (a0.size : Int) := of_decide_eq_true (by first | (with_reducible assumption) | assumption); omega)
                      have hx4 : ∀ h : 0 < a0.size, ((a0[0]'h).toNat : Int) = bt a0 0 := bt_at a0 0
                      clear p4
                      have qi4 : (0 < (a0.size : Int)) = True := eq_true (of_decide_eq_true (by first | (with_reducible assumption) | assumption))
                      replace q4 := eq_true q4
                      have p12 : 0 ≤ (1 : Int) := (by omega)
                      have q12 : 1 < a0.size := (by have : (1 : Int) < (a0.size : Int) := of_decide_eq_true (by first | (with_reducible assumption) | assumption); omega)
                      have hx12 : ∀ h : 1 < a0.size, ((a0[1]'h).toNat : Int) = bt a0 1 := bt_at a0 1
                      clear p12
                      have qi12 : (1 < (a0.size : Int)) = True := eq_true (of_decide_eq_true (by first | (with_reducible assumption) | assumption))
                      replace q12 := eq_true q12
                      go_enter Tryd.func42, Tryd.ntmps42
                      go_wp2
                      go_ret3
                      exact ⟨by first | rfl | (simp; done) | (simp [*]; done) | (simp [*, q_isEmpty]; done) | (simp [*]; exact q_gt _ _ (by assumption)), by repeat (first | exact Drawn0.refl _ | apply Drawn0.step)⟩
                  · rw [if_neg c11] at H
                    exact absurd H (by simp)
                · rw [if_neg c10] at H
                  have c10b0 : decide (1 < (a0.size : Int)) = false := decide_eq_false c10
                  have c10b1 : decide (1 < a0.size) = false := decide_eq_false (by omega)
                  clear c10
                  simp only [Option.some.injEq, Prod.mk.injEq] at H
                  obtain ⟨rfl, rfl, rfl⟩ := H
                  have p4 : 0 ≤ (0 : Int) := (by omega)
                  have q4 : 0 < a0.size := (by have : (0 : Int) < (a0.size : Int) := of_decide_eq_true (by first | (with_reducible assumption) | assumption); omega)
                  have hx4 : ∀ h : 0 < a0.size, ((a0[0]'h).toNat : Int) = bt a0 0 := bt_at a0 0
                  clear p4
                  have qi4 : (0 < (a0.size : Int)) = True := eq_true (of_decide_eq_true (by first | (with_reducible assumption) | assumption))
                  replace q4 := eq_true q4
                  go_enter Tryd.func42, Tryd.ntmps42
                  go_wp2
                  go_ret3
                  exact ⟨by first | rfl | (simp; done) | (simp [*]; done) | (simp [*, q_isEmpty]; done) | (simp [*]; exact q_gt _ _ (by assumption)), by repeat (first | exact Drawn0.refl _ | apply Drawn0.step)⟩
              · rw [if_neg c9] at H
                have c9b0 : ((bt a0 0) == 109) = false := beq_eq_false_iff_ne.mpr c9
                have c9b1 : ((bt a0 0) != 109) = true := bne_iff_ne.mpr c9
                by_cases c14 : (bt a0 0) = 115
                · rw [if_pos c14] at H
                  have c14b0 : ((bt a0 0) == 115) = true := beq_iff_eq.mpr c14
                  have c14b1 : ((bt a0 0) != 115) = false := bne_eq_false_iff_eq.mpr c14
                  clear c14
                  simp only [Option.some.injEq, Prod.mk.injEq] at H
                  obtain ⟨rfl, rfl, rfl⟩ := H
                  have p4 : 0 ≤ (0 : Int) := (by omega)
                  have q4 : 0 < a0.size := (by have : (0 : Int) < (a0.size : Int) := of_decide_eq_true (by first | (with_reducible assumption) | assumption); omega)
                  have hx4 : ∀ h : 0 < a0.size, ((a0[0]'h).toNat : Int) = bt a0 0 := bt_at a0 0
                  clear p4
                  have qi4 : (0 < (a0.size : Int)) = True := eq_true (of_decide_eq_true (by first | (with_reducible assumption) | assumption))
                  replace q4 := eq_true q4
                  go_enter Tryd.func42, Tryd.ntmps42
                  go_wp2
                  go_ret3
                  exact ⟨by first | rfl | (simp; done) | (simp [*]; done) | (simp [*, q_isEmpty]; done) | (simp [*]; exact q_gt _ _ (by assumption)), by repeat (first | exact Drawn0.refl _ | apply Drawn0.step)⟩
                · rw [if_neg c14] at H
                  have c14b0 : ((bt a0 0) == 115) = false := beq_eq_false_iff_ne.mpr c14
                  have c14b1 : ((bt a0 0) != 115) = true := bne_iff_ne.mpr c14
                  simp only [Option.some.injEq, Prod.mk.injEq] at H
                  obtain ⟨rfl, rfl, rfl⟩ := H
                  have p4 : 0 ≤ (0 : Int) := (by omega)
                  have q4 : 0 < a0.size := (by have : (0 : Int) < (a0.size : Int) := of_decide_eq_true (by first | (with_reducible assumption) | assumption); omega)
                  have hx4 : ∀ h : 0 < a0.size, ((a0[0]'h).toNat : Int) = bt a0 0 := bt_at a0 0
                  clear p4
                  have qi4 : (0 < (a0.size : Int)) = True := eq_true (of_decide_eq_true (by first | (with_reducible assumption) | assumption))
                  replace q4 := eq_true q4
                  go_enter Tryd.func42, Tryd.ntmps42
                  go_wp2
                  go_ret3
                  exact ⟨by first | rfl | (simp; done) | (simp [*]; done) | (simp [*, q_isEmpty]; done) | (simp [*]; exact q_gt _ _ (by assumption)), by repeat (first | exact Drawn0.refl _ | apply Drawn0.step)⟩
    · rw [if_neg c3] at H
      exact absurd H (by simp)

end Go.Proofs.YtmmcibeeojfplaaDoor.Q
