/- Printed for this seat by wip/pp.py of this repo; nothing here is trusted: Lean checks it. -/
import Derived.Test.YtkngnoipipnioaaDoorQ0
import Derived.Test.YtkngnoipipnioaaDoorQA
namespace Go.Proofs.YtkngnoipipnioaaDoor.Q
open Go.RowKit Go.Proofs.YtkngnoipipnioaaDoorW.PrintWords Go.Proofs.YtkngnoipipnioaaDoorW.PrintLast Go.Proofs.YtkngnoipipnioaaDoorW.PrintMore
attribute [local go_sem] max2_int min2_int max_two min_two max_three min_three max_four min_four   -- for this text's walks alone
set_option linter.unusedVariables false
set_option linter.unusedSimpArgs false

/-! ### spec_classicBlank: function 42 -/
def spec_classicBlank.f (a0 : Int) : Option (Bool) := if a0 = 32 then (some true) else (if a0 = 9 then (some true) else (if a0 = 10 then (some true) else (if a0 = 12 then (some true) else (some (a0 == 13)))))
set_option maxHeartbeats 8000000 in
set_option maxRecDepth 100000 in
theorem spec_classicBlank.calls (a0 : Int) (r : Bool) (w : World) (h : spec_classicBlank.f a0 = some r) :
    Calls Tryd.prog 42 #[.int .u8 a0] w fun e w' => e = .returned (.bool r) ∧ Drawn0 w w' := by
  have H : (if a0 = 32 then (some true) else (if a0 = 9 then (some true) else (if a0 = 10 then (some true) else (if a0 = 12 then (some true) else (some (a0 == 13)))))) = some r := h
  clear h
  by_cases c2 : a0 = 32
  · rw [if_pos c2] at H
    have c2b0 : (a0 == 32) = true := beq_iff_eq.mpr c2
    have c2b1 : (a0 != 32) = false := bne_eq_false_iff_eq.mpr c2
    clear c2
    obtain rfl := Option.some.inj H
    go_enter Tryd.func42, Tryd.ntmps42
    go_wp2
    go_ret
    exact ⟨by first | rfl | (simp; done) | (simp [*]; done) | (simp [*, q_isEmpty]; done) | (simp [*]; exact q_gt _ _ (by assumption)), by repeat (first | exact Drawn0.refl _ | apply Drawn0.step)⟩
  · rw [if_neg c2] at H
    have c2b0 : (a0 == 32) = false := beq_eq_false_iff_ne.mpr c2
    have c2b1 : (a0 != 32) = true := bne_iff_ne.mpr c2
    by_cases c3 : a0 = 9
    · rw [if_pos c3] at H
      have c3b0 : (a0 == 9) = true := beq_iff_eq.mpr c3
      have c3b1 : (a0 != 9) = false := bne_eq_false_iff_eq.mpr c3
      clear c3
      obtain rfl := Option.some.inj H
      go_enter Tryd.func42, Tryd.ntmps42
      go_wp2
      go_ret
      exact ⟨by first | rfl | (simp; done) | (simp [*]; done) | (simp [*, q_isEmpty]; done) | (simp [*]; exact q_gt _ _ (by assumption)), by repeat (first | exact Drawn0.refl _ | apply Drawn0.step)⟩
    · rw [if_neg c3] at H
      have c3b0 : (a0 == 9) = false := beq_eq_false_iff_ne.mpr c3
      have c3b1 : (a0 != 9) = true := bne_iff_ne.mpr c3
      by_cases c4 : a0 = 10
      · rw [if_pos c4] at H
        have c4b0 : (a0 == 10) = true := beq_iff_eq.mpr c4
        have c4b1 : (a0 != 10) = false := bne_eq_false_iff_eq.mpr c4
        clear c4
        obtain rfl := Option.some.inj H
        go_enter Tryd.func42, Tryd.ntmps42
        go_wp2
        go_ret
        exact ⟨by first | rfl | (simp; done) | (simp [*]; done) | (simp [*, q_isEmpty]; done) | (simp [*]; exact q_gt _ _ (by assumption)), by repeat (first | exact Drawn0.refl _ | apply Drawn0.step)⟩
      · rw [if_neg c4] at H
        have c4b0 : (a0 == 10) = false := beq_eq_false_iff_ne.mpr c4
        have c4b1 : (a0 != 10) = true := bne_iff_ne.mpr c4
        by_cases c5 : a0 = 12
        · rw [if_pos c5] at H
          have c5b0 : (a0 == 12) = true := beq_iff_eq.mpr c5
          have c5b1 : (a0 != 12) = false := bne_eq_false_iff_eq.mpr c5
          clear c5
          obtain rfl := Option.some.inj H
          go_enter Tryd.func42, Tryd.ntmps42
          go_wp2
          go_ret
          exact ⟨by first | rfl | (simp; done) | (simp [*]; done) | (simp [*, q_isEmpty]; done) | (simp [*]; exact q_gt _ _ (by assumption)), by repeat (first | exact Drawn0.refl _ | apply Drawn0.step)⟩
        · rw [if_neg c5] at H
          have c5b0 : (a0 == 12) = false := beq_eq_false_iff_ne.mpr c5
          have c5b1 : (a0 != 12) = true := bne_iff_ne.mpr c5
          obtain rfl := Option.some.inj H
          go_enter Tryd.func42, Tryd.ntmps42
          go_wp2
          go_ret
          exact ⟨by first | rfl | (simp; done) | (simp [*]; done) | (simp [*, q_isEmpty]; done) | (simp [*]; exact q_gt _ _ (by assumption)), by repeat (first | exact Drawn0.refl _ | apply Drawn0.step)⟩

end Go.Proofs.YtkngnoipipnioaaDoor.Q
namespace Go.Proofs.YtkngnoipipnioaaDoor.Q
open Go.RowKit Go.Proofs.YtkngnoipipnioaaDoorW.PrintWords Go.Proofs.YtkngnoipipnioaaDoorW.PrintLast Go.Proofs.YtkngnoipipnioaaDoorW.PrintMore
attribute [local go_sem] max2_int min2_int max_two min_two max_three min_three max_four min_four   -- for this text's walks alone
set_option linter.unusedVariables false
set_option linter.unusedSimpArgs false

/-! ### spec_trimmed: function 21 -/
mutual
def spec_trimmed.j1 : Nat → ByteArray → Option (ByteArray)
  | 0, _ => none
  | k + 1, x0 => spec_trimmed.l1 k x0
def spec_trimmed.l1 : Nat → ByteArray → Option (ByteArray)
  | 0, _ => none
  | k + 1, x0 => if (x0.size : Int) > 0 then (if 0 ≤ (wrap64 ((x0.size : Int) - 1)) then (if (wrap64 ((x0.size : Int) - 1)) < (x0.size : Int) then ((spec_classicBlank.f (bt x0 (wrap64 ((x0.size : Int) - 1)))).bind fun t164 => (if t164 = true then (if (wrap64 ((x0.size : Int) - 1)) ≤ (x0.size : Int) then (spec_trimmed.l1 k (x0.extract 0 ((wrap64 ((x0.size : Int) - 1)) : Int).toNat)) else (none)) else (some x0))) else (none)) else (none)) else (some x0)
def spec_trimmed.l0 : Nat → ByteArray → Option (ByteArray)
  | 0, _ => none
  | k + 1, x0 => if (x0.size : Int) > 0 then (if 0 < (x0.size : Int) then ((spec_classicBlank.f (bt x0 0)).bind fun t163 => (if t163 = true then (if 1 ≤ (x0.size : Int) then (spec_trimmed.l0 k (x0.extract 1 x0.size)) else (none)) else (spec_trimmed.j1 k x0))) else (none)) else (spec_trimmed.j1 k x0)
end
def spec_trimmed.f (k : Nat) (a0 : ByteArray) : Option (ByteArray) := spec_trimmed.l0 k a0
theorem spec_trimmed.mono_l : ∀ k, (∀ y0, LeO (spec_trimmed.j1 k y0) (spec_trimmed.j1 (k + 1) y0)) ∧ (∀ y0, LeO (spec_trimmed.l1 k y0) (spec_trimmed.l1 (k + 1) y0)) ∧ (∀ y0, LeO (spec_trimmed.l0 k y0) (spec_trimmed.l0 (k + 1) y0))
  | 0 => ⟨fun _ r h => by simp [spec_trimmed.j1] at h, fun _ r h => by simp [spec_trimmed.l1] at h, fun _ r h => by simp [spec_trimmed.l0] at h⟩
  | k + 1 => by
    obtain ⟨ih0, ih1, ih2⟩ := spec_trimmed.mono_l k
    refine ⟨?_, ?_, ?_⟩
    · intro y0
      unfold spec_trimmed.j1
      repeat' first
      | (with_reducible exact ih0 _)
      | (with_reducible exact ih1 _)
      | (with_reducible exact ih2 _)
      | (with_reducible exact LeO.refl _)
      | (with_reducible exact LeO.none _)
      | (with_reducible refine LeO.ite ?_ ?_)
      | (with_reducible refine LeO.bind ?_ (fun _ => ?_))
      | exact ih0 _
      | exact ih1 _
      | exact ih2 _
      | exact LeO.none _
      | refine LeO.ite ?_ ?_
      | refine LeO.bind ?_ (fun _ => ?_)
    · intro y0
      unfold spec_trimmed.l1
      repeat' first
      | (with_reducible exact ih0 _)
      | (with_reducible exact ih1 _)
      | (with_reducible exact ih2 _)
      | (with_reducible exact LeO.refl _)
      | (with_reducible exact LeO.none _)
      | (with_reducible refine LeO.ite ?_ ?_)
      | (with_reducible refine LeO.bind ?_ (fun _ => ?_))
      | exact ih0 _
      | exact ih1 _
      | exact ih2 _
      | exact LeO.none _
      | refine LeO.ite ?_ ?_
      | refine LeO.bind ?_ (fun _ => ?_)
    · intro y0
      unfold spec_trimmed.l0
      repeat' first
      | (with_reducible exact ih0 _)
      | (with_reducible exact ih1 _)
      | (with_reducible exact ih2 _)
      | (with_reducible exact LeO.refl _)
      | (with_reducible exact LeO.none _)
      | (with_reducible refine LeO.ite ?_ ?_)
      | (with_reducible refine LeO.bind ?_ (fun _ => ?_))
      | exact ih0 _
      | exact ih1 _
      | exact ih2 _
      | exact LeO.none _
      | refine LeO.ite ?_ ?_
      | refine LeO.bind ?_ (fun _ => ?_)
theorem spec_trimmed.mono : ∀ a0 k, LeO (spec_trimmed.f k a0) (spec_trimmed.f (k + 1) a0) := by
  intro a0 k
  obtain ⟨ih0, ih1, ih2⟩ := spec_trimmed.mono_l k
  unfold spec_trimmed.f
  repeat' first
      | (with_reducible exact ih0 _)
      | (with_reducible exact ih1 _)
      | (with_reducible exact ih2 _)
      | (with_reducible exact LeO.refl _)
      | (with_reducible exact LeO.none _)
      | (with_reducible refine LeO.ite ?_ ?_)
      | (with_reducible refine LeO.bind ?_ (fun _ => ?_))
      | exact ih0 _
      | exact ih1 _
      | exact ih2 _
      | exact LeO.none _
      | refine LeO.ite ?_ ?_
      | refine LeO.bind ?_ (fun _ => ?_)
set_option maxHeartbeats 8000000 in
set_option maxRecDepth 100000 in
theorem spec_trimmed.calls (k : Nat) (a0 : ByteArray) (r : ByteArray) (w : World) (h : spec_trimmed.f k a0 = some r) :
    Calls Tryd.prog 21 #[.string a0] w fun e w' => e = .returned (.string r) ∧ Drawn0 w w' := by
  have H : (spec_trimmed.l0 k a0) = some r := h
  clear h
  have HC2 := Aside0.mk H
  clear H
  go_enter Tryd.func21, Tryd.ntmps21
  go_upto_block 0 with (fail)
  go_cut [0] (fun v0 wc => ∃ (kq : Nat) (x0_1 : ByteArray), v0 = .string x0_1 ∧ Aside0 (spec_trimmed.j1 kq x0_1 = some r) ∧ Aside0 (kq ≤ k) ∧ Drawn0 w wc)
  case first =>
    have H := HC2.out
    clear HC2
    have H' := Aside0.mk H
    clear H
    go_wp2
    go_loopg [0] k (fun kq v0 w' => ∃ (x0_1 : ByteArray), v0 = .string x0_1 ∧ Aside0 (spec_trimmed.l0 kq x0_1 = some r) ∧ Aside0 (kq ≤ k) ∧ Drawn0 w w')
    case atStart => exact ⟨(a0), (by first | rfl | (simp; done) | (simp [*]; done) | (simp [*, q_isEmpty]; done) | (simp [*]; exact q_gt _ _ (by assumption))), H', ⟨Nat.le_refl _⟩, by repeat (first | exact Drawn0.refl _ | apply Drawn0.step)⟩
    case round =>
      clear H'
      try clear c2
      try clear p2
      obtain ⟨x0_1, rfl, HA, HK1, ⟨m1, rfl⟩⟩ := hrel
      cases gk with
      | zero => exact absurd HA.out (by simp [spec_trimmed.l0])
      | succ k1 =>
        have H := HA.out
        clear HA
        simp only [spec_trimmed.l0] at H
        by_cases c3 : (x0_1.size : Int) > 0
        · rw [if_pos c3] at H
          have c3b0 : decide (0 < (x0_1.size : Int)) = true := decide_eq_true c3
          have c3b1 : decide (0 < x0_1.size) = true := decide_eq_true (by omega)
          clear c3
          (first | rw [c3b0] | (simp only [i64_w, i32_w]; rw [c3b0]) | skip)
          by_cases c4 : 0 < (x0_1.size : Int)
          · rw [if_pos c4] at H
            have c4b0 : decide (0 < (x0_1.size : Int)) = true := decide_eq_true c4
            have c4b1 : decide (0 < x0_1.size) = true := decide_eq_true (by omega)
            clear c4
            replace H := Option.bind_eq_some_iff.mp H
            obtain ⟨t163, A60, H⟩ := H
            replace H : (if t163 = true then (if 1 ≤ (x0_1.size : Int) then (spec_trimmed.l0 k1 (x0_1.extract 1 x0_1.size)) else (none)) else (spec_trimmed.j1 k1 x0_1)) = some r := H
            have A6 := Aside0.mk A60
            clear A60
            by_cases c7 : t163 = true
            · subst c7
              have H1 : (if 1 ≤ (x0_1.size : Int) then (spec_trimmed.l0 k1 (x0_1.extract 1 x0_1.size)) else (none)) = some r := by rw [if_pos rfl] at H; exact H
              clear H
              have H := H1
              clear H1
              by_cases c8 : 1 ≤ (x0_1.size : Int)
              · rw [if_pos c8] at H
                have c8b0 := eq_true c8
                have c8b1 : decide (1 ≤ (x0_1.size : Int)) = true := decide_eq_true c8
                clear c8
                have H' := Aside0.mk H
                clear H
                have p5 : 0 ≤ (0 : Int) := (by omega)
                have q5 : 0 < x0_1.size := (by have : (0 : Int) < (x0_1.size : Int) := of_decide_eq_true (by first | (with_reducible assumption) | assumption); omega)
                have hx5 : ∀ h : 0 < x0_1.size, ((x0_1[0]'h).toNat : Int) = bt x0_1 0 := bt_at x0_1 0
                clear p5
                have qi5 : (0 < (x0_1.size : Int)) = True := eq_true (of_decide_eq_true (by first | (with_reducible assumption) | assumption))
                replace q5 := eq_true q5
                go_wp2_with (first | (go_at_call 42; (with_reducible refine (spec_classicBlank.calls (bt x0_1 0) true _ A6.out).mono ?_); rintro e w' ⟨rfl, ⟨nd, rfl⟩⟩))
                go_roundg k1
                case measure => have := HK1.out; omega
                case rel => exact ⟨(x0_1.extract 1 x0_1.size), (by first | rfl | (simp; done) | (simp [*]; done) | (simp [*, q_isEmpty]; done) | (simp [*]; exact q_gt _ _ (by assumption))), H', ⟨by have := HK1.out; omega⟩, by repeat (first | exact Drawn0.refl _ | apply Drawn0.step)⟩
              · rw [if_neg c8] at H
                exact absurd H (by simp)
            · replace c7 := Bool.eq_false_iff.mpr c7
              subst c7
              have H1 : (spec_trimmed.j1 k1 x0_1) = some r := by rw [if_neg (show ¬ (false = true) by decide)] at H; exact H
              clear H
              have H := H1
              clear H1
              have H' := Aside0.mk H
              clear H
              have p5 : 0 ≤ (0 : Int) := (by omega)
              have q5 : 0 < x0_1.size := (by have : (0 : Int) < (x0_1.size : Int) := of_decide_eq_true (by first | (with_reducible assumption) | assumption); omega)
              have hx5 : ∀ h : 0 < x0_1.size, ((x0_1[0]'h).toNat : Int) = bt x0_1 0 := bt_at x0_1 0
              clear p5
              have qi5 : (0 < (x0_1.size : Int)) = True := eq_true (of_decide_eq_true (by first | (with_reducible assumption) | assumption))
              replace q5 := eq_true q5
              go_wp2_with (first | (go_at_call 42; (with_reducible refine (spec_classicBlank.calls (bt x0_1 0) false _ A6.out).mono ?_); rintro e w' ⟨rfl, ⟨nd, rfl⟩⟩))
              go_meet
              case rel => exact ⟨_, (x0_1), (by first | rfl | (simp; done) | (simp [*]; done) | (simp [*, q_isEmpty]; done) | (simp [*]; exact q_gt _ _ (by assumption))), H', ⟨by have := HK1.out; first | omega | exact Nat.le_refl _⟩, by repeat (first | exact Drawn0.refl _ | apply Drawn0.step)⟩
          · rw [if_neg c4] at H
            exact absurd H (by simp)
        · rw [if_neg c3] at H
          have c3b0 : decide (0 < (x0_1.size : Int)) = false := decide_eq_false c3
          have c3b1 : decide (0 < x0_1.size) = false := decide_eq_false (by omega)
          clear c3
          (first | rw [c3b0] | (simp only [i64_w, i32_w]; rw [c3b0]) | skip)
          have H' := Aside0.mk H
          clear H
          go_wp2
          go_meet
          case rel => exact ⟨_, (x0_1), (by first | rfl | (simp; done) | (simp [*]; done) | (simp [*, q_isEmpty]; done) | (simp [*]; exact q_gt _ _ (by assumption))), H', ⟨by have := HK1.out; first | omega | exact Nat.le_refl _⟩, by repeat (first | exact Drawn0.refl _ | apply Drawn0.step)⟩
  case rest =>
    clear HC2
    try clear c2
    try clear p2
    try clear c3
    try clear c3b0
    try clear c3b1
    try clear c4
    try clear c4b0
    try clear c4b1
    try clear p5
    try clear q5
    try clear hx5
    try clear qi5
    try clear c7
    try clear c8
    try clear c8b0
    try clear c8b1
    try clear p2
    try clear p5
    try clear q5
    obtain ⟨kq, x0_1, rfl, HA, HJ1, ⟨mc1, rfl⟩⟩ := hcut
    cases kq with
    | zero => exact absurd HA.out (by simp [spec_trimmed.j1])
    | succ kj1 =>
      have H := HA.out
      clear HA
      simp only [spec_trimmed.j1] at H
      have H' := Aside0.mk H
      clear H
      go_wp2
      go_loopg [0] kj1 (fun kq v0 w' => ∃ (x0_2 : ByteArray), v0 = .string x0_2 ∧ Aside0 (spec_trimmed.l1 kq x0_2 = some r) ∧ Aside0 (kq ≤ kj1) ∧ Drawn0 w w')
      case atStart => exact ⟨(x0_1), (by first | rfl | (simp; done) | (simp [*]; done) | (simp [*, q_isEmpty]; done) | (simp [*]; exact q_gt _ _ (by assumption))), H', ⟨Nat.le_refl _⟩, by repeat (first | exact Drawn0.refl _ | apply Drawn0.step)⟩
      case round =>
        clear H'
        try clear c1
        try clear c2
        try clear p2
        try clear c3
        try clear c3b0
        try clear c3b1
        try clear c4
        try clear c4b0
        try clear c4b1
        try clear p5
        try clear q5
        try clear hx5
        try clear qi5
        try clear c7
        try clear c8
        try clear c8b0
        try clear c8b1
        try clear p2
        try clear p5
        try clear q5
        obtain ⟨x0_2, rfl, HA, HK2, ⟨m2, rfl⟩⟩ := hrel
        cases gk with
        | zero => exact absurd HA.out (by simp [spec_trimmed.l1])
        | succ k2 =>
          have H := HA.out
          clear HA
          simp only [spec_trimmed.l1] at H
          by_cases c9 : (x0_2.size : Int) > 0
          · rw [if_pos c9] at H
            have c9b0 : decide (0 < (x0_2.size : Int)) = true := decide_eq_true c9
            have c9b1 : decide (0 < x0_2.size) = true := decide_eq_true (by omega)
            clear c9
            obtain ⟨ji10, hji10⟩ : ∃ j_ : Int, (wrap64 ((x0_2.size : Int) - 1)) = j_ := ⟨_, rfl⟩
            replace H : (if 0 ≤ (ji10) then (if (ji10) < (x0_2.size : Int) then ((spec_classicBlank.f (bt x0_2 (ji10))).bind fun t164 => (if t164 = true then (if (ji10) ≤ (x0_2.size : Int) then (spec_trimmed.l1 k2 (x0_2.extract 0 ((ji10) : Int).toNat)) else (none)) else (some x0_2))) else (none)) else (none)) = some r := by first | (rw [hji10] at H; exact H) | (simp only [hji10] at H ⊢; exact H)
            have hji10w : (IntKind.i64.wrap ((x0_2.size : Int) - 1)) = ji10 := (i64_w _).trans hji10
            by_cases c11 : 0 ≤ (ji10)
            · rw [if_pos c11] at H
              have c11b0 : decide (0 ≤ (ji10)) = true := decide_eq_true c11
              clear c11
              by_cases c12 : (ji10) < (x0_2.size : Int)
              · rw [if_pos c12] at H
                have c12b0 : decide ((ji10) < (x0_2.size : Int)) = true := decide_eq_true c12
                clear c12
                replace H := Option.bind_eq_some_iff.mp H
                obtain ⟨t164, A140, H⟩ := H
                replace H : (if t164 = true then (if (ji10) ≤ (x0_2.size : Int) then (spec_trimmed.l1 k2 (x0_2.extract 0 ((ji10) : Int).toNat)) else (none)) else (some x0_2)) = some r := H
                have A14 := Aside0.mk A140
                clear A140
                by_cases c15 : t164 = true
                · subst c15
                  have H1 : (if (ji10) ≤ (x0_2.size : Int) then (spec_trimmed.l1 k2 (x0_2.extract 0 ((ji10) : Int).toNat)) else (none)) = some r := by rw [if_pos rfl] at H; exact H
                  clear H
                  have H := H1
                  clear H1
                  have c16b0 := eq_true (of_decide_eq_true (by first | (with_reducible assumption) | assumption) : 0 ≤ (ji10))
                  by_cases c17 : (ji10) ≤ (x0_2.size : Int)
                  · rw [if_pos c17] at H
                    have c17b0 := eq_true c17
                    have c17b1 : decide ((ji10) ≤ (x0_2.size : Int)) = true := decide_eq_true c17
                    clear c17
                    have H' := Aside0.mk H
                    clear H
                    have p13 : 0 ≤ ((ji10) : Int) := of_decide_eq_true (by first | (with_reducible assumption) | assumption)
                    have q13 : (ji10) < (x0_2.size : Int) := of_decide_eq_true (by first | (with_reducible assumption) | assumption)
                    have hx13 := bt_at x0_2 (ji10)
                    replace p13 := eq_true p13
                    replace q13 := eq_true q13
                    go_wp2_with (first | (go_at_call 42; (with_reducible refine (spec_classicBlank.calls (bt x0_2 (ji10)) true _ A14.out).mono ?_); rintro e w' ⟨rfl, ⟨nd, rfl⟩⟩))
                    go_roundg k2
                    case measure => have := HJ1.out; have := HK2.out; omega
                    case rel => exact ⟨(x0_2.extract 0 ((ji10) : Int).toNat), (by first | rfl | (simp; done) | (simp only [← hji10] <;> (first | rfl | simp)) | (simp [*]; done) | (simp [*, q_isEmpty]; done) | (simp [*]; exact q_gt _ _ (by assumption))), H', ⟨by have := HJ1.out; have := HK2.out; omega⟩, by repeat (first | exact Drawn0.refl _ | apply Drawn0.step)⟩
                  · rw [if_neg c17] at H
                    exact absurd H (by simp)
                · replace c15 := Bool.eq_false_iff.mpr c15
                  subst c15
                  have H1 : (some x0_2) = some r := by rw [if_neg (show ¬ (false = true) by decide)] at H; exact H
                  clear H
                  have H := H1
                  clear H1
                  obtain rfl := Option.some.inj H
                  have p13 : 0 ≤ ((ji10) : Int) := of_decide_eq_true (by first | (with_reducible assumption) | assumption)
                  have q13 : (ji10) < (x0_2.size : Int) := of_decide_eq_true (by first | (with_reducible assumption) | assumption)
                  have hx13 := bt_at x0_2 (ji10)
                  replace p13 := eq_true p13
                  replace q13 := eq_true q13
                  go_wp2_with (first | (go_at_call 42; (with_reducible refine (spec_classicBlank.calls (bt x0_2 (ji10)) false _ A14.out).mono ?_); rintro e w' ⟨rfl, ⟨nd, rfl⟩⟩))
                  go_ret
                  exact ⟨by first | rfl | (simp; done) | (simp only [← hji10] <;> (first | rfl | simp)) | (simp [*]; done) | (simp [*, q_isEmpty]; done) | (simp [*]; exact q_gt _ _ (by assumption)), by repeat (first | exact Drawn0.refl _ | apply Drawn0.step)⟩
              · rw [if_neg c12] at H
                exact absurd H (by simp)
            · rw [if_neg c11] at H
              exact absurd H (by simp)
          · rw [if_neg c9] at H
            have c9b0 : decide (0 < (x0_2.size : Int)) = false := decide_eq_false c9
            have c9b1 : decide (0 < x0_2.size) = false := decide_eq_false (by omega)
            clear c9
            obtain rfl := Option.some.inj H
            go_wp2
            go_ret
            exact ⟨by first | rfl | (simp; done) | (simp [*]; done) | (simp [*, q_isEmpty]; done) | (simp [*]; exact q_gt _ _ (by assumption)), by repeat (first | exact Drawn0.refl _ | apply Drawn0.step)⟩

end Go.Proofs.YtkngnoipipnioaaDoor.Q
namespace Go.Proofs.YtkngnoipipnioaaDoor.Q
open Go.RowKit Go.Proofs.YtkngnoipipnioaaDoorW.PrintWords Go.Proofs.YtkngnoipipnioaaDoorW.PrintLast Go.Proofs.YtkngnoipipnioaaDoorW.PrintMore
attribute [local go_sem] max2_int min2_int max_two min_two max_three min_three max_four min_four   -- for this text's walks alone
set_option linter.unusedVariables false
set_option linter.unusedSimpArgs false

/-! ### spec_nameEnd: function 22 -/
def spec_nameEnd.l0 : Nat → ByteArray → Int → Option (Int)
  | 0, _, _ => none
  | k + 1, x0, x3 => if x3 < (x0.size : Int) then (if 0 ≤ x3 then (if (bt x0 x3) = 95 then (spec_nameEnd.l0 k x0 (wrap64 (x3 + 1))) else (if (bt x0 x3) ≥ 97 then (if (bt x0 x3) ≤ 122 then (spec_nameEnd.l0 k x0 (wrap64 (x3 + 1))) else (if (bt x0 x3) ≥ 65 then (if (bt x0 x3) ≤ 90 then (spec_nameEnd.l0 k x0 (wrap64 (x3 + 1))) else (if x3 > 0 then (if (bt x0 x3) ≥ 48 then (if (bt x0 x3) ≤ 57 then (spec_nameEnd.l0 k x0 (wrap64 (x3 + 1))) else (some x3)) else (some x3)) else (some x3))) else (if x3 > 0 then (if (bt x0 x3) ≥ 48 then (if (bt x0 x3) ≤ 57 then (spec_nameEnd.l0 k x0 (wrap64 (x3 + 1))) else (some x3)) else (some x3)) else (some x3)))) else (if (bt x0 x3) ≥ 65 then (if (bt x0 x3) ≤ 90 then (spec_nameEnd.l0 k x0 (wrap64 (x3 + 1))) else (if x3 > 0 then (if (bt x0 x3) ≥ 48 then (if (bt x0 x3) ≤ 57 then (spec_nameEnd.l0 k x0 (wrap64 (x3 + 1))) else (some x3)) else (some x3)) else (some x3))) else (if x3 > 0 then (if (bt x0 x3) ≥ 48 then (if (bt x0 x3) ≤ 57 then (spec_nameEnd.l0 k x0 (wrap64 (x3 + 1))) else (some x3)) else (some x3)) else (some x3))))) else (none)) else (some x3)
def spec_nameEnd.f (k : Nat) (a0 : ByteArray) : Option (Int) := spec_nameEnd.l0 k a0 0
theorem spec_nameEnd.mono_l : ∀ k, (∀ y0 y1, LeO (spec_nameEnd.l0 k y0 y1) (spec_nameEnd.l0 (k + 1) y0 y1))
  | 0 => fun _ _ r h => by simp [spec_nameEnd.l0] at h
  | k + 1 => by
    have ih0 := spec_nameEnd.mono_l k
    · intro y0 y1
      unfold spec_nameEnd.l0
      repeat' first
      | (with_reducible exact ih0 _ _)
      | (with_reducible exact LeO.refl _)
      | (with_reducible exact LeO.none _)
      | (with_reducible refine LeO.ite ?_ ?_)
      | (with_reducible refine LeO.bind ?_ (fun _ => ?_))
      | exact ih0 _ _
      | exact LeO.none _
      | refine LeO.ite ?_ ?_
      | refine LeO.bind ?_ (fun _ => ?_)
theorem spec_nameEnd.mono : ∀ a0 k, LeO (spec_nameEnd.f k a0) (spec_nameEnd.f (k + 1) a0) := by
  intro a0 k
  have ih0 := spec_nameEnd.mono_l k
  unfold spec_nameEnd.f
  repeat' first
      | (with_reducible exact ih0 _ _)
      | (with_reducible exact LeO.refl _)
      | (with_reducible exact LeO.none _)
      | (with_reducible refine LeO.ite ?_ ?_)
      | (with_reducible refine LeO.bind ?_ (fun _ => ?_))
      | exact ih0 _ _
      | exact LeO.none _
      | refine LeO.ite ?_ ?_
      | refine LeO.bind ?_ (fun _ => ?_)
set_option maxHeartbeats 8000000 in
set_option maxRecDepth 100000 in
theorem spec_nameEnd.calls (k : Nat) (a0 : ByteArray) (r : Int) (w : World) (h : spec_nameEnd.f k a0 = some r) :
    Calls Tryd.prog 22 #[.string a0] w fun e w' => e = .returned (.int .i64 r) ∧ Drawn0 w w' := by
  have H : (spec_nameEnd.l0 k a0 0) = some r := h
  clear h
  have H' := Aside0.mk H
  clear H
  go_enter Tryd.func22, Tryd.ntmps22
  go_wp2
  go_loopg [3] k (fun kq v3 w' => ∃ (x3_1 : Int), v3 = .int .i64 x3_1 ∧ Aside0 (spec_nameEnd.l0 kq a0 x3_1 = some r) ∧ Aside0 (kq ≤ k) ∧ Drawn0 w w')
  case atStart => exact ⟨(0), (by first | rfl | (simp; done) | (simp [*]; done) | (simp [*, q_isEmpty]; done) | (simp [*]; exact q_gt _ _ (by assumption))), H', ⟨Nat.le_refl _⟩, by repeat (first | exact Drawn0.refl _ | apply Drawn0.step)⟩
  case round =>
    clear H'
    obtain ⟨x3_1, rfl, HA, HK1, ⟨m1, rfl⟩⟩ := hrel
    cases gk with
    | zero => exact absurd HA.out (by simp [spec_nameEnd.l0])
    | succ k1 =>
      have H := HA.out
      clear HA
      simp only [spec_nameEnd.l0] at H
      by_cases c2 : x3_1 < (a0.size : Int)
      · rw [if_pos c2] at H
        have c2b0 : decide (x3_1 < (a0.size : Int)) = true := decide_eq_true c2
        clear c2
        by_cases c3 : 0 ≤ x3_1
        · rw [if_pos c3] at H
          have c3b0 : decide (0 ≤ x3_1) = true := decide_eq_true c3
          clear c3
          by_cases c5 : (bt a0 x3_1) = 95
          · rw [if_pos c5] at H
            have c5b0 : ((bt a0 x3_1) == 95) = true := beq_iff_eq.mpr c5
            have c5b1 : ((bt a0 x3_1) != 95) = false := bne_eq_false_iff_eq.mpr c5
            clear c5
            have H' := Aside0.mk H
            clear H
            have p4 : 0 ≤ (x3_1 : Int) := of_decide_eq_true (by first | (with_reducible assumption) | assumption)
            have q4 : x3_1 < (a0.size : Int) := of_decide_eq_true (by first | (with_reducible assumption) | assumption)
            have hx4 := bt_at a0 x3_1
            replace p4 := eq_true p4
            replace q4 := eq_true q4
            go_wp2
            go_roundg k1
            case measure => have := HK1.out; omega
            case rel => exact ⟨(wrap64 (x3_1 + 1)), (by first | rfl | (simp; done) | (simp [*]; done) | (simp [*, q_isEmpty]; done) | (simp [*]; exact q_gt _ _ (by assumption))), H', ⟨by have := HK1.out; omega⟩, by repeat (first | exact Drawn0.refl _ | apply Drawn0.step)⟩
          · rw [if_neg c5] at H
            have c5b0 : ((bt a0 x3_1) == 95) = false := beq_eq_false_iff_ne.mpr c5
            have c5b1 : ((bt a0 x3_1) != 95) = true := bne_iff_ne.mpr c5
            by_cases c7 : (bt a0 x3_1) ≥ 97
            · rw [if_pos c7] at H
              have c7b0 : decide (97 ≤ (bt a0 x3_1)) = true := decide_eq_true c7
              clear c7
              by_cases c9 : (bt a0 x3_1) ≤ 122
              · rw [if_pos c9] at H
                have c9b0 : decide ((bt a0 x3_1) ≤ 122) = true := decide_eq_true c9
                clear c9
                have H' := Aside0.mk H
                clear H
                have p4 : 0 ≤ (x3_1 : Int) := of_decide_eq_true (by first | (with_reducible assumption) | assumption)
                have q4 : x3_1 < (a0.size : Int) := of_decide_eq_true (by first | (with_reducible assumption) | assumption)
                have hx4 := bt_at a0 x3_1
                replace p4 := eq_true p4
                replace q4 := eq_true q4
                have p6 : 0 ≤ (x3_1 : Int) := of_decide_eq_true (by first | (with_reducible assumption) | assumption)
                have q6 : x3_1 < (a0.size : Int) := of_decide_eq_true (by first | (with_reducible assumption) | assumption)
                have hx6 := bt_at a0 x3_1
                replace p6 := eq_true p6
                replace q6 := eq_true q6
                have p8 : 0 ≤ (x3_1 : Int) := of_decide_eq_true (by first | (with_reducible assumption) | assumption)
                have q8 : x3_1 < (a0.size : Int) := of_decide_eq_true (by first | (with_reducible assumption) | assumption)
                have hx8 := bt_at a0 x3_1
                replace p8 := eq_true p8
                replace q8 := eq_true q8
                go_wp2
                go_roundg k1
                case measure => have := HK1.out; omega
                case rel => exact ⟨(wrap64 (x3_1 + 1)), (by first | rfl | (simp; done) | (simp [*]; done) | (simp [*, q_isEmpty]; done) | (simp [*]; exact q_gt _ _ (by assumption))), H', ⟨by have := HK1.out; omega⟩, by repeat (first | exact Drawn0.refl _ | apply Drawn0.step)⟩
              · rw [if_neg c9] at H
                have c9b0 : decide ((bt a0 x3_1) ≤ 122) = false := decide_eq_false c9
                clear c9
                by_cases c11 : (bt a0 x3_1) ≥ 65
                · rw [if_pos c11] at H
                  have c11b0 : decide (65 ≤ (bt a0 x3_1)) = true := decide_eq_true c11
                  clear c11
                  by_cases c13 : (bt a0 x3_1) ≤ 90
                  · rw [if_pos c13] at H
                    have c13b0 : decide ((bt a0 x3_1) ≤ 90) = true := decide_eq_true c13
                    clear c13
                    have H' := Aside0.mk H
                    clear H
                    have p4 : 0 ≤ (x3_1 : Int) := of_decide_eq_true (by first | (with_reducible assumption) | assumption)
                    have q4 : x3_1 < (a0.size : Int) := of_decide_eq_true (by first | (with_reducible assumption) | assumption)
                    have hx4 := bt_at a0 x3_1
                    replace p4 := eq_true p4
                    replace q4 := eq_true q4
                    have p6 : 0 ≤ (x3_1 : Int) := of_decide_eq_true (by first | (with_reducible assumption) | assumption)
                    have q6 : x3_1 < (a0.size : Int) := of_decide_eq_true (by first | (with_reducible assumption) | assumption)
                    have hx6 := bt_at a0 x3_1
                    replace p6 := eq_true p6
                    replace q6 := eq_true q6
                    have p8 : 0 ≤ (x3_1 : Int) := of_decide_eq_true (by first | (with_reducible assumption) | assumption)
                    have q8 : x3_1 < (a0.size : Int) := of_decide_eq_true (by first | (with_reducible assumption) | assumption)
                    have hx8 := bt_at a0 x3_1
                    replace p8 := eq_true p8
                    replace q8 := eq_true q8
                    have p10 : 0 ≤ (x3_1 : Int) := of_decide_eq_true (by first | (with_reducible assumption) | assumption)
                    have q10 : x3_1 < (a0.size : Int) := of_decide_eq_true (by first | (with_reducible assumption) | assumption)
                    have hx10 := bt_at a0 x3_1
                    replace p10 := eq_true p10
                    replace q10 := eq_true q10
                    have p12 : 0 ≤ (x3_1 : Int) := of_decide_eq_true (by first | (with_reducible assumption) | assumption)
                    have q12 : x3_1 < (a0.size : Int) := of_decide_eq_true (by first | (with_reducible assumption) | assumption)
                    have hx12 := bt_at a0 x3_1
                    replace p12 := eq_true p12
                    replace q12 := eq_true q12
                    go_wp2
                    go_roundg k1
                    case measure => have := HK1.out; omega
                    case rel => exact ⟨(wrap64 (x3_1 + 1)), (by first | rfl | (simp; done) | (simp [*]; done) | (simp [*, q_isEmpty]; done) | (simp [*]; exact q_gt _ _ (by assumption))), H', ⟨by have := HK1.out; omega⟩, by repeat (first | exact Drawn0.refl _ | apply Drawn0.step)⟩
                  · rw [if_neg c13] at H
                    have c13b0 : decide ((bt a0 x3_1) ≤ 90) = false := decide_eq_false c13
                    clear c13
                    by_cases c14 : x3_1 > 0
                    · rw [if_pos c14] at H
                      have c14b0 : decide (0 < x3_1) = true := decide_eq_true c14
                      clear c14
                      by_cases c16 : (bt a0 x3_1) ≥ 48
                      · rw [if_pos c16] at H
                        have c16b0 : decide (48 ≤ (bt a0 x3_1)) = true := decide_eq_true c16
                        clear c16
                        by_cases c18 : (bt a0 x3_1) ≤ 57
                        · rw [if_pos c18] at H
                          have c18b0 : decide ((bt a0 x3_1) ≤ 57) = true := decide_eq_true c18
                          clear c18
                          have H' := Aside0.mk H
                          clear H
                          have p4 : 0 ≤ (x3_1 : Int) := of_decide_eq_true (by first | (with_reducible assumption) | assumption)
                          have q4 : x3_1 < (a0.size : Int) := of_decide_eq_true (by first | (with_reducible assumption) | assumption)
                          have hx4 := bt_at a0 x3_1
                          replace p4 := eq_true p4
                          replace q4 := eq_true q4
                          have p6 : 0 ≤ (x3_1 : Int) := of_decide_eq_true (by first | (with_reducible assumption) | assumption)
                          have q6 : x3_1 < (a0.size : Int) := of_decide_eq_true (by first | (with_reducible assumption) | assumption)
                          have hx6 := bt_at a0 x3_1
                          replace p6 := eq_true p6
                          replace q6 := eq_true q6
                          have p8 : 0 ≤ (x3_1 : Int) := of_decide_eq_true (by first | (with_reducible assumption) | assumption)
                          have q8 : x3_1 < (a0.size : Int) := of_decide_eq_true (by first | (with_reducible assumption) | assumption)
                          have hx8 := bt_at a0 x3_1
                          replace p8 := eq_true p8
                          replace q8 := eq_true q8
                          have p10 : 0 ≤ (x3_1 : Int) := of_decide_eq_true (by first | (with_reducible assumption) | assumption)
                          have q10 : x3_1 < (a0.size : Int) := of_decide_eq_true (by first | (with_reducible assumption) | assumption)
                          have hx10 := bt_at a0 x3_1
                          replace p10 := eq_true p10
                          replace q10 := eq_true q10
                          have p12 : 0 ≤ (x3_1 : Int) := of_decide_eq_true (by first | (with_reducible assumption) | assumption)
                          have q12 : x3_1 < (a0.size : Int) := of_decide_eq_true (by first | (with_reducible assumption) | assumption)
                          have hx12 := bt_at a0 x3_1
                          replace p12 := eq_true p12
                          replace q12 := eq_true q12
                          have p15 : 0 ≤ (x3_1 : Int) := of_decide_eq_true (by first | (with_reducible assumption) | assumption)
                          have q15 : x3_1 < (a0.size : Int) := of_decide_eq_true (by first | (with_reducible assumption) | assumption)
                          have hx15 := bt_at a0 x3_1
                          replace p15 := eq_true p15
                          replace q15 := eq_true q15
                          have p17 : 0 ≤ (x3_1 : Int) := of_decide_eq_true (by first | (with_reducible assumption) | assumption)
                          have q17 : x3_1 < (a0.size : Int) := of_decide_eq_true (by first | (with_reducible assumption) | assumption)
                          have hx17 := bt_at a0 x3_1
                          replace p17 := eq_true p17
                          replace q17 := eq_true q17
                          go_wp2
                          go_roundg k1
                          case measure => have := HK1.out; omega
                          case rel => exact ⟨(wrap64 (x3_1 + 1)), (by first | rfl | (simp; done) | (simp [*]; done) | (simp [*, q_isEmpty]; done) | (simp [*]; exact q_gt _ _ (by assumption))), H', ⟨by have := HK1.out; omega⟩, by repeat (first | exact Drawn0.refl _ | apply Drawn0.step)⟩
                        · rw [if_neg c18] at H
                          have c18b0 : decide ((bt a0 x3_1) ≤ 57) = false := decide_eq_false c18
                          clear c18
                          obtain rfl := Option.some.inj H
                          have p4 : 0 ≤ (x3_1 : Int) := of_decide_eq_true (by first | (with_reducible assumption) | assumption)
                          have q4 : x3_1 < (a0.size : Int) := of_decide_eq_true (by first | (with_reducible assumption) | assumption)
                          have hx4 := bt_at a0 x3_1
                          replace p4 := eq_true p4
                          replace q4 := eq_true q4
                          have p6 : 0 ≤ (x3_1 : Int) := of_decide_eq_true (by first | (with_reducible assumption) | assumption)
                          have q6 : x3_1 < (a0.size : Int) := of_decide_eq_true (by first | (with_reducible assumption) | assumption)
                          have hx6 := bt_at a0 x3_1
                          replace p6 := eq_true p6
                          replace q6 := eq_true q6
                          have p8 : 0 ≤ (x3_1 : Int) := of_decide_eq_true (by first | (with_reducible assumption) | assumption)
                          have q8 : x3_1 < (a0.size : Int) := of_decide_eq_true (by first | (with_reducible assumption) | assumption)
                          have hx8 := bt_at a0 x3_1
                          replace p8 := eq_true p8
                          replace q8 := eq_true q8
                          have p10 : 0 ≤ (x3_1 : Int) := of_decide_eq_true (by first | (with_reducible assumption) | assumption)
                          have q10 : x3_1 < (a0.size : Int) := of_decide_eq_true (by first | (with_reducible assumption) | assumption)
                          have hx10 := bt_at a0 x3_1
                          replace p10 := eq_true p10
                          replace q10 := eq_true q10
                          have p12 : 0 ≤ (x3_1 : Int) := of_decide_eq_true (by first | (with_reducible assumption) | assumption)
                          have q12 : x3_1 < (a0.size : Int) := of_decide_eq_true (by first | (with_reducible assumption) | assumption)
                          have hx12 := bt_at a0 x3_1
                          replace p12 := eq_true p12
                          replace q12 := eq_true q12
                          have p15 : 0 ≤ (x3_1 : Int) := of_decide_eq_true (by first | (with_reducible assumption) | assumption)
                          have q15 : x3_1 < (a0.size : Int) := of_decide_eq_true (by first | (with_reducible assumption) | assumption)
                          have hx15 := bt_at a0 x3_1
                          replace p15 := eq_true p15
                          replace q15 := eq_true q15
                          have p17 : 0 ≤ (x3_1 : Int) := of_decide_eq_true (by first | (with_reducible assumption) | assumption)
                          have q17 : x3_1 < (a0.size : Int) := of_decide_eq_true (by first | (with_reducible assumption) | assumption)
                          have hx17 := bt_at a0 x3_1
                          replace p17 := eq_true p17
                          replace q17 := eq_true q17
                          go_wp2
                          go_ret
                          exact ⟨by first | rfl | (simp; done) | (simp [*]; done) | (simp [*, q_isEmpty]; done) | (simp [*]; exact q_gt _ _ (by assumption)), by repeat (first | exact Drawn0.refl _ | apply Drawn0.step)⟩
                      · rw [if_neg c16] at H
                        have c16b0 : decide (48 ≤ (bt a0 x3_1)) = false := decide_eq_false c16
                        clear c16
                        obtain rfl := Option.some.inj H
                        have p4 : 0 ≤ (x3_1 : Int) := of_decide_eq_true (by first | (with_reducible assumption) | assumption)
                        have q4 : x3_1 < (a0.size : Int) := of_decide_eq_true (by first | (with_reducible assumption) | assumption)
                        have hx4 := bt_at a0 x3_1
                        replace p4 := eq_true p4
                        replace q4 := eq_true q4
                        have p6 : 0 ≤ (x3_1 : Int) := of_decide_eq_true (by first | (with_reducible assumption) | assumption)
                        have q6 : x3_1 < (a0.size : Int) := of_decide_eq_true (by first | (with_reducible assumption) | assumption)
                        have hx6 := bt_at a0 x3_1
                        replace p6 := eq_true p6
                        replace q6 := eq_true q6
                        have p8 : 0 ≤ (x3_1 : Int) := of_decide_eq_true (by first | (with_reducible assumption) | assumption)
                        have q8 : x3_1 < (a0.size : Int) := of_decide_eq_true (by first | (with_reducible assumption) | assumption)
                        have hx8 := bt_at a0 x3_1
                        replace p8 := eq_true p8
                        replace q8 := eq_true q8
                        have p10 : 0 ≤ (x3_1 : Int) := of_decide_eq_true (by first | (with_reducible assumption) | assumption)
                        have q10 : x3_1 < (a0.size : Int) := of_decide_eq_true (by first | (with_reducible assumption) | assumption)
                        have hx10 := bt_at a0 x3_1
                        replace p10 := eq_true p10
                        replace q10 := eq_true q10
                        have p12 : 0 ≤ (x3_1 : Int) := of_decide_eq_true (by first | (with_reducible assumption) | assumption)
                        have q12 : x3_1 < (a0.size : Int) := of_decide_eq_true (by first | (with_reducible assumption) | assumption)
                        have hx12 := bt_at a0 x3_1
                        replace p12 := eq_true p12
                        replace q12 := eq_true q12
                        have p15 : 0 ≤ (x3_1 : Int) := of_decide_eq_true (by first | (with_reducible assumption) | assumption)
                        have q15 : x3_1 < (a0.size : Int) := of_decide_eq_true (by first | (with_reducible assumption) | assumption)
                        have hx15 := bt_at a0 x3_1
                        replace p15 := eq_true p15
                        replace q15 := eq_true q15
                        go_wp2
                        go_ret
                        exact ⟨by first | rfl | (simp; done) | (simp [*]; done) | (simp [*, q_isEmpty]; done) | (simp [*]; exact q_gt _ _ (by assumption)), by repeat (first | exact Drawn0.refl _ | apply Drawn0.step)⟩
                    · rw [if_neg c14] at H
                      have c14b0 : decide (0 < x3_1) = false := decide_eq_false c14
                      clear c14
                      obtain rfl := Option.some.inj H
                      have p4 : 0 ≤ (x3_1 : Int) := of_decide_eq_true (by first | (with_reducible assumption) | assumption)
                      have q4 : x3_1 < (a0.size : Int) := of_decide_eq_true (by first | (with_reducible assumption) | assumption)
                      have hx4 := bt_at a0 x3_1
                      replace p4 := eq_true p4
                      replace q4 := eq_true q4
                      have p6 : 0 ≤ (x3_1 : Int) := of_decide_eq_true (by first | (with_reducible assumption) | assumption)
                      have q6 : x3_1 < (a0.size : Int) := of_decide_eq_true (by first | (with_reducible assumption) | assumption)
                      have hx6 := bt_at a0 x3_1
                      replace p6 := eq_true p6
                      replace q6 := eq_true q6
                      have p8 : 0 ≤ (x3_1 : Int) := of_decide_eq_true (by first | (with_reducible assumption) | assumption)
                      have q8 : x3_1 < (a0.size : Int) := of_decide_eq_true (by first | (with_reducible assumption) | assumption)
                      have hx8 := bt_at a0 x3_1
                      replace p8 := eq_true p8
                      replace q8 := eq_true q8
                      have p10 : 0 ≤ (x3_1 : Int) := of_decide_eq_true (by first | (with_reducible assumption) | assumption)
                      have q10 : x3_1 < (a0.size : Int) := of_decide_eq_true (by first | (with_reducible assumption) | assumption)
                      have hx10 := bt_at a0 x3_1
                      replace p10 := eq_true p10
                      replace q10 := eq_true q10
                      have p12 : 0 ≤ (x3_1 : Int) := of_decide_eq_true (by first | (with_reducible assumption) | assumption)
                      have q12 : x3_1 < (a0.size : Int) := of_decide_eq_true (by first | (with_reducible assumption) | assumption)
                      have hx12 := bt_at a0 x3_1
                      replace p12 := eq_true p12
                      replace q12 := eq_true q12
                      go_wp2
                      go_ret
                      exact ⟨by first | rfl | (simp; done) | (simp [*]; done) | (simp [*, q_isEmpty]; done) | (simp [*]; exact q_gt _ _ (by assumption)), by repeat (first | exact Drawn0.refl _ | apply Drawn0.step)⟩
                · rw [if_neg c11] at H
                  have c11b0 : decide (65 ≤ (bt a0 x3_1)) = false := decide_eq_false c11
                  clear c11
                  by_cases c19 : x3_1 > 0
                  · rw [if_pos c19] at H
                    have c19b0 : decide (0 < x3_1) = true := decide_eq_true c19
                    clear c19
                    by_cases c21 : (bt a0 x3_1) ≥ 48
                    · rw [if_pos c21] at H
                      have c21b0 : decide (48 ≤ (bt a0 x3_1)) = true := decide_eq_true c21
                      clear c21
                      by_cases c23 : (bt a0 x3_1) ≤ 57
                      · rw [if_pos c23] at H
                        have c23b0 : decide ((bt a0 x3_1) ≤ 57) = true := decide_eq_true c23
                        clear c23
                        have H' := Aside0.mk H
                        clear H
                        have p4 : 0 ≤ (x3_1 : Int) := of_decide_eq_true (by first | (with_reducible assumption) | assumption)
                        have q4 : x3_1 < (a0.size : Int) := of_decide_eq_true (by first | (with_reducible assumption) | assumption)
                        have hx4 := bt_at a0 x3_1
                        replace p4 := eq_true p4
                        replace q4 := eq_true q4
                        have p6 : 0 ≤ (x3_1 : Int) := of_decide_eq_true (by first | (with_reducible assumption) | assumption)
                        have q6 : x3_1 < (a0.size : Int) := of_decide_eq_true (by first | (with_reducible assumption) | assumption)
                        have hx6 := bt_at a0 x3_1
                        replace p6 := eq_true p6
                        replace q6 := eq_true q6
                        have p8 : 0 ≤ (x3_1 : Int) := of_decide_eq_true (by first | (with_reducible assumption) | assumption)
                        have q8 : x3_1 < (a0.size : Int) := of_decide_eq_true (by first | (with_reducible assumption) | assumption)
                        have hx8 := bt_at a0 x3_1
                        replace p8 := eq_true p8
                        replace q8 := eq_true q8
                        have p10 : 0 ≤ (x3_1 : Int) := of_decide_eq_true (by first | (with_reducible assumption) | assumption)
                        have q10 : x3_1 < (a0.size : Int) := of_decide_eq_true (by first | (with_reducible assumption) | assumption)
                        have hx10 := bt_at a0 x3_1
                        replace p10 := eq_true p10
                        replace q10 := eq_true q10
                        have p20 : 0 ≤ (x3_1 : Int) := of_decide_eq_true (by first | (with_reducible assumption) | assumption)
                        have q20 : x3_1 < (a0.size : Int) := of_decide_eq_true (by first | (with_reducible assumption) | assumption)
                        have hx20 := bt_at a0 x3_1
                        replace p20 := eq_true p20
                        replace q20 := eq_true q20
                        have p22 : 0 ≤ (x3_1 : Int) := of_decide_eq_true (by first | (with_reducible assumption) | assumption)
                        have q22 : x3_1 < (a0.size : Int) := of_decide_eq_true (by first | (with_reducible assumption) | assumption)
                        have hx22 := bt_at a0 x3_1
                        replace p22 := eq_true p22
                        replace q22 := eq_true q22
                        go_wp2
                        go_roundg k1
                        case measure => have := HK1.out; omega
                        case rel => exact ⟨(wrap64 (x3_1 + 1)), (by first | rfl | (simp; done) | (simp [*]; done) | (simp [*, q_isEmpty]; done) | (simp [*]; exact q_gt _ _ (by assumption))), H', ⟨by have := HK1.out; omega⟩, by repeat (first | exact Drawn0.refl _ | apply Drawn0.step)⟩
                      · rw [if_neg c23] at H
                        have c23b0 : decide ((bt a0 x3_1) ≤ 57) = false := decide_eq_false c23
                        clear c23
                        obtain rfl := Option.some.inj H
                        have p4 : 0 ≤ (x3_1 : Int) := of_decide_eq_true (by first | (with_reducible assumption) | assumption)
                        have q4 : x3_1 < (a0.size : Int) := of_decide_eq_true (by first | (with_reducible assumption) | assumption)
                        have hx4 := bt_at a0 x3_1
                        replace p4 := eq_true p4
                        replace q4 := eq_true q4
                        have p6 : 0 ≤ (x3_1 : Int) := of_decide_eq_true (by first | (with_reducible assumption) | assumption)
                        have q6 : x3_1 < (a0.size : Int) := of_decide_eq_true (by first | (with_reducible assumption) | assumption)
                        have hx6 := bt_at a0 x3_1
                        replace p6 := eq_true p6
                        replace q6 := eq_true q6
                        have p8 : 0 ≤ (x3_1 : Int) := of_decide_eq_true (by first | (with_reducible assumption) | assumption)
                        have q8 : x3_1 < (a0.size : Int) := of_decide_eq_true (by first | (with_reducible assumption) | assumption)
                        have hx8 := bt_at a0 x3_1
                        replace p8 := eq_true p8
                        replace q8 := eq_true q8
                        have p10 : 0 ≤ (x3_1 : Int) := of_decide_eq_true (by first | (with_reducible assumption) | assumption)
                        have q10 : x3_1 < (a0.size : Int) := of_decide_eq_true (by first | (with_reducible assumption) | assumption)
                        have hx10 := bt_at a0 x3_1
                        replace p10 := eq_true p10
                        replace q10 := eq_true q10
                        have p20 : 0 ≤ (x3_1 : Int) := of_decide_eq_true (by first | (with_reducible assumption) | assumption)
                        have q20 : x3_1 < (a0.size : Int) := of_decide_eq_true (by first | (with_reducible assumption) | assumption)
                        have hx20 := bt_at a0 x3_1
                        replace p20 := eq_true p20
                        replace q20 := eq_true q20
                        have p22 : 0 ≤ (x3_1 : Int) := of_decide_eq_true (by first | (with_reducible assumption) | assumption)
                        have q22 : x3_1 < (a0.size : Int) := of_decide_eq_true (by first | (with_reducible assumption) | assumption)
                        have hx22 := bt_at a0 x3_1
                        replace p22 := eq_true p22
                        replace q22 := eq_true q22
                        go_wp2
                        go_ret
                        exact ⟨by first | rfl | (simp; done) | (simp [*]; done) | (simp [*, q_isEmpty]; done) | (simp [*]; exact q_gt _ _ (by assumption)), by repeat (first | exact Drawn0.refl _ | apply Drawn0.step)⟩
                    · rw [if_neg c21] at H
                      have c21b0 : decide (48 ≤ (bt a0 x3_1)) = false := decide_eq_false c21
                      clear c21
                      obtain rfl := Option.some.inj H
                      have p4 : 0 ≤ (x3_1 : Int) := of_decide_eq_true (by first | (with_reducible assumption) | assumption)
                      have q4 : x3_1 < (a0.size : Int) := of_decide_eq_true (by first | (with_reducible assumption) | assumption)
                      have hx4 := bt_at a0 x3_1
                      replace p4 := eq_true p4
                      replace q4 := eq_true q4
                      have p6 : 0 ≤ (x3_1 : Int) := of_decide_eq_true (by first | (with_reducible assumption) | assumption)
                      have q6 : x3_1 < (a0.size : Int) := of_decide_eq_true (by first | (with_reducible assumption) | assumption)
                      have hx6 := bt_at a0 x3_1
                      replace p6 := eq_true p6
                      replace q6 := eq_true q6
                      have p8 : 0 ≤ (x3_1 : Int) := of_decide_eq_true (by first | (with_reducible assumption) | assumption)
                      have q8 : x3_1 < (a0.size : Int) := of_decide_eq_true (by first | (with_reducible assumption) | assumption)
                      have hx8 := bt_at a0 x3_1
                      replace p8 := eq_true p8
                      replace q8 := eq_true q8
                      have p10 : 0 ≤ (x3_1 : Int) := of_decide_eq_true (by first | (with_reducible assumption) | assumption)
                      have q10 : x3_1 < (a0.size : Int) := of_decide_eq_true (by first | (with_reducible assumption) | assumption)
                      have hx10 := bt_at a0 x3_1
                      replace p10 := eq_true p10
                      replace q10 := eq_true q10
                      have p20 : 0 ≤ (x3_1 : Int) := of_decide_eq_true (by first | (with_reducible assumption) | assumption)
                      have q20 : x3_1 < (a0.size : Int) := of_decide_eq_true (by first | (with_reducible assumption) | assumption)
                      have hx20 := bt_at a0 x3_1
                      replace p20 := eq_true p20
                      replace q20 := eq_true q20
                      go_wp2
                      go_ret
                      exact ⟨by first | rfl | (simp; done) | (simp [*]; done) | (simp [*, q_isEmpty]; done) | (simp [*]; exact q_gt _ _ (by assumption)), by repeat (first | exact Drawn0.refl _ | apply Drawn0.step)⟩
                  · rw [if_neg c19] at H
                    have c19b0 : decide (0 < x3_1) = false := decide_eq_false c19
                    clear c19
                    obtain rfl := Option.some.inj H
                    have p4 : 0 ≤ (x3_1 : Int) := of_decide_eq_true (by first | (with_reducible assumption) | assumption)
                    have q4 : x3_1 < (a0.size : Int) := of_decide_eq_true (by first | (with_reducible assumption) | assumption)
                    have hx4 := bt_at a0 x3_1
                    replace p4 := eq_true p4
                    replace q4 := eq_true q4
                    have p6 : 0 ≤ (x3_1 : Int) := of_decide_eq_true (by first | (with_reducible assumption) | assumption)
                    have q6 : x3_1 < (a0.size : Int) := of_decide_eq_true (by first | (with_reducible assumption) | assumption)
                    have hx6 := bt_at a0 x3_1
                    replace p6 := eq_true p6
                    replace q6 := eq_true q6
                    have p8 : 0 ≤ (x3_1 : Int) := of_decide_eq_true (by first | (with_reducible assumption) | assumption)
                    have q8 : x3_1 < (a0.size : Int) := of_decide_eq_true (by first | (with_reducible assumption) | assumption)
                    have hx8 := bt_at a0 x3_1
                    replace p8 := eq_true p8
                    replace q8 := eq_true q8
                    have p10 : 0 ≤ (x3_1 : Int) := of_decide_eq_true (by first | (with_reducible assumption) | assumption)
                    have q10 : x3_1 < (a0.size : Int) := of_decide_eq_true (by first | (with_reducible assumption) | assumption)
                    have hx10 := bt_at a0 x3_1
                    replace p10 := eq_true p10
                    replace q10 := eq_true q10
                    go_wp2
                    go_ret
                    exact ⟨by first | rfl | (simp; done) | (simp [*]; done) | (simp [*, q_isEmpty]; done) | (simp [*]; exact q_gt _ _ (by assumption)), by repeat (first | exact Drawn0.refl _ | apply Drawn0.step)⟩
            · rw [if_neg c7] at H
              have c7b0 : decide (97 ≤ (bt a0 x3_1)) = false := decide_eq_false c7
              clear c7
              by_cases c25 : (bt a0 x3_1) ≥ 65
              · rw [if_pos c25] at H
                have c25b0 : decide (65 ≤ (bt a0 x3_1)) = true := decide_eq_true c25
                clear c25
                by_cases c27 : (bt a0 x3_1) ≤ 90
                · rw [if_pos c27] at H
                  have c27b0 : decide ((bt a0 x3_1) ≤ 90) = true := decide_eq_true c27
                  clear c27
                  have H' := Aside0.mk H
                  clear H
                  have p4 : 0 ≤ (x3_1 : Int) := of_decide_eq_true (by first | (with_reducible assumption) | assumption)
                  have q4 : x3_1 < (a0.size : Int) := of_decide_eq_true (by first | (with_reducible assumption) | assumption)
                  have hx4 := bt_at a0 x3_1
                  replace p4 := eq_true p4
                  replace q4 := eq_true q4
                  have p6 : 0 ≤ (x3_1 : Int) := of_decide_eq_true (by first | (with_reducible assumption) | assumption)
                  have q6 : x3_1 < (a0.size : Int) := of_decide_eq_true (by first | (with_reducible assumption) | assumption)
                  have hx6 := bt_at a0 x3_1
                  replace p6 := eq_true p6
                  replace q6 := eq_true q6
                  have p24 : 0 ≤ (x3_1 : Int) := of_decide_eq_true (by first | (with_reducible assumption) | assumption)
                  have q24 : x3_1 < (a0.size : Int) := of_decide_eq_true (by first | (with_reducible assumption) | assumption)
                  have hx24 := bt_at a0 x3_1
                  replace p24 := eq_true p24
                  replace q24 := eq_true q24
                  have p26 : 0 ≤ (x3_1 : Int) := of_decide_eq_true (by first | (with_reducible assumption) | assumption)
                  have q26 : x3_1 < (a0.size : Int) := of_decide_eq_true (by first | (with_reducible assumption) | assumption)
                  have hx26 := bt_at a0 x3_1
                  replace p26 := eq_true p26
                  replace q26 := eq_true q26
                  go_wp2
                  go_roundg k1
                  case measure => have := HK1.out; omega
                  case rel => exact ⟨(wrap64 (x3_1 + 1)), (by first | rfl | (simp; done) | (simp [*]; done) | (simp [*, q_isEmpty]; done) | (simp [*]; exact q_gt _ _ (by assumption))), H', ⟨by have := HK1.out; omega⟩, by repeat (first | exact Drawn0.refl _ | apply Drawn0.step)⟩
                · rw [if_neg c27] at H
                  have c27b0 : decide ((bt a0 x3_1) ≤ 90) = false := decide_eq_false c27
                  clear c27
                  by_cases c28 : x3_1 > 0
                  · rw [if_pos c28] at H
                    have c28b0 : decide (0 < x3_1) = true := decide_eq_true c28
                    clear c28
                    by_cases c30 : (bt a0 x3_1) ≥ 48
                    · rw [if_pos c30] at H
                      have c30b0 : decide (48 ≤ (bt a0 x3_1)) = true := decide_eq_true c30
                      clear c30
                      by_cases c32 : (bt a0 x3_1) ≤ 57
                      · rw [if_pos c32] at H
                        have c32b0 : decide ((bt a0 x3_1) ≤ 57) = true := decide_eq_true c32
                        clear c32
                        have H' := Aside0.mk H
                        clear H
                        have p4 : 0 ≤ (x3_1 : Int) := of_decide_eq_true (by first | (with_reducible assumption) | assumption)
                        have q4 : x3_1 < (a0.size : Int) := of_decide_eq_true (by first | (with_reducible assumption) | assumption)
                        have hx4 := bt_at a0 x3_1
                        replace p4 := eq_true p4
                        replace q4 := eq_true q4
                        have p6 : 0 ≤ (x3_1 : Int) := of_decide_eq_true (by first | (with_reducible assumption) | assumption)
                        have q6 : x3_1 < (a0.size : Int) := of_decide_eq_true (by first | (with_reducible assumption) | assumption)
                        have hx6 := bt_at a0 x3_1
                        replace p6 := eq_true p6
                        replace q6 := eq_true q6
                        have p24 : 0 ≤ (x3_1 : Int) := of_decide_eq_true (by first | (with_reducible assumption) | assumption)
                        have q24 : x3_1 < (a0.size : Int) := of_decide_eq_true (by first | (with_reducible assumption) | assumption)
                        have hx24 := bt_at a0 x3_1
                        replace p24 := eq_true p24
                        replace q24 := eq_true q24
                        have p26 : 0 ≤ (x3_1 : Int) := of_decide_eq_true (by first | (with_reducible assumption) | assumption)
                        have q26 : x3_1 < (a0.size : Int) := of_decide_eq_true (by first | (with_reducible assumption) | assumption)
                        have hx26 := bt_at a0 x3_1
                        replace p26 := eq_true p26
                        replace q26 := eq_true q26
                        have p29 : 0 ≤ (x3_1 : Int) := of_decide_eq_true (by first | (with_reducible assumption) | assumption)
                        have q29 : x3_1 < (a0.size : Int) := of_decide_eq_true (by first | (with_reducible assumption) | assumption)
                        have hx29 := bt_at a0 x3_1
                        replace p29 := eq_true p29
                        replace q29 := eq_true q29
                        have p31 : 0 ≤ (x3_1 : Int) := of_decide_eq_true (by first | (with_reducible assumption) | assumption)
                        have q31 : x3_1 < (a0.size : Int) := of_decide_eq_true (by first | (with_reducible assumption) | assumption)
                        have hx31 := bt_at a0 x3_1
                        replace p31 := eq_true p31
                        replace q31 := eq_true q31
                        go_wp2
                        go_roundg k1
                        case measure => have := HK1.out; omega
                        case rel => exact ⟨(wrap64 (x3_1 + 1)), (by first | rfl | (simp; done) | (simp [*]; done) | (simp [*, q_isEmpty]; done) | (simp [*]; exact q_gt _ _ (by assumption))), H', ⟨by have := HK1.out; omega⟩, by repeat (first | exact Drawn0.refl _ | apply Drawn0.step)⟩
                      · rw [if_neg c32] at H
                        have c32b0 : decide ((bt a0 x3_1) ≤ 57) = false := decide_eq_false c32
                        clear c32
                        obtain rfl := Option.some.inj H
                        have p4 : 0 ≤ (x3_1 : Int) := of_decide_eq_true (by first | (with_reducible assumption) | assumption)
                        have q4 : x3_1 < (a0.size : Int) := of_decide_eq_true (by first | (with_reducible assumption) | assumption)
                        have hx4 := bt_at a0 x3_1
                        replace p4 := eq_true p4
                        replace q4 := eq_true q4
                        have p6 : 0 ≤ (x3_1 : Int) := of_decide_eq_true (by first | (with_reducible assumption) | assumption)
                        have q6 : x3_1 < (a0.size : Int) := of_decide_eq_true (by first | (with_reducible assumption) | assumption)
                        have hx6 := bt_at a0 x3_1
                        replace p6 := eq_true p6
                        replace q6 := eq_true q6
                        have p24 : 0 ≤ (x3_1 : Int) := of_decide_eq_true (by first | (with_reducible assumption) | assumption)
                        have q24 : x3_1 < (a0.size : Int) := of_decide_eq_true (by first | (with_reducible assumption) | assumption)
                        have hx24 := bt_at a0 x3_1
                        replace p24 := eq_true p24
                        replace q24 := eq_true q24
                        have p26 : 0 ≤ (x3_1 : Int) := of_decide_eq_true (by first | (with_reducible assumption) | assumption)
                        have q26 : x3_1 < (a0.size : Int) := of_decide_eq_true (by first | (with_reducible assumption) | assumption)
                        have hx26 := bt_at a0 x3_1
                        replace p26 := eq_true p26
                        replace q26 := eq_true q26
                        have p29 : 0 ≤ (x3_1 : Int) := of_decide_eq_true (by first | (with_reducible assumption) | assumption)
                        have q29 : x3_1 < (a0.size : Int) := of_decide_eq_true (by first | (with_reducible assumption) | assumption)
                        have hx29 := bt_at a0 x3_1
                        replace p29 := eq_true p29
                        replace q29 := eq_true q29
                        have p31 : 0 ≤ (x3_1 : Int) := of_decide_eq_true (by first | (with_reducible assumption) | assumption)
                        have q31 : x3_1 < (a0.size : Int) := of_decide_eq_true (by first | (with_reducible assumption) | assumption)
                        have hx31 := bt_at a0 x3_1
                        replace p31 := eq_true p31
                        replace q31 := eq_true q31
                        go_wp2
                        go_ret
                        exact ⟨by first | rfl | (simp; done) | (simp [*]; done) | (simp [*, q_isEmpty]; done) | (simp [*]; exact q_gt _ _ (by assumption)), by repeat (first | exact Drawn0.refl _ | apply Drawn0.step)⟩
                    · rw [if_neg c30] at H
                      have c30b0 : decide (48 ≤ (bt a0 x3_1)) = false := decide_eq_false c30
                      clear c30
                      obtain rfl := Option.some.inj H
                      have p4 : 0 ≤ (x3_1 : Int) := of_decide_eq_true (by first | (with_reducible assumption) | assumption)
                      have q4 : x3_1 < (a0.size : Int) := of_decide_eq_true (by first | (with_reducible assumption) | assumption)
                      have hx4 := bt_at a0 x3_1
                      replace p4 := eq_true p4
                      replace q4 := eq_true q4
                      have p6 : 0 ≤ (x3_1 : Int) := of_decide_eq_true (by first | (with_reducible assumption) | assumption)
                      have q6 : x3_1 < (a0.size : Int) := of_decide_eq_true (by first | (with_reducible assumption) | assumption)
                      have hx6 := bt_at a0 x3_1
                      replace p6 := eq_true p6
                      replace q6 := eq_true q6
                      have p24 : 0 ≤ (x3_1 : Int) := of_decide_eq_true (by first | (with_reducible assumption) | assumption)
                      have q24 : x3_1 < (a0.size : Int) := of_decide_eq_true (by first | (with_reducible assumption) | assumption)
                      have hx24 := bt_at a0 x3_1
                      replace p24 := eq_true p24
                      replace q24 := eq_true q24
                      have p26 : 0 ≤ (x3_1 : Int) := of_decide_eq_true (by first | (with_reducible assumption) | assumption)
                      have q26 : x3_1 < (a0.size : Int) := of_decide_eq_true (by first | (with_reducible assumption) | assumption)
                      have hx26 := bt_at a0 x3_1
                      replace p26 := eq_true p26
                      replace q26 := eq_true q26
                      have p29 : 0 ≤ (x3_1 : Int) := of_decide_eq_true (by first | (with_reducible assumption) | assumption)
                      have q29 : x3_1 < (a0.size : Int) := of_decide_eq_true (by first | (with_reducible assumption) | assumption)
                      have hx29 := bt_at a0 x3_1
                      replace p29 := eq_true p29
                      replace q29 := eq_true q29
                      go_wp2
                      go_ret
                      exact ⟨by first | rfl | (simp; done) | (simp [*]; done) | (simp [*, q_isEmpty]; done) | (simp [*]; exact q_gt _ _ (by assumption)), by repeat (first | exact Drawn0.refl _ | apply Drawn0.step)⟩
                  · rw [if_neg c28] at H
                    have c28b0 : decide (0 < x3_1) = false := decide_eq_false c28
                    clear c28
                    obtain rfl := Option.some.inj H
                    have p4 : 0 ≤ (x3_1 : Int) := of_decide_eq_true (by first | (with_reducible assumption) | assumption)
                    have q4 : x3_1 < (a0.size : Int) := of_decide_eq_true (by first | (with_reducible assumption) | assumption)
                    have hx4 := bt_at a0 x3_1
                    replace p4 := eq_true p4
                    replace q4 := eq_true q4
                    have p6 : 0 ≤ (x3_1 : Int) := of_decide_eq_true (by first | (with_reducible assumption) | assumption)
                    have q6 : x3_1 < (a0.size : Int) := of_decide_eq_true (by first | (with_reducible assumption) | assumption)
                    have hx6 := bt_at a0 x3_1
                    replace p6 := eq_true p6
                    replace q6 := eq_true q6
                    have p24 : 0 ≤ (x3_1 : Int) := of_decide_eq_true (by first | (with_reducible assumption) | assumption)
                    have q24 : x3_1 < (a0.size : Int) := of_decide_eq_true (by first | (with_reducible assumption) | assumption)
                    have hx24 := bt_at a0 x3_1
                    replace p24 := eq_true p24
                    replace q24 := eq_true q24
                    have p26 : 0 ≤ (x3_1 : Int) := of_decide_eq_true (by first | (with_reducible assumption) | assumption)
                    have q26 : x3_1 < (a0.size : Int) := of_decide_eq_true (by first | (with_reducible assumption) | assumption)
                    have hx26 := bt_at a0 x3_1
                    replace p26 := eq_true p26
                    replace q26 := eq_true q26
                    go_wp2
                    go_ret
                    exact ⟨by first | rfl | (simp; done) | (simp [*]; done) | (simp [*, q_isEmpty]; done) | (simp [*]; exact q_gt _ _ (by assumption)), by repeat (first | exact Drawn0.refl _ | apply Drawn0.step)⟩
              · rw [if_neg c25] at H
                have c25b0 : decide (65 ≤ (bt a0 x3_1)) = false := decide_eq_false c25
                clear c25
                by_cases c33 : x3_1 > 0
                · rw [if_pos c33] at H
                  have c33b0 : decide (0 < x3_1) = true := decide_eq_true c33
                  clear c33
                  by_cases c35 : (bt a0 x3_1) ≥ 48
                  · rw [if_pos c35] at H
                    have c35b0 : decide (48 ≤ (bt a0 x3_1)) = true := decide_eq_true c35
                    clear c35
                    by_cases c37 : (bt a0 x3_1) ≤ 57
                    · rw [if_pos c37] at H
                      have c37b0 : decide ((bt a0 x3_1) ≤ 57) = true := decide_eq_true c37
                      clear c37
                      have H' := Aside0.mk H
                      clear H
                      have p4 : 0 ≤ (x3_1 : Int) := of_decide_eq_true (by first | (with_reducible assumption) | assumption)
                      have q4 : x3_1 < (a0.size : Int) := of_decide_eq_true (by first | (with_reducible assumption) | assumption)
                      have hx4 := bt_at a0 x3_1
                      replace p4 := eq_true p4
                      replace q4 := eq_true q4
                      have p6 : 0 ≤ (x3_1 : Int) := of_decide_eq_true (by first | (with_reducible assumption) | assumption)
                      have q6 : x3_1 < (a0.size : Int) := of_decide_eq_true (by first | (with_reducible assumption) | assumption)
                      have hx6 := bt_at a0 x3_1
                      replace p6 := eq_true p6
                      replace q6 := eq_true q6
                      have p24 : 0 ≤ (x3_1 : Int) := of_decide_eq_true (by first | (with_reducible assumption) | assumption)
                      have q24 : x3_1 < (a0.size : Int) := of_decide_eq_true (by first | (with_reducible assumption) | assumption)
                      have hx24 := bt_at a0 x3_1
                      replace p24 := eq_true p24
                      replace q24 := eq_true q24
                      have p34 : 0 ≤ (x3_1 : Int) := of_decide_eq_true (by first | (with_reducible assumption) | assumption)
                      have q34 : x3_1 < (a0.size : Int) := of_decide_eq_true (by first | (with_reducible assumption) | assumption)
                      have hx34 := bt_at a0 x3_1
                      replace p34 := eq_true p34
                      replace q34 := eq_true q34
                      have p36 : 0 ≤ (x3_1 : Int) := of_decide_eq_true (by first | (with_reducible assumption) | assumption)
                      have q36 : x3_1 < (a0.size : Int) := of_decide_eq_true (by first | (with_reducible assumption) | assumption)
                      have hx36 := bt_at a0 x3_1
                      replace p36 := eq_true p36
                      replace q36 := eq_true q36
                      go_wp2
                      go_roundg k1
                      case measure => have := HK1.out; omega
                      case rel => exact ⟨(wrap64 (x3_1 + 1)), (by first | rfl | (simp; done) | (simp [*]; done) | (simp [*, q_isEmpty]; done) | (simp [*]; exact q_gt _ _ (by assumption))), H', ⟨by have := HK1.out; omega⟩, by repeat (first | exact Drawn0.refl _ | apply Drawn0.step)⟩
                    · rw [if_neg c37] at H
                      have c37b0 : decide ((bt a0 x3_1) ≤ 57) = false := decide_eq_false c37
                      clear c37
                      obtain rfl := Option.some.inj H
                      have p4 : 0 ≤ (x3_1 : Int) := of_decide_eq_true (by first | (with_reducible assumption) | assumption)
                      have q4 : x3_1 < (a0.size : Int) := of_decide_eq_true (by first | (with_reducible assumption) | assumption)
                      have hx4 := bt_at a0 x3_1
                      replace p4 := eq_true p4
                      replace q4 := eq_true q4
                      have p6 : 0 ≤ (x3_1 : Int) := of_decide_eq_true (by first | (with_reducible assumption) | assumption)
                      have q6 : x3_1 < (a0.size : Int) := of_decide_eq_true (by first | (with_reducible assumption) | assumption)
                      have hx6 := bt_at a0 x3_1
                      replace p6 := eq_true p6
                      replace q6 := eq_true q6
                      have p24 : 0 ≤ (x3_1 : Int) := of_decide_eq_true (by first | (with_reducible assumption) | assumption)
                      have q24 : x3_1 < (a0.size : Int) := of_decide_eq_true (by first | (with_reducible assumption) | assumption)
                      have hx24 := bt_at a0 x3_1
                      replace p24 := eq_true p24
                      replace q24 := eq_true q24
                      have p34 : 0 ≤ (x3_1 : Int) := of_decide_eq_true (by first | (with_reducible assumption) | assumption)
                      have q34 : x3_1 < (a0.size : Int) := of_decide_eq_true (by first | (with_reducible assumption) | assumption)
                      have hx34 := bt_at a0 x3_1
                      replace p34 := eq_true p34
                      replace q34 := eq_true q34
                      have p36 : 0 ≤ (x3_1 : Int) := of_decide_eq_true (by first | (with_reducible assumption) | assumption)
                      have q36 : x3_1 < (a0.size : Int) := of_decide_eq_true (by first | (with_reducible assumption) | assumption)
                      have hx36 := bt_at a0 x3_1
                      replace p36 := eq_true p36
                      replace q36 := eq_true q36
                      go_wp2
                      go_ret
                      exact ⟨by first | rfl | (simp; done) | (simp [*]; done) | (simp [*, q_isEmpty]; done) | (simp [*]; exact q_gt _ _ (by assumption)), by repeat (first | exact Drawn0.refl _ | apply Drawn0.step)⟩
                  · rw [if_neg c35] at H
                    have c35b0 : decide (48 ≤ (bt a0 x3_1)) = false := decide_eq_false c35
                    clear c35
                    obtain rfl := Option.some.inj H
                    have p4 : 0 ≤ (x3_1 : Int) := of_decide_eq_true (by first | (with_reducible assumption) | assumption)
                    have q4 : x3_1 < (a0.size : Int) := of_decide_eq_true (by first | (with_reducible assumption) | assumption)
                    have hx4 := bt_at a0 x3_1
                    replace p4 := eq_true p4
                    replace q4 := eq_true q4
                    have p6 : 0 ≤ (x3_1 : Int) := of_decide_eq_true (by first | (with_reducible assumption) | assumption)
                    have q6 : x3_1 < (a0.size : Int) := of_decide_eq_true (by first | (with_reducible assumption) | assumption)
                    have hx6 := bt_at a0 x3_1
                    replace p6 := eq_true p6
                    replace q6 := eq_true q6
                    have p24 : 0 ≤ (x3_1 : Int) := of_decide_eq_true (by first | (with_reducible assumption) | assumption)
                    have q24 : x3_1 < (a0.size : Int) := of_decide_eq_true (by first | (with_reducible assumption) | assumption)
                    have hx24 := bt_at a0 x3_1
                    replace p24 := eq_true p24
                    replace q24 := eq_true q24
                    have p34 : 0 ≤ (x3_1 : Int) := of_decide_eq_true (by first | (with_reducible assumption) | assumption)
                    have q34 : x3_1 < (a0.size : Int) := of_decide_eq_true (by first | (with_reducible assumption) | assumption)
                    have hx34 := bt_at a0 x3_1
                    replace p34 := eq_true p34
                    replace q34 := eq_true q34
                    go_wp2
                    go_ret
                    exact ⟨by first | rfl | (simp; done) | (simp [*]; done) | (simp [*, q_isEmpty]; done) | (simp [*]; exact q_gt _ _ (by assumption)), by repeat (first | exact Drawn0.refl _ | apply Drawn0.step)⟩
                · rw [if_neg c33] at H
                  have c33b0 : decide (0 < x3_1) = false := decide_eq_false c33
                  clear c33
                  obtain rfl := Option.some.inj H
                  have p4 : 0 ≤ (x3_1 : Int) := of_decide_eq_true (by first | (with_reducible assumption) | assumption)
                  have q4 : x3_1 < (a0.size : Int) := of_decide_eq_true (by first | (with_reducible assumption) | assumption)
                  have hx4 := bt_at a0 x3_1
                  replace p4 := eq_true p4
                  replace q4 := eq_true q4
                  have p6 : 0 ≤ (x3_1 : Int) := of_decide_eq_true (by first | (with_reducible assumption) | assumption)
                  have q6 : x3_1 < (a0.size : Int) := of_decide_eq_true (by first | (with_reducible assumption) | assumption)
                  have hx6 := bt_at a0 x3_1
                  replace p6 := eq_true p6
                  replace q6 := eq_true q6
                  have p24 : 0 ≤ (x3_1 : Int) := of_decide_eq_true (by first | (with_reducible assumption) | assumption)
                  have q24 : x3_1 < (a0.size : Int) := of_decide_eq_true (by first | (with_reducible assumption) | assumption)
                  have hx24 := bt_at a0 x3_1
                  replace p24 := eq_true p24
                  replace q24 := eq_true q24
                  go_wp2
                  go_ret
                  exact ⟨by first | rfl | (simp; done) | (simp [*]; done) | (simp [*, q_isEmpty]; done) | (simp [*]; exact q_gt _ _ (by assumption)), by repeat (first | exact Drawn0.refl _ | apply Drawn0.step)⟩
        · rw [if_neg c3] at H
          exact absurd H (by simp)
      · rw [if_neg c2] at H
        have c2b0 : decide (x3_1 < (a0.size : Int)) = false := decide_eq_false c2
        clear c2
        obtain rfl := Option.some.inj H
        go_wp2
        go_ret
        exact ⟨by first | rfl | (simp; done) | (simp [*]; done) | (simp [*, q_isEmpty]; done) | (simp [*]; exact q_gt _ _ (by assumption)), by repeat (first | exact Drawn0.refl _ | apply Drawn0.step)⟩

end Go.Proofs.YtkngnoipipnioaaDoor.Q
namespace Go.Proofs.YtkngnoipipnioaaDoor.Q
open Go.RowKit Go.Proofs.YtkngnoipipnioaaDoorW.PrintWords Go.Proofs.YtkngnoipipnioaaDoorW.PrintLast Go.Proofs.YtkngnoipipnioaaDoorW.PrintMore
attribute [local go_sem] max2_int min2_int max_two min_two max_three min_three max_four min_four   -- for this text's walks alone
set_option linter.unusedVariables false
set_option linter.unusedSimpArgs false

/-! ### spec_endsEscaped: function 44 -/
def spec_endsEscaped.l0 : Nat → ByteArray → Int → Int → Option (Bool)
  | 0, _, _, _ => none
  | k + 1, x0, x3, x4 => if x4 ≥ 0 then (if 0 ≤ x4 then (if x4 < (x0.size : Int) then (if (bt x0 x4) = 92 then (spec_endsEscaped.l0 k x0 (wrap64 (x3 + 1)) (wrap64 (x4 - 1))) else (some ((Int.tmod x3 2) == 1))) else (none)) else (none)) else (some ((Int.tmod x3 2) == 1))
def spec_endsEscaped.f (k : Nat) (a0 : ByteArray) : Option (Bool) := spec_endsEscaped.l0 k a0 0 (wrap64 ((a0.size : Int) - 2))
theorem spec_endsEscaped.mono_l : ∀ k, (∀ y0 y1 y2, LeO (spec_endsEscaped.l0 k y0 y1 y2) (spec_endsEscaped.l0 (k + 1) y0 y1 y2))
  | 0 => fun _ _ _ r h => by simp [spec_endsEscaped.l0] at h
  | k + 1 => by
    have ih0 := spec_endsEscaped.mono_l k
    · intro y0 y1 y2
      unfold spec_endsEscaped.l0
      repeat' first
      | (with_reducible exact ih0 _ _ _)
      | (with_reducible exact LeO.refl _)
      | (with_reducible exact LeO.none _)
      | (with_reducible refine LeO.ite ?_ ?_)
      | (with_reducible refine LeO.bind ?_ (fun _ => ?_))
      | exact ih0 _ _ _
      | exact LeO.none _
      | refine LeO.ite ?_ ?_
      | refine LeO.bind ?_ (fun _ => ?_)
theorem spec_endsEscaped.mono : ∀ a0 k, LeO (spec_endsEscaped.f k a0) (spec_endsEscaped.f (k + 1) a0) := by
  intro a0 k
  have ih0 := spec_endsEscaped.mono_l k
  unfold spec_endsEscaped.f
  repeat' first
      | (with_reducible exact ih0 _ _ _)
      | (with_reducible exact LeO.refl _)
      | (with_reducible exact LeO.none _)
      | (with_reducible refine LeO.ite ?_ ?_)
      | (with_reducible refine LeO.bind ?_ (fun _ => ?_))
      | exact ih0 _ _ _
      | exact LeO.none _
      | refine LeO.ite ?_ ?_
      | refine LeO.bind ?_ (fun _ => ?_)
set_option maxHeartbeats 8000000 in
set_option maxRecDepth 100000 in
theorem spec_endsEscaped.calls (k : Nat) (a0 : ByteArray) (r : Bool) (w : World) (h : spec_endsEscaped.f k a0 = some r) :
    Calls Tryd.prog 44 #[.string a0] w fun e w' => e = .returned (.bool r) ∧ Drawn0 w w' := by
  have H : (spec_endsEscaped.l0 k a0 0 (wrap64 ((a0.size : Int) - 2))) = some r := h
  clear h
  have H' := Aside0.mk H
  clear H
  go_enter Tryd.func44, Tryd.ntmps44
  go_wp2
  go_loopg [3, 4] k (fun kq v3 v4 w' => ∃ (x3_1 : Int) (x4_1 : Int), v3 = .int .i64 x3_1 ∧ v4 = .int .i64 x4_1 ∧ Aside0 (spec_endsEscaped.l0 kq a0 x3_1 x4_1 = some r) ∧ Aside0 (kq ≤ k) ∧ Drawn0 w w')
  case atStart => exact ⟨(0), (wrap64 ((a0.size : Int) - 2)), (by first | rfl | (simp; done) | (simp [*]; done) | (simp [*, q_isEmpty]; done) | (simp [*]; exact q_gt _ _ (by assumption))), (by first | rfl | (simp; done) | (simp [*]; done) | (simp [*, q_isEmpty]; done) | (simp [*]; exact q_gt _ _ (by assumption))), H', ⟨Nat.le_refl _⟩, by repeat (first | exact Drawn0.refl _ | apply Drawn0.step)⟩
  case round =>
    clear H'
    obtain ⟨x3_1, x4_1, rfl, rfl, HA, HK1, ⟨m1, rfl⟩⟩ := hrel
    cases gk with
    | zero => exact absurd HA.out (by simp [spec_endsEscaped.l0])
    | succ k1 =>
      have H := HA.out
      clear HA
      simp only [spec_endsEscaped.l0] at H
      by_cases c2 : x4_1 ≥ 0
      · rw [if_pos c2] at H
        have c2b0 : decide (0 ≤ x4_1) = true := decide_eq_true c2
        clear c2
        by_cases c3 : 0 ≤ x4_1
        · rw [if_pos c3] at H
          have c3b0 : decide (0 ≤ x4_1) = true := decide_eq_true c3
          clear c3
          by_cases c4 : x4_1 < (a0.size : Int)
          · rw [if_pos c4] at H
            have c4b0 : decide (x4_1 < (a0.size : Int)) = true := decide_eq_true c4
            clear c4
            by_cases c6 : (bt a0 x4_1) = 92
            · rw [if_pos c6] at H
              have c6b0 : ((bt a0 x4_1) == 92) = true := beq_iff_eq.mpr c6
              have c6b1 : ((bt a0 x4_1) != 92) = false := bne_eq_false_iff_eq.mpr c6
              clear c6
              have H' := Aside0.mk H
              clear H
              have p5 : 0 ≤ (x4_1 : Int) := of_decide_eq_true (by first | (with_reducible assumption) | assumption)
              have q5 : x4_1 < (a0.size : Int) := of_decide_eq_true (by first | (with_reducible assumption) | assumption)
              have hx5 := bt_at a0 x4_1
              replace p5 := eq_true p5
              replace q5 := eq_true q5
              go_wp2
              go_roundg k1
              case measure => have := HK1.out; omega
              case rel => exact ⟨(wrap64 (x3_1 + 1)), (wrap64 (x4_1 - 1)), (by first | rfl | (simp; done) | (simp [*]; done) | (simp [*, q_isEmpty]; done) | (simp [*]; exact q_gt _ _ (by assumption))), (by first | rfl | (simp; done) | (simp [*]; done) | (simp [*, q_isEmpty]; done) | (simp [*]; exact q_gt _ _ (by assumption))), H', ⟨by have := HK1.out; omega⟩, by repeat (first | exact Drawn0.refl _ | apply Drawn0.step)⟩
            · rw [if_neg c6] at H
              have c6b0 : ((bt a0 x4_1) == 92) = false := beq_eq_false_iff_ne.mpr c6
              have c6b1 : ((bt a0 x4_1) != 92) = true := bne_iff_ne.mpr c6
              obtain rfl := Option.some.inj H
              have p5 : 0 ≤ (x4_1 : Int) := of_decide_eq_true (by first | (with_reducible assumption) | assumption)
              have q5 : x4_1 < (a0.size : Int) := of_decide_eq_true (by first | (with_reducible assumption) | assumption)
              have hx5 := bt_at a0 x4_1
              replace p5 := eq_true p5
              replace q5 := eq_true q5
              go_wp2
              go_ret
              exact ⟨by first | rfl | (simp; done) | (simp [*]; done) | (simp [*, q_isEmpty]; done) | (simp [*]; exact q_gt _ _ (by assumption)), by repeat (first | exact Drawn0.refl _ | apply Drawn0.step)⟩
          · rw [if_neg c4] at H
            exact absurd H (by simp)
        · rw [if_neg c3] at H
          exact absurd H (by simp)
      · rw [if_neg c2] at H
        have c2b0 : decide (0 ≤ x4_1) = false := decide_eq_false c2
        clear c2
        obtain rfl := Option.some.inj H
        go_wp2
        go_ret
        exact ⟨by first | rfl | (simp; done) | (simp [*]; done) | (simp [*, q_isEmpty]; done) | (simp [*]; exact q_gt _ _ (by assumption)), by repeat (first | exact Drawn0.refl _ | apply Drawn0.step)⟩

end Go.Proofs.YtkngnoipipnioaaDoor.Q
namespace Go.Proofs.YtkngnoipipnioaaDoor.Q
open Go.RowKit Go.Proofs.YtkngnoipipnioaaDoorW.PrintWords Go.Proofs.YtkngnoipipnioaaDoorW.PrintLast Go.Proofs.YtkngnoipipnioaaDoorW.PrintMore
attribute [local go_sem] max2_int min2_int max_two min_two max_three min_three max_four min_four   -- for this text's walks alone
set_option linter.unusedVariables false
set_option linter.unusedSimpArgs false

/-! ### spec_escaped: function 45 -/
mutual
def spec_escaped.l0 : Nat → ByteArray → List Int → Int → Option (ByteArray × Int)
  | 0, _, _, _ => none
  | k + 1, x0, x4, x5 => if x5 < (x0.size : Int) then (if 0 ≤ x5 then (if (bt x0 x5) = 34 then (some ((⟨#[]⟩ : ByteArray), 0)) else (if (bt x0 x5) = 92 then (spec_escaped.j1 k x0 x4 x5 (bt x0 x5) (decide ((wrap64 (x5 + 1)) < (x0.size : Int)))) else (spec_escaped.j1 k x0 x4 x5 (bt x0 x5) false))) else (none)) else (some (strOfNums x4, 1))
def spec_escaped.j1 : Nat → ByteArray → List Int → Int → Int → Bool → Option (ByteArray × Int)
  | 0, _, _, _, _, _ => none
  | k + 1, x0, x4, x5, x6, x26 => if x26 = true then (if 0 ≤ (wrap64 (x5 + 1)) then (if (wrap64 (x5 + 1)) < (x0.size : Int) then (if (bt x0 (wrap64 (x5 + 1))) = 110 then (if x4.length < 140737488355328 then (spec_escaped.l0 k x0 (x4 ++ [10]) (wrap64 ((wrap64 (x5 + 1)) + 1))) else (none)) else (if (bt x0 (wrap64 (x5 + 1))) = 34 then (if x4.length < 140737488355328 then (spec_escaped.l0 k x0 (x4 ++ [bt x0 (wrap64 (x5 + 1))]) (wrap64 ((wrap64 (x5 + 1)) + 1))) else (none)) else (if (bt x0 (wrap64 (x5 + 1))) = 92 then (if x4.length < 140737488355328 then (spec_escaped.l0 k x0 (x4 ++ [bt x0 (wrap64 (x5 + 1))]) (wrap64 ((wrap64 (x5 + 1)) + 1))) else (none)) else (if x4.length < 140737488355328 then (spec_escaped.l0 k x0 (x4 ++ [x6]) (wrap64 (x5 + 1))) else (none))))) else (none)) else (none)) else (if x4.length < 140737488355328 then (spec_escaped.l0 k x0 (x4 ++ [x6]) (wrap64 (x5 + 1))) else (none))
end
def spec_escaped.f (k : Nat) (a0 : ByteArray) : Option (ByteArray × Int) := spec_escaped.l0 k a0 ([] : List Int) 0
theorem spec_escaped.mono_l : ∀ k, (∀ y0 y1 y2, LeO (spec_escaped.l0 k y0 y1 y2) (spec_escaped.l0 (k + 1) y0 y1 y2)) ∧ (∀ y0 y1 y2 y3 y4, LeO (spec_escaped.j1 k y0 y1 y2 y3 y4) (spec_escaped.j1 (k + 1) y0 y1 y2 y3 y4))
  | 0 => ⟨fun _ _ _ r h => by simp [spec_escaped.l0] at h, fun _ _ _ _ _ r h => by simp [spec_escaped.j1] at h⟩
  | k + 1 => by
    obtain ⟨ih0, ih1⟩ := spec_escaped.mono_l k
    refine ⟨?_, ?_⟩
    · intro y0 y1 y2
      unfold spec_escaped.l0
      repeat' first
      | (with_reducible exact ih0 _ _ _)
      | (with_reducible exact ih1 _ _ _ _ _)
      | (with_reducible exact LeO.refl _)
      | (with_reducible exact LeO.none _)
      | (with_reducible refine LeO.ite ?_ ?_)
      | (with_reducible refine LeO.bind ?_ (fun _ => ?_))
      | exact ih0 _ _ _
      | exact ih1 _ _ _ _ _
      | exact LeO.none _
      | refine LeO.ite ?_ ?_
      | refine LeO.bind ?_ (fun _ => ?_)
    · intro y0 y1 y2 y3 y4
      unfold spec_escaped.j1
      repeat' first
      | (with_reducible exact ih0 _ _ _)
      | (with_reducible exact ih1 _ _ _ _ _)
      | (with_reducible exact LeO.refl _)
      | (with_reducible exact LeO.none _)
      | (with_reducible refine LeO.ite ?_ ?_)
      | (with_reducible refine LeO.bind ?_ (fun _ => ?_))
      | exact ih0 _ _ _
      | exact ih1 _ _ _ _ _
      | exact LeO.none _
      | refine LeO.ite ?_ ?_
      | refine LeO.bind ?_ (fun _ => ?_)
theorem spec_escaped.mono : ∀ a0 k, LeO (spec_escaped.f k a0) (spec_escaped.f (k + 1) a0) := by
  intro a0 k
  obtain ⟨ih0, ih1⟩ := spec_escaped.mono_l k
  unfold spec_escaped.f
  repeat' first
      | (with_reducible exact ih0 _ _ _)
      | (with_reducible exact ih1 _ _ _ _ _)
      | (with_reducible exact LeO.refl _)
      | (with_reducible exact LeO.none _)
      | (with_reducible refine LeO.ite ?_ ?_)
      | (with_reducible refine LeO.bind ?_ (fun _ => ?_))
      | exact ih0 _ _ _
      | exact ih1 _ _ _ _ _
      | exact LeO.none _
      | refine LeO.ite ?_ ?_
      | refine LeO.bind ?_ (fun _ => ?_)
set_option maxHeartbeats 8000000 in
set_option maxRecDepth 100000 in
theorem spec_escaped.calls (k : Nat) (a0 : ByteArray) (r1 : ByteArray) (r2 : Int) (w : World) (h : spec_escaped.f k a0 = some (r1, r2)) :
    Calls Tryd.prog 45 #[.string a0] w fun e w' => e = .returned (.tuple #[.string r1, .int .i64 r2]) ∧ Below w.heap.size w w' := by
  have HB := Aside0.mk (Below.refl w.heap.size w)
  have H : (spec_escaped.l0 k a0 ([] : List Int) 0) = some (r1, r2) := h
  clear h
  have H' := Aside0.mk H
  clear H
  go_enter Tryd.func45, Tryd.ntmps45
  go_wp2
  go_loopg [4, 5] k (fun kq v4 v5 w' => ∃ (x4_1 : List Int) (x5_1 : Int), v5 = .int .i64 x5_1 ∧ Aside0 (spec_escaped.l0 kq a0 x4_1 x5_1 = some (r1, r2)) ∧ Aside0 (kq ≤ k) ∧ Aside0 (Kd.R (Kd.int .u8) 5 w' w.heap.size (fun _ => True) v4 x4_1) ∧ Aside0 (Below w.heap.size w w'))
  case atStart => exact ⟨(([] : List Int)), (0), (by first | rfl | (simp; done) | (simp [*]; done) | (simp [*, q_isEmpty]; done) | (simp [*]; exact q_gt _ _ (by assumption))), H', ⟨Nat.le_refl _⟩, ⟨by first | exact Kd.R_nil _ _ _ _ _ | exact Kd.N_nil _ _ _ _ _ | exact Kd.V_nil _ _ _ _ _ | exact Kd.Q_nil _ _ _ _ _ | exact Kd.S_nil _ _ _ _ _⟩, ⟨by repeat (first | (with_reducible first | exact HB.out | apply below_alloc | apply pw_below_drewN | apply below_drew1) | exact HB.out)⟩⟩
  case round =>
    clear H'
    obtain ⟨x4_1, x5_1, rfl, HA, HK1, HO_4, HB⟩ := hrel
    cases gk with
    | zero => exact absurd HA.out (by simp [spec_escaped.l0])
    | succ k1 =>
      have H := HA.out
      clear HA
      simp only [spec_escaped.l0] at H
      by_cases c2 : x5_1 < (a0.size : Int)
      · rw [if_pos c2] at H
        have c2b0 : decide (x5_1 < (a0.size : Int)) = true := decide_eq_true c2
        clear c2
        by_cases c3 : 0 ≤ x5_1
        · rw [if_pos c3] at H
          have c3b0 : decide (0 ≤ x5_1) = true := decide_eq_true c3
          clear c3
          by_cases c5 : (bt a0 x5_1) = 34
          · rw [if_pos c5] at H
            have c5b0 : ((bt a0 x5_1) == 34) = true := beq_iff_eq.mpr c5
            have c5b1 : ((bt a0 x5_1) != 34) = false := bne_eq_false_iff_eq.mpr c5
            clear c5
            simp only [Option.some.injEq, Prod.mk.injEq] at H
            obtain ⟨rfl, rfl⟩ := H
            have p4 : 0 ≤ (x5_1 : Int) := of_decide_eq_true (by first | (with_reducible assumption) | assumption)
            have q4 : x5_1 < (a0.size : Int) := of_decide_eq_true (by first | (with_reducible assumption) | assumption)
            have hx4 := bt_at a0 x5_1
            replace p4 := eq_true p4
            replace q4 := eq_true q4
            go_wp2
            go_ret2
            exact ⟨by first | rfl | (simp [errW_none, errW_some] <;> rfl) | (simp [*, errW_none, errW_some] <;> rfl) | (simp [*, q_isEmpty]; done) | (simp [*]; exact q_gt _ _ (by assumption)), by repeat (first | (with_reducible first | exact HB.out | apply below_alloc | apply pw_below_drewN | apply below_drew1) | exact HB.out)⟩
          · rw [if_neg c5] at H
            have c5b0 : ((bt a0 x5_1) == 34) = false := beq_eq_false_iff_ne.mpr c5
            have c5b1 : ((bt a0 x5_1) != 34) = true := bne_iff_ne.mpr c5
            have HC6 := Aside0.mk H
            clear H
            have p4 : 0 ≤ (x5_1 : Int) := of_decide_eq_true (by first | (with_reducible assumption) | assumption)
            have q4 : x5_1 < (a0.size : Int) := of_decide_eq_true (by first | (with_reducible assumption) | assumption)
            have hx4 := bt_at a0 x5_1
            replace p4 := eq_true p4
            replace q4 := eq_true q4
            go_upto_region 8 with (fail)
            go_cut [26] (fun v26 wc => ∃ (kq : Nat) (x26_5 : Bool), v26 = .bool x26_5 ∧ Aside0 (spec_escaped.j1 kq a0 x4_1 x5_1 (bt a0 x5_1) x26_5 = some (r1, r2)) ∧ Aside0 (kq ≤ k1) ∧ Aside0 (Kd.R (Kd.int .u8) 5 wc w.heap.size (fun _ => True) u4 x4_1) ∧ Aside0 (Below w.heap.size w wc))
            case first =>
              have H := HC6.out
              clear HC6
              by_cases c7 : (bt a0 x5_1) = 92
              · rw [if_pos c7] at H
                have c7b0 : ((bt a0 x5_1) == 92) = true := beq_iff_eq.mpr c7
                have c7b1 : ((bt a0 x5_1) != 92) = false := bne_eq_false_iff_eq.mpr c7
                clear c7
                (first | rw [c7b0] | (simp only [i64_w, i32_w]; rw [c7b0]) | skip)
                have H' := Aside0.mk H
                clear H
                go_wp2
                go_meet
                case rel => exact ⟨_, (decide ((wrap64 (x5_1 + 1)) < (a0.size : Int))), (by first | rfl | (simp; done) | (simp [*]; done) | (simp [*, q_isEmpty]; done) | (simp [*]; exact q_gt _ _ (by assumption))), H', ⟨by have := HK1.out; first | omega | exact Nat.le_refl _⟩, ⟨by (with_reducible repeat (first | apply Kd.R_alloc | apply Kd.R_drewN | apply Kd.R_drew)); exact HO_4.out⟩, ⟨by repeat (first | (with_reducible first | exact HB.out | apply below_alloc | apply pw_below_drewN | apply below_drew1) | exact HB.out)⟩⟩
              · rw [if_neg c7] at H
                have c7b0 : ((bt a0 x5_1) == 92) = false := beq_eq_false_iff_ne.mpr c7
                have c7b1 : ((bt a0 x5_1) != 92) = true := bne_iff_ne.mpr c7
                (first | rw [c7b0] | (simp only [i64_w, i32_w]; rw [c7b0]) | skip)
                have H' := Aside0.mk H
                clear H
                go_wp2
                go_meet
                case rel => exact ⟨_, (false), (by first | rfl | (simp; done) | (simp [*]; done) | (simp [*, q_isEmpty]; done) | (simp [*]; exact q_gt _ _ (by assumption))), H', ⟨by have := HK1.out; first | omega | exact Nat.le_refl _⟩, ⟨by (with_reducible repeat (first | apply Kd.R_alloc | apply Kd.R_drewN | apply Kd.R_drew)); exact HO_4.out⟩, ⟨by repeat (first | (with_reducible first | exact HB.out | apply below_alloc | apply pw_below_drewN | apply below_drew1) | exact HB.out)⟩⟩
            case rest =>
              clear HC6
              try clear c2
              try clear c2b0
              try clear p2
              try clear c3
              try clear c3b0
              try clear c4
              try clear p4
              try clear q4
              try clear hx4
              try clear c5
              try clear c5b0
              try clear c5b1
              try clear p6
              try clear c7
              try clear c7b0
              try clear c7b1
              try clear p4
              try clear q4
              obtain ⟨kq, x26_5, rfl, HA, HJ5, HO_4, HB⟩ := hcut
              cases kq with
              | zero => exact absurd HA.out (by simp [spec_escaped.j1])
              | succ kj5 =>
                have H := HA.out
                clear HA
                simp only [spec_escaped.j1] at H
                by_cases c8 : x26_5 = true
                · subst c8
                  have H1 : (if 0 ≤ (wrap64 (x5_1 + 1)) then (if (wrap64 (x5_1 + 1)) < (a0.size : Int) then (if (bt a0 (wrap64 (x5_1 + 1))) = 110 then (if x4_1.length < 140737488355328 then (spec_escaped.l0 kj5 a0 (x4_1 ++ [10]) (wrap64 ((wrap64 (x5_1 + 1)) + 1))) else (none)) else (if (bt a0 (wrap64 (x5_1 + 1))) = 34 then (if x4_1.length < 140737488355328 then (spec_escaped.l0 kj5 a0 (x4_1 ++ [bt a0 (wrap64 (x5_1 + 1))]) (wrap64 ((wrap64 (x5_1 + 1)) + 1))) else (none)) else (if (bt a0 (wrap64 (x5_1 + 1))) = 92 then (if x4_1.length < 140737488355328 then (spec_escaped.l0 kj5 a0 (x4_1 ++ [bt a0 (wrap64 (x5_1 + 1))]) (wrap64 ((wrap64 (x5_1 + 1)) + 1))) else (none)) else (if x4_1.length < 140737488355328 then (spec_escaped.l0 kj5 a0 (x4_1 ++ [(bt a0 x5_1)]) (wrap64 (x5_1 + 1))) else (none))))) else (none)) else (none)) = some (r1, r2) := by rw [if_pos rfl] at H; exact H
                  clear H
                  have H := H1
                  clear H1
                  obtain ⟨ji9, hji9⟩ : ∃ j_ : Int, (wrap64 (x5_1 + 1)) = j_ := ⟨_, rfl⟩
                  replace H : (if 0 ≤ (ji9) then (if (ji9) < (a0.size : Int) then (if (bt a0 (ji9)) = 110 then (if x4_1.length < 140737488355328 then (spec_escaped.l0 kj5 a0 (x4_1 ++ [10]) (wrap64 ((ji9) + 1))) else (none)) else (if (bt a0 (ji9)) = 34 then (if x4_1.length < 140737488355328 then (spec_escaped.l0 kj5 a0 (x4_1 ++ [bt a0 (ji9)]) (wrap64 ((ji9) + 1))) else (none)) else (if (bt a0 (ji9)) = 92 then (if x4_1.length < 140737488355328 then (spec_escaped.l0 kj5 a0 (x4_1 ++ [bt a0 (ji9)]) (wrap64 ((ji9) + 1))) else (none)) else (if x4_1.length < 140737488355328 then (spec_escaped.l0 kj5 a0 (x4_1 ++ [(bt a0 x5_1)]) ji9) else (none))))) else (none)) else (none)) = some (r1, r2) := by first | (rw [hji9] at H; exact H) | (simp only [hji9] at H ⊢; exact H)
                  have hji9w : (IntKind.i64.wrap (x5_1 + 1)) = ji9 := (i64_w _).trans hji9
                  by_cases c10 : 0 ≤ (ji9)
                  · rw [if_pos c10] at H
                    have c10b0 : decide (0 ≤ (ji9)) = true := decide_eq_true c10
                    clear c10
                    by_cases c11 : (ji9) < (a0.size : Int)
                    · rw [if_pos c11] at H
                      have c11b0 : decide ((ji9) < (a0.size : Int)) = true := decide_eq_true c11
                      clear c11
                      by_cases c13 : (bt a0 (ji9)) = 110
                      · rw [if_pos c13] at H
                        have c13b0 : ((bt a0 (ji9)) == 110) = true := beq_iff_eq.mpr c13
                        have c13b1 : ((bt a0 (ji9)) != 110) = false := bne_eq_false_iff_eq.mpr c13
                        clear c13
                        by_cases c14 : x4_1.length < 140737488355328
                        · rw [if_pos c14] at H
                          have LMc14 := Aside0.mk c14
                          clear c14
                          obtain ⟨y165, hy165⟩ : ∃ y_ : List Int, y_ = (x4_1 ++ [10]) := ⟨_, rfl⟩
                          replace H : (spec_escaped.l0 kj5 a0 y165 (wrap64 ((ji9) + 1))) = some (r1, r2) := by first | (rw [hy165]; with_reducible exact H) | (have H2_ := (Option.bind_some _ _).symm.trans H; rw [hy165]; with_reducible exact H2_) | (have H2_ := (Option.bind_some _ _).symm.trans H; with_reducible exact H2_) | with_reducible exact H | (rw [hy165]; exact H) | exact H
                          have Ny165 := Aside0.mk hy165
                          clear hy165
                          have H' := Aside0.mk H
                          clear H
                          have p12 : 0 ≤ ((ji9) : Int) := of_decide_eq_true (by first | (with_reducible assumption) | assumption)
                          have q12 : (ji9) < (a0.size : Int) := of_decide_eq_true (by first | (with_reducible assumption) | assumption)
                          have hx12 := bt_at a0 (ji9)
                          replace p12 := eq_true p12
                          replace q12 := eq_true q12
                          go_wp2_with (first | ((with_reducible refine gate_builtin (b := .append) (xs := #[.tmp 44, .tmp 46]) rfl ?_); (try (refine gate_guard (by rfl) ?_; dsimp only)); at_builtin; refine Kd.R_append (Kd.int .u8) (w0 := w) w.heap.size rfl (.tmp 44) (.tmp 46) 22 5 (.int .u8 0) 1 rfl Tryd.underlying22 info5 rfl (by decide) (by omega) u4 x4_1 10 [.int .u8 10] (fun _ => True) (fun _ => False) rfl rfl ?aP (fun _ hk => hk.elim) ?aF ?aO ?aB ?aS ?aL ?_; (case aP => exact rfl); (case aB => exact (by repeat (first | (with_reducible first | exact HB.out | apply below_alloc | apply pw_below_drewN | apply below_drew1) | exact HB.out))); (case aF => exact (fun _ _ => trivial)); (case aO => exact (by (with_reducible repeat (first | apply Kd.R_alloc | apply Kd.R_drewN | apply Kd.R_drew)); exact HO_4.out)); (case aS => exact (below_size (by repeat (first | (with_reducible first | exact HB.out | apply below_alloc | apply pw_below_drewN | apply below_drew1) | exact HB.out)))); (case aL => have := LMc14.out; omega); intro v166 w15 ho hb hg hat; rw [← Ny165.out] at ho; have n0_ := Aside0.mk (hb); have n1_ := Aside0.mk (ho); clear HB; clear HO_4; have HB := n0_; have HO167 := n1_; clear n0_ n1_; clear ho hb hg hat))
                          go_roundg kj5
                          case measure => have := HK1.out; have := HJ5.out; omega
                          case rel => exact ⟨(y165), (wrap64 ((ji9) + 1)), (by first | rfl | (simp; done) | (simp only [← hji9] <;> (first | rfl | simp)) | (simp [*]; done) | (simp [*, q_isEmpty]; done) | (simp [*]; exact q_gt _ _ (by assumption))), H', ⟨by have := HK1.out; have := HJ5.out; omega⟩, ⟨by (with_reducible repeat (first | apply Kd.R_alloc | apply Kd.R_drewN | apply Kd.R_drew)); exact HO167.out⟩, ⟨by repeat (first | (with_reducible first | exact HB.out | apply below_alloc | apply pw_below_drewN | apply below_drew1) | exact HB.out)⟩⟩
                        · rw [if_neg c14] at H
                          exact absurd H (by simp)
                      · rw [if_neg c13] at H
                        have c13b0 : ((bt a0 (ji9)) == 110) = false := beq_eq_false_iff_ne.mpr c13
                        have c13b1 : ((bt a0 (ji9)) != 110) = true := bne_iff_ne.mpr c13
                        by_cases c16 : (bt a0 (ji9)) = 34
                        · rw [if_pos c16] at H
                          have c16b0 : ((bt a0 (ji9)) == 34) = true := beq_iff_eq.mpr c16
                          have c16b1 : ((bt a0 (ji9)) != 34) = false := bne_eq_false_iff_eq.mpr c16
                          clear c16
                          by_cases c18 : x4_1.length < 140737488355328
                          · rw [if_pos c18] at H
                            have LMc18 := Aside0.mk c18
                            clear c18
                            obtain ⟨y168, hy168⟩ : ∃ y_ : List Int, y_ = (x4_1 ++ [bt a0 (ji9)]) := ⟨_, rfl⟩
                            replace H : (spec_escaped.l0 kj5 a0 y168 (wrap64 ((ji9) + 1))) = some (r1, r2) := by first | (rw [hy168]; with_reducible exact H) | (have H2_ := (Option.bind_some _ _).symm.trans H; rw [hy168]; with_reducible exact H2_) | (have H2_ := (Option.bind_some _ _).symm.trans H; with_reducible exact H2_) | with_reducible exact H | (rw [hy168]; exact H) | exact H
                            have Ny168 := Aside0.mk hy168
                            clear hy168
                            have H' := Aside0.mk H
                            clear H
                            have p12 : 0 ≤ ((ji9) : Int) := of_decide_eq_true (by first | (with_reducible assumption) | assumption)
                            have q12 : (ji9) < (a0.size : Int) := of_decide_eq_true (by first | (with_reducible assumption) | assumption)
                            have hx12 := bt_at a0 (ji9)
                            replace p12 := eq_true p12
                            replace q12 := eq_true q12
                            have p17 : 0 ≤ ((ji9) : Int) := of_decide_eq_true (by first | (with_reducible assumption) | assumption)
                            have q17 : (ji9) < (a0.size : Int) := of_decide_eq_true (by first | (with_reducible assumption) | assumption)
                            have hx17 := bt_at a0 (ji9)
                            replace p17 := eq_true p17
                            replace q17 := eq_true q17
                            go_wp2_with (first | ((with_reducible refine gate_builtin (b := .append) (xs := #[.tmp 44, .tmp 46]) rfl ?_); (try (refine gate_guard (by rfl) ?_; dsimp only)); at_builtin; refine Kd.R_append (Kd.int .u8) (w0 := w) w.heap.size rfl (.tmp 44) (.tmp 46) 22 5 (.int .u8 0) 1 rfl Tryd.underlying22 info5 rfl (by decide) (by omega) u4 x4_1 (bt a0 (ji9)) [.int .u8 (bt a0 (ji9))] (fun _ => True) (fun _ => False) rfl rfl ?aP (fun _ hk => hk.elim) ?aF ?aO ?aB ?aS ?aL ?_; (case aP => exact rfl); (case aB => exact (by repeat (first | (with_reducible first | exact HB.out | apply below_alloc | apply pw_below_drewN | apply below_drew1) | exact HB.out))); (case aF => exact (fun _ _ => trivial)); (case aO => exact (by (with_reducible repeat (first | apply Kd.R_alloc | apply Kd.R_drewN | apply Kd.R_drew)); exact HO_4.out)); (case aS => exact (below_size (by repeat (first | (with_reducible first | exact HB.out | apply below_alloc | apply pw_below_drewN | apply below_drew1) | exact HB.out)))); (case aL => have := LMc18.out; omega); intro v169 w19 ho hb hg hat; rw [← Ny168.out] at ho; have n0_ := Aside0.mk (hb); have n1_ := Aside0.mk (ho); clear HB; clear HO_4; have HB := n0_; have HO170 := n1_; clear n0_ n1_; clear ho hb hg hat))
                            go_roundg kj5
                            case measure => have := HK1.out; have := HJ5.out; omega
                            case rel => exact ⟨(y168), (wrap64 ((ji9) + 1)), (by first | rfl | (simp; done) | (simp only [← hji9] <;> (first | rfl | simp)) | (simp [*]; done) | (simp [*, q_isEmpty]; done) | (simp [*]; exact q_gt _ _ (by assumption))), H', ⟨by have := HK1.out; have := HJ5.out; omega⟩, ⟨by (with_reducible repeat (first | apply Kd.R_alloc | apply Kd.R_drewN | apply Kd.R_drew)); exact HO170.out⟩, ⟨by repeat (first | (with_reducible first | exact HB.out | apply below_alloc | apply pw_below_drewN | apply below_drew1) | exact HB.out)⟩⟩
                          · rw [if_neg c18] at H
                            exact absurd H (by simp)
                        · rw [if_neg c16] at H
                          have c16b0 : ((bt a0 (ji9)) == 34) = false := beq_eq_false_iff_ne.mpr c16
                          have c16b1 : ((bt a0 (ji9)) != 34) = true := bne_iff_ne.mpr c16
                          by_cases c20 : (bt a0 (ji9)) = 92
                          · rw [if_pos c20] at H
                            have c20b0 : ((bt a0 (ji9)) == 92) = true := beq_iff_eq.mpr c20
                            have c20b1 : ((bt a0 (ji9)) != 92) = false := bne_eq_false_iff_eq.mpr c20
                            clear c20
                            by_cases c22 : x4_1.length < 140737488355328
                            · rw [if_pos c22] at H
                              have LMc22 := Aside0.mk c22
                              clear c22
                              obtain ⟨y171, hy171⟩ : ∃ y_ : List Int, y_ = (x4_1 ++ [bt a0 (ji9)]) := ⟨_, rfl⟩
                              replace H : (spec_escaped.l0 kj5 a0 y171 (wrap64 ((ji9) + 1))) = some (r1, r2) := by first | (rw [hy171]; with_reducible exact H) | (have H2_ := (Option.bind_some _ _).symm.trans H; rw [hy171]; with_reducible exact H2_) | (have H2_ := (Option.bind_some _ _).symm.trans H; with_reducible exact H2_) | with_reducible exact H | (rw [hy171]; exact H) | exact H
                              have Ny171 := Aside0.mk hy171
                              clear hy171
                              have H' := Aside0.mk H
                              clear H
                              have p12 : 0 ≤ ((ji9) : Int) := of_decide_eq_true (by first | (with_reducible assumption) | assumption)
                              have q12 : (ji9) < (a0.size : Int) := of_decide_eq_true (by first | (with_reducible assumption) | assumption)
                              have hx12 := bt_at a0 (ji9)
                              replace p12 := eq_true p12
                              replace q12 := eq_true q12
                              have p21 : 0 ≤ ((ji9) : Int) := of_decide_eq_true (by first | (with_reducible assumption) | assumption)
                              have q21 : (ji9) < (a0.size : Int) := of_decide_eq_true (by first | (with_reducible assumption) | assumption)
                              have hx21 := bt_at a0 (ji9)
                              replace p21 := eq_true p21
                              replace q21 := eq_true q21
                              go_wp2_with (first | ((with_reducible refine gate_builtin (b := .append) (xs := #[.tmp 44, .tmp 46]) rfl ?_); (try (refine gate_guard (by rfl) ?_; dsimp only)); at_builtin; refine Kd.R_append (Kd.int .u8) (w0 := w) w.heap.size rfl (.tmp 44) (.tmp 46) 22 5 (.int .u8 0) 1 rfl Tryd.underlying22 info5 rfl (by decide) (by omega) u4 x4_1 (bt a0 (ji9)) [.int .u8 (bt a0 (ji9))] (fun _ => True) (fun _ => False) rfl rfl ?aP (fun _ hk => hk.elim) ?aF ?aO ?aB ?aS ?aL ?_; (case aP => exact rfl); (case aB => exact (by repeat (first | (with_reducible first | exact HB.out | apply below_alloc | apply pw_below_drewN | apply below_drew1) | exact HB.out))); (case aF => exact (fun _ _ => trivial)); (case aO => exact (by (with_reducible repeat (first | apply Kd.R_alloc | apply Kd.R_drewN | apply Kd.R_drew)); exact HO_4.out)); (case aS => exact (below_size (by repeat (first | (with_reducible first | exact HB.out | apply below_alloc | apply pw_below_drewN | apply below_drew1) | exact HB.out)))); (case aL => have := LMc22.out; omega); intro v172 w23 ho hb hg hat; rw [← Ny171.out] at ho; have n0_ := Aside0.mk (hb); have n1_ := Aside0.mk (ho); clear HB; clear HO_4; have HB := n0_; have HO173 := n1_; clear n0_ n1_; clear ho hb hg hat))
                              go_roundg kj5
                              case measure => have := HK1.out; have := HJ5.out; omega
                              case rel => exact ⟨(y171), (wrap64 ((ji9) + 1)), (by first | rfl | (simp; done) | (simp only [← hji9] <;> (first | rfl | simp)) | (simp [*]; done) | (simp [*, q_isEmpty]; done) | (simp [*]; exact q_gt _ _ (by assumption))), H', ⟨by have := HK1.out; have := HJ5.out; omega⟩, ⟨by (with_reducible repeat (first | apply Kd.R_alloc | apply Kd.R_drewN | apply Kd.R_drew)); exact HO173.out⟩, ⟨by repeat (first | (with_reducible first | exact HB.out | apply below_alloc | apply pw_below_drewN | apply below_drew1) | exact HB.out)⟩⟩
                            · rw [if_neg c22] at H
                              exact absurd H (by simp)
                          · rw [if_neg c20] at H
                            have c20b0 : ((bt a0 (ji9)) == 92) = false := beq_eq_false_iff_ne.mpr c20
                            have c20b1 : ((bt a0 (ji9)) != 92) = true := bne_iff_ne.mpr c20
                            by_cases c24 : x4_1.length < 140737488355328
                            · rw [if_pos c24] at H
                              have LMc24 := Aside0.mk c24
                              clear c24
                              obtain ⟨y174, hy174⟩ : ∃ y_ : List Int, y_ = (x4_1 ++ [(bt a0 x5_1)]) := ⟨_, rfl⟩
                              replace H : (spec_escaped.l0 kj5 a0 y174 ji9) = some (r1, r2) := by first | (rw [hy174]; with_reducible exact H) | (have H2_ := (Option.bind_some _ _).symm.trans H; rw [hy174]; with_reducible exact H2_) | (have H2_ := (Option.bind_some _ _).symm.trans H; with_reducible exact H2_) | with_reducible exact H | (rw [hy174]; exact H) | exact H
                              have Ny174 := Aside0.mk hy174
                              clear hy174
                              have H' := Aside0.mk H
                              clear H
                              have p12 : 0 ≤ ((ji9) : Int) := of_decide_eq_true (by first | (with_reducible assumption) | assumption)
                              have q12 : (ji9) < (a0.size : Int) := of_decide_eq_true (by first | (with_reducible assumption) | assumption)
                              have hx12 := bt_at a0 (ji9)
                              replace p12 := eq_true p12
                              replace q12 := eq_true q12
                              go_wp2_with (first | ((with_reducible refine gate_builtin (b := .append) (xs := #[.tmp 44, .tmp 46]) rfl ?_); (try (refine gate_guard (by rfl) ?_; dsimp only)); at_builtin; refine Kd.R_append (Kd.int .u8) (w0 := w) w.heap.size rfl (.tmp 44) (.tmp 46) 22 5 (.int .u8 0) 1 rfl Tryd.underlying22 info5 rfl (by decide) (by omega) u4 x4_1 (bt a0 x5_1) [.int .u8 (bt a0 x5_1)] (fun _ => True) (fun _ => False) rfl rfl ?aP (fun _ hk => hk.elim) ?aF ?aO ?aB ?aS ?aL ?_; (case aP => exact rfl); (case aB => exact (by repeat (first | (with_reducible first | exact HB.out | apply below_alloc | apply pw_below_drewN | apply below_drew1) | exact HB.out))); (case aF => exact (fun _ _ => trivial)); (case aO => exact (by (with_reducible repeat (first | apply Kd.R_alloc | apply Kd.R_drewN | apply Kd.R_drew)); exact HO_4.out)); (case aS => exact (below_size (by repeat (first | (with_reducible first | exact HB.out | apply below_alloc | apply pw_below_drewN | apply below_drew1) | exact HB.out)))); (case aL => have := LMc24.out; omega); intro v175 w25 ho hb hg hat; rw [← Ny174.out] at ho; have n0_ := Aside0.mk (hb); have n1_ := Aside0.mk (ho); clear HB; clear HO_4; have HB := n0_; have HO176 := n1_; clear n0_ n1_; clear ho hb hg hat))
                              go_roundg kj5
                              case measure => have := HK1.out; have := HJ5.out; omega
                              case rel => exact ⟨(y174), (ji9), (by first | rfl | (simp; done) | (simp only [← hji9] <;> (first | rfl | simp)) | (simp [*]; done) | (simp [*, q_isEmpty]; done) | (simp [*]; exact q_gt _ _ (by assumption))), H', ⟨by have := HK1.out; have := HJ5.out; omega⟩, ⟨by (with_reducible repeat (first | apply Kd.R_alloc | apply Kd.R_drewN | apply Kd.R_drew)); exact HO176.out⟩, ⟨by repeat (first | (with_reducible first | exact HB.out | apply below_alloc | apply pw_below_drewN | apply below_drew1) | exact HB.out)⟩⟩
                            · rw [if_neg c24] at H
                              exact absurd H (by simp)
                    · rw [if_neg c11] at H
                      exact absurd H (by simp)
                  · rw [if_neg c10] at H
                    exact absurd H (by simp)
                · replace c8 := Bool.eq_false_iff.mpr c8
                  subst c8
                  have H1 : (if x4_1.length < 140737488355328 then (spec_escaped.l0 kj5 a0 (x4_1 ++ [(bt a0 x5_1)]) (wrap64 (x5_1 + 1))) else (none)) = some (r1, r2) := by rw [if_neg (show ¬ (false = true) by decide)] at H; exact H
                  clear H
                  have H := H1
                  clear H1
                  by_cases c26 : x4_1.length < 140737488355328
                  · rw [if_pos c26] at H
                    have LMc26 := Aside0.mk c26
                    clear c26
                    obtain ⟨y177, hy177⟩ : ∃ y_ : List Int, y_ = (x4_1 ++ [(bt a0 x5_1)]) := ⟨_, rfl⟩
                    replace H : (spec_escaped.l0 kj5 a0 y177 (wrap64 (x5_1 + 1))) = some (r1, r2) := by first | (rw [hy177]; with_reducible exact H) | (have H2_ := (Option.bind_some _ _).symm.trans H; rw [hy177]; with_reducible exact H2_) | (have H2_ := (Option.bind_some _ _).symm.trans H; with_reducible exact H2_) | with_reducible exact H | (rw [hy177]; exact H) | exact H
                    have Ny177 := Aside0.mk hy177
                    clear hy177
                    have H' := Aside0.mk H
                    clear H
                    go_wp2_with (first | ((with_reducible refine gate_builtin (b := .append) (xs := #[.tmp 44, .tmp 46]) rfl ?_); (try (refine gate_guard (by rfl) ?_; dsimp only)); at_builtin; refine Kd.R_append (Kd.int .u8) (w0 := w) w.heap.size rfl (.tmp 44) (.tmp 46) 22 5 (.int .u8 0) 1 rfl Tryd.underlying22 info5 rfl (by decide) (by omega) u4 x4_1 (bt a0 x5_1) [.int .u8 (bt a0 x5_1)] (fun _ => True) (fun _ => False) rfl rfl ?aP (fun _ hk => hk.elim) ?aF ?aO ?aB ?aS ?aL ?_; (case aP => exact rfl); (case aB => exact (by repeat (first | (with_reducible first | exact HB.out | apply below_alloc | apply pw_below_drewN | apply below_drew1) | exact HB.out))); (case aF => exact (fun _ _ => trivial)); (case aO => exact (by (with_reducible repeat (first | apply Kd.R_alloc | apply Kd.R_drewN | apply Kd.R_drew)); exact HO_4.out)); (case aS => exact (below_size (by repeat (first | (with_reducible first | exact HB.out | apply below_alloc | apply pw_below_drewN | apply below_drew1) | exact HB.out)))); (case aL => have := LMc26.out; omega); intro v178 w27 ho hb hg hat; rw [← Ny177.out] at ho; have n0_ := Aside0.mk (hb); have n1_ := Aside0.mk (ho); clear HB; clear HO_4; have HB := n0_; have HO179 := n1_; clear n0_ n1_; clear ho hb hg hat))
                    go_roundg kj5
                    case measure => have := HK1.out; have := HJ5.out; omega
                    case rel => exact ⟨(y177), (wrap64 (x5_1 + 1)), (by first | rfl | (simp; done) | (simp [*]; done) | (simp [*, q_isEmpty]; done) | (simp [*]; exact q_gt _ _ (by assumption))), H', ⟨by have := HK1.out; have := HJ5.out; omega⟩, ⟨by (with_reducible repeat (first | apply Kd.R_alloc | apply Kd.R_drewN | apply Kd.R_drew)); exact HO179.out⟩, ⟨by repeat (first | (with_reducible first | exact HB.out | apply below_alloc | apply pw_below_drewN | apply below_drew1) | exact HB.out)⟩⟩
                  · rw [if_neg c26] at H
                    exact absurd H (by simp)
        · rw [if_neg c3] at H
          exact absurd H (by simp)
      · rw [if_neg c2] at H
        have c2b0 : decide (x5_1 < (a0.size : Int)) = false := decide_eq_false c2
        clear c2
        simp only [Option.some.injEq, Prod.mk.injEq] at H
        obtain ⟨rfl, rfl⟩ := H
        have hcv28 := own_string (P := Tryd.prog) Tryd.underlying22 Tryd.underlying5 Tryd.underlying9 (Kd.own_of_R HO_4.out)
        go_wp2
        go_ret2
        exact ⟨by first | rfl | (simp [errW_none, errW_some] <;> rfl) | (simp [*, errW_none, errW_some] <;> rfl) | (simp [*, q_isEmpty]; done) | (simp [*]; exact q_gt _ _ (by assumption)), by repeat (first | (with_reducible first | exact HB.out | apply below_alloc | apply pw_below_drewN | apply below_drew1) | exact HB.out)⟩

end Go.Proofs.YtkngnoipipnioaaDoor.Q
namespace Go.Proofs.YtkngnoipipnioaaDoor.Q
open Go.RowKit Go.Proofs.YtkngnoipipnioaaDoorW.PrintWords Go.Proofs.YtkngnoipipnioaaDoorW.PrintLast Go.Proofs.YtkngnoipipnioaaDoorW.PrintMore
attribute [local go_sem] max2_int min2_int max_two min_two max_three min_three max_four min_four   -- for this text's walks alone
set_option linter.unusedVariables false
set_option linter.unusedSimpArgs false

/-! ### spec_classicValue: function 25 -/
mutual
def spec_classicValue.j0 : Nat → ByteArray → Bool → Option (ByteArray × Int)
  | 0, _, _ => none
  | k + 1, x0, x4 => if (x0.size : Int) > 0 then (if 0 ≤ (wrap64 ((x0.size : Int) - 1)) then (if (wrap64 ((x0.size : Int) - 1)) < (x0.size : Int) then (if (bt x0 (wrap64 ((x0.size : Int) - 1))) = 34 then ((spec_endsEscaped.f k x0).bind fun t180 => (spec_classicValue.j1 k x0 x4 (!t180))) else (spec_classicValue.j1 k x0 x4 false)) else (none)) else (none)) else (spec_classicValue.j1 k x0 x4 false)
def spec_classicValue.j1 : Nat → ByteArray → Bool → Bool → Option (ByteArray × Int)
  | 0, _, _, _ => none
  | k + 1, x0, x4, x5 => if x4 = true then (if x5 = true then (spec_classicValue.j2 k x0 x4 x5 (decide ((x0.size : Int) > 1))) else (spec_classicValue.j2 k x0 x4 x5 false)) else (spec_classicValue.j2 k x0 x4 x5 false)
def spec_classicValue.j2 : Nat → ByteArray → Bool → Bool → Bool → Option (ByteArray × Int)
  | 0, _, _, _, _ => none
  | k + 1, x0, x4, x5, x38 => if x38 = true then (if 1 ≤ (wrap64 ((x0.size : Int) - 1)) then (if (wrap64 ((x0.size : Int) - 1)) ≤ (x0.size : Int) then ((spec_escaped.f k (x0.extract 1 ((wrap64 ((x0.size : Int) - 1)) : Int).toNat)).bind fun bt181 => (some (bt181.1, bt181.2))) else (none)) else (none)) else (if x4 = true then (some ((⟨#[]⟩ : ByteArray), 2)) else (if x5 = true then (some ((⟨#[]⟩ : ByteArray), 2)) else ((spec_escaped.f k x0).bind fun bt183 => (some (bt183.1, bt183.2)))))
end
def spec_classicValue.f (k : Nat) (a0 : ByteArray) : Option (ByteArray × Int) := if (a0.size : Int) > 0 then (if 0 < (a0.size : Int) then (spec_classicValue.j0 k a0 ((bt a0 0) == 34)) else (none)) else (spec_classicValue.j0 k a0 false)
theorem spec_classicValue.mono_l : ∀ k, (∀ y0 y1, LeO (spec_classicValue.j0 k y0 y1) (spec_classicValue.j0 (k + 1) y0 y1)) ∧ (∀ y0 y1 y2, LeO (spec_classicValue.j1 k y0 y1 y2) (spec_classicValue.j1 (k + 1) y0 y1 y2)) ∧ (∀ y0 y1 y2 y3, LeO (spec_classicValue.j2 k y0 y1 y2 y3) (spec_classicValue.j2 (k + 1) y0 y1 y2 y3))
  | 0 => ⟨fun _ _ r h => by simp [spec_classicValue.j0] at h, fun _ _ _ r h => by simp [spec_classicValue.j1] at h, fun _ _ _ _ r h => by simp [spec_classicValue.j2] at h⟩
  | k + 1 => by
    obtain ⟨ih0, ih1, ih2⟩ := spec_classicValue.mono_l k
    refine ⟨?_, ?_, ?_⟩
    · intro y0 y1
      unfold spec_classicValue.j0
      repeat' first
      | (with_reducible exact ih0 _ _)
      | (with_reducible exact ih1 _ _ _)
      | (with_reducible exact ih2 _ _ _ _)
      | (with_reducible exact spec_endsEscaped.mono _ _)
      | (with_reducible exact spec_escaped.mono _ _)
      | (with_reducible exact LeO.refl _)
      | (with_reducible exact LeO.none _)
      | (with_reducible refine LeO.ite ?_ ?_)
      | (with_reducible refine LeO.bind ?_ (fun _ => ?_))
      | exact ih0 _ _
      | exact ih1 _ _ _
      | exact ih2 _ _ _ _
      | exact spec_endsEscaped.mono _ _
      | exact spec_escaped.mono _ _
      | exact LeO.none _
      | refine LeO.ite ?_ ?_
      | refine LeO.bind ?_ (fun _ => ?_)
    · intro y0 y1 y2
      unfold spec_classicValue.j1
      repeat' first
      | (with_reducible exact ih0 _ _)
      | (with_reducible exact ih1 _ _ _)
      | (with_reducible exact ih2 _ _ _ _)
      | (with_reducible exact spec_endsEscaped.mono _ _)
      | (with_reducible exact spec_escaped.mono _ _)
      | (with_reducible exact LeO.refl _)
      | (with_reducible exact LeO.none _)
      | (with_reducible refine LeO.ite ?_ ?_)
      | (with_reducible refine LeO.bind ?_ (fun _ => ?_))
      | exact ih0 _ _
      | exact ih1 _ _ _
      | exact ih2 _ _ _ _
      | exact spec_endsEscaped.mono _ _
      | exact spec_escaped.mono _ _
      | exact LeO.none _
      | refine LeO.ite ?_ ?_
      | refine LeO.bind ?_ (fun _ => ?_)
    · intro y0 y1 y2 y3
      unfold spec_classicValue.j2
      repeat' first
      | (with_reducible exact ih0 _ _)
      | (with_reducible exact ih1 _ _ _)
      | (with_reducible exact ih2 _ _ _ _)
      | (with_reducible exact spec_endsEscaped.mono _ _)
      | (with_reducible exact spec_escaped.mono _ _)
      | (with_reducible exact LeO.refl _)
      | (with_reducible exact LeO.none _)
      | (with_reducible refine LeO.ite ?_ ?_)
      | (with_reducible refine LeO.bind ?_ (fun _ => ?_))
      | exact ih0 _ _
      | exact ih1 _ _ _
      | exact ih2 _ _ _ _
      | exact spec_endsEscaped.mono _ _
      | exact spec_escaped.mono _ _
      | exact LeO.none _
      | refine LeO.ite ?_ ?_
      | refine LeO.bind ?_ (fun _ => ?_)
theorem spec_classicValue.mono : ∀ a0 k, LeO (spec_classicValue.f k a0) (spec_classicValue.f (k + 1) a0) := by
  intro a0 k
  obtain ⟨ih0, ih1, ih2⟩ := spec_classicValue.mono_l k
  unfold spec_classicValue.f
  repeat' first
      | (with_reducible exact ih0 _ _)
      | (with_reducible exact ih1 _ _ _)
      | (with_reducible exact ih2 _ _ _ _)
      | (with_reducible exact spec_endsEscaped.mono _ _)
      | (with_reducible exact spec_escaped.mono _ _)
      | (with_reducible exact LeO.refl _)
      | (with_reducible exact LeO.none _)
      | (with_reducible refine LeO.ite ?_ ?_)
      | (with_reducible refine LeO.bind ?_ (fun _ => ?_))
      | exact ih0 _ _
      | exact ih1 _ _ _
      | exact ih2 _ _ _ _
      | exact spec_endsEscaped.mono _ _
      | exact spec_escaped.mono _ _
      | exact LeO.none _
      | refine LeO.ite ?_ ?_
      | refine LeO.bind ?_ (fun _ => ?_)
set_option maxHeartbeats 8000000 in
set_option maxRecDepth 100000 in
theorem spec_classicValue.calls (k : Nat) (a0 : ByteArray) (r1 : ByteArray) (r2 : Int) (w : World) (h : spec_classicValue.f k a0 = some (r1, r2)) :
    Calls Tryd.prog 25 #[.string a0] w fun e w' => e = .returned (.tuple #[.string r1, .int .i64 r2]) ∧ Below w.heap.size w w' := by
  have HB := Aside0.mk (Below.refl w.heap.size w)
  have H : (if (a0.size : Int) > 0 then (if 0 < (a0.size : Int) then (spec_classicValue.j0 k a0 ((bt a0 0) == 34)) else (none)) else (spec_classicValue.j0 k a0 false)) = some (r1, r2) := h
  clear h
  have HC2 := Aside0.mk H
  clear H
  go_enter Tryd.func25, Tryd.ntmps25
  go_upto_region 1 with (fail)
  go_cut [4] (fun v4 wc => ∃ (kq : Nat) (x4_1 : Bool), v4 = .bool x4_1 ∧ Aside0 (spec_classicValue.j0 kq a0 x4_1 = some (r1, r2)) ∧ Aside0 (kq ≤ k) ∧ Aside0 (Below w.heap.size w wc))
  case first =>
    have H := HC2.out
    clear HC2
    by_cases c3 : (a0.size : Int) > 0
    · rw [if_pos c3] at H
      have c3b0 : decide (0 < (a0.size : Int)) = true := decide_eq_true c3
      have c3b1 : decide (0 < a0.size) = true := decide_eq_true (by omega)
      clear c3
      (first | rw [c3b0] | (simp only [i64_w, i32_w]; rw [c3b0]) | skip)
      by_cases c4 : 0 < (a0.size : Int)
      · rw [if_pos c4] at H
        have c4b0 : decide (0 < (a0.size : Int)) = true := decide_eq_true c4
        have c4b1 : decide (0 < a0.size) = true := decide_eq_true (by omega)
        clear c4
        have H' := Aside0.mk H
        clear H
        have p5 : 0 ≤ (0 : Int) := (by omega)
        have q5 : 0 < a0.size := (by have : (0 : Int) < (a0.size : Int) := of_decide_eq_true (by first | (with_reducible assumption) | assumption); omega)
        have hx5 : ∀ h : 0 < a0.size, ((a0[0]'h).toNat : Int) = bt a0 0 := bt_at a0 0
        clear p5
        have qi5 : (0 < (a0.size : Int)) = True := eq_true (of_decide_eq_true (by first | (with_reducible assumption) | assumption))
        replace q5 := eq_true q5
        go_wp2
        go_meet
        case rel => exact ⟨_, (((bt a0 0) == 34)), (by first | rfl | (simp; done) | (simp [*]; done) | (simp [*, q_isEmpty]; done) | (simp [*]; exact q_gt _ _ (by assumption))), H', ⟨by first | omega | exact Nat.le_refl _⟩, ⟨by repeat (first | (with_reducible first | exact HB.out | apply below_alloc | apply pw_below_drewN | apply below_drew1) | exact HB.out)⟩⟩
      · rw [if_neg c4] at H
        exact absurd H (by simp)
    · rw [if_neg c3] at H
      have c3b0 : decide (0 < (a0.size : Int)) = false := decide_eq_false c3
      have c3b1 : decide (0 < a0.size) = false := decide_eq_false (by omega)
      clear c3
      (first | rw [c3b0] | (simp only [i64_w, i32_w]; rw [c3b0]) | skip)
      have H' := Aside0.mk H
      clear H
      go_wp2
      go_meet
      case rel => exact ⟨_, (false), (by first | rfl | (simp; done) | (simp [*]; done) | (simp [*, q_isEmpty]; done) | (simp [*]; exact q_gt _ _ (by assumption))), H', ⟨by first | omega | exact Nat.le_refl _⟩, ⟨by repeat (first | (with_reducible first | exact HB.out | apply below_alloc | apply pw_below_drewN | apply below_drew1) | exact HB.out)⟩⟩
  case rest =>
    clear HC2
    try clear c2
    try clear p2
    try clear c3
    try clear c3b0
    try clear c3b1
    try clear c4
    try clear c4b0
    try clear c4b1
    try clear p5
    try clear q5
    try clear hx5
    try clear qi5
    try clear p5
    try clear q5
    obtain ⟨kq, x4_1, rfl, HA, HJ1, HB⟩ := hcut
    cases kq with
    | zero => exact absurd HA.out (by simp [spec_classicValue.j0])
    | succ kj1 =>
      have H := HA.out
      clear HA
      simp only [spec_classicValue.j0] at H
      have HC6 := Aside0.mk H
      clear H
      go_upto_region 2 with (fail)
      go_cut [5] (fun v5 wc => ∃ (kq : Nat) (x5_5 : Bool), v5 = .bool x5_5 ∧ Aside0 (spec_classicValue.j1 kq a0 x4_1 x5_5 = some (r1, r2)) ∧ Aside0 (kq ≤ kj1) ∧ Aside0 (Below w.heap.size w wc))
      case first =>
        have H := HC6.out
        clear HC6
        by_cases c7 : (a0.size : Int) > 0
        · rw [if_pos c7] at H
          have c7b0 : decide (0 < (a0.size : Int)) = true := decide_eq_true c7
          have c7b1 : decide (0 < a0.size) = true := decide_eq_true (by omega)
          clear c7
          (first | rw [c7b0] | (simp only [i64_w, i32_w]; rw [c7b0]) | skip)
          obtain ⟨ji8, hji8⟩ : ∃ j_ : Int, (wrap64 ((a0.size : Int) - 1)) = j_ := ⟨_, rfl⟩
          replace H : (if 0 ≤ (ji8) then (if (ji8) < (a0.size : Int) then (if (bt a0 (ji8)) = 34 then ((spec_endsEscaped.f kj1 a0).bind fun t180 => (spec_classicValue.j1 kj1 a0 x4_1 (!t180))) else (spec_classicValue.j1 kj1 a0 x4_1 false)) else (none)) else (none)) = some (r1, r2) := by first | (rw [hji8] at H; exact H) | (simp only [hji8] at H ⊢; exact H)
          have hji8w : (IntKind.i64.wrap ((a0.size : Int) - 1)) = ji8 := (i64_w _).trans hji8
          by_cases c9 : 0 ≤ (ji8)
          · rw [if_pos c9] at H
            have c9b0 : decide (0 ≤ (ji8)) = true := decide_eq_true c9
            clear c9
            by_cases c10 : (ji8) < (a0.size : Int)
            · rw [if_pos c10] at H
              have c10b0 : decide ((ji8) < (a0.size : Int)) = true := decide_eq_true c10
              clear c10
              by_cases c12 : (bt a0 (ji8)) = 34
              · rw [if_pos c12] at H
                have c12b0 : ((bt a0 (ji8)) == 34) = true := beq_iff_eq.mpr c12
                have c12b1 : ((bt a0 (ji8)) != 34) = false := bne_eq_false_iff_eq.mpr c12
                clear c12
                replace H := Option.bind_eq_some_iff.mp H
                obtain ⟨t180, A130, H⟩ := H
                replace H : (spec_classicValue.j1 kj1 a0 x4_1 (!t180)) = some (r1, r2) := H
                have A13 := Aside0.mk A130
                clear A130
                have H' := Aside0.mk H
                clear H
                have p11 : 0 ≤ ((ji8) : Int) := of_decide_eq_true (by first | (with_reducible assumption) | assumption)
                have q11 : (ji8) < (a0.size : Int) := of_decide_eq_true (by first | (with_reducible assumption) | assumption)
                have hx11 := bt_at a0 (ji8)
                replace p11 := eq_true p11
                replace q11 := eq_true q11
                go_wp2_with (first | (go_at_call 44; (with_reducible refine (spec_endsEscaped.calls kj1 a0 t180 _ A13.out).mono ?_); rintro e w' ⟨rfl, ⟨nd, rfl⟩⟩))
                go_meet
                case rel => exact ⟨_, (!t180), (by first | rfl | (simp; done) | (simp [*]; done) | (simp [*, q_isEmpty]; done) | (simp [*]; exact q_gt _ _ (by assumption))), H', ⟨by have := HJ1.out; first | omega | exact Nat.le_refl _⟩, ⟨by repeat (first | (with_reducible first | exact HB.out | apply below_alloc | apply pw_below_drewN | apply below_drew1) | exact HB.out)⟩⟩
              · rw [if_neg c12] at H
                have c12b0 : ((bt a0 (ji8)) == 34) = false := beq_eq_false_iff_ne.mpr c12
                have c12b1 : ((bt a0 (ji8)) != 34) = true := bne_iff_ne.mpr c12
                have H' := Aside0.mk H
                clear H
                have p11 : 0 ≤ ((ji8) : Int) := of_decide_eq_true (by first | (with_reducible assumption) | assumption)
                have q11 : (ji8) < (a0.size : Int) := of_decide_eq_true (by first | (with_reducible assumption) | assumption)
                have hx11 := bt_at a0 (ji8)
                replace p11 := eq_true p11
                replace q11 := eq_true q11
                go_wp2
                go_meet
                case rel => exact ⟨_, (false), (by first | rfl | (simp; done) | (simp [*]; done) | (simp [*, q_isEmpty]; done) | (simp [*]; exact q_gt _ _ (by assumption))), H', ⟨by have := HJ1.out; first | omega | exact Nat.le_refl _⟩, ⟨by repeat (first | (with_reducible first | exact HB.out | apply below_alloc | apply pw_below_drewN | apply below_drew1) | exact HB.out)⟩⟩
            · rw [if_neg c10] at H
              exact absurd H (by simp)
          · rw [if_neg c9] at H
            exact absurd H (by simp)
        · rw [if_neg c7] at H
          have c7b0 : decide (0 < (a0.size : Int)) = false := decide_eq_false c7
          have c7b1 : decide (0 < a0.size) = false := decide_eq_false (by omega)
          clear c7
          (first | rw [c7b0] | (simp only [i64_w, i32_w]; rw [c7b0]) | skip)
          have H' := Aside0.mk H
          clear H
          go_wp2
          go_meet
          case rel => exact ⟨_, (false), (by first | rfl | (simp; done) | (simp [*]; done) | (simp [*, q_isEmpty]; done) | (simp [*]; exact q_gt _ _ (by assumption))), H', ⟨by have := HJ1.out; first | omega | exact Nat.le_refl _⟩, ⟨by repeat (first | (with_reducible first | exact HB.out | apply below_alloc | apply pw_below_drewN | apply below_drew1) | exact HB.out)⟩⟩
      case rest =>
        clear HC6
        try clear c1
        try clear p1
        try clear q1
        try clear hx1
        try clear c2
        try clear p2
        try clear c3
        try clear c3b0
        try clear c3b1
        try clear c4
        try clear c4b0
        try clear c4b1
        try clear p5
        try clear q5
        try clear hx5
        try clear qi5
        try clear p6
        try clear c7
        try clear c7b0
        try clear c7b1
        try clear c9
        try clear c9b0
        try clear c10
        try clear c10b0
        try clear p11
        try clear q11
        try clear hx11
        try clear c12
        try clear c12b0
        try clear c12b1
        try clear p11
        try clear p2
        try clear p5
        try clear q11
        try clear q5
        obtain ⟨kq, x5_5, rfl, HA, HJ5, HB⟩ := hcut
        cases kq with
        | zero => exact absurd HA.out (by simp [spec_classicValue.j1])
        | succ kj5 =>
          have H := HA.out
          clear HA
          simp only [spec_classicValue.j1] at H
          have HC14 := Aside0.mk H
          clear H
          go_upto_region 3 with (fail)
          go_cut [38] (fun v38 wc => ∃ (kq : Nat) (x38_13 : Bool), v38 = .bool x38_13 ∧ Aside0 (spec_classicValue.j2 kq a0 x4_1 x5_5 x38_13 = some (r1, r2)) ∧ Aside0 (kq ≤ kj5) ∧ Aside0 (Below w.heap.size w wc))
          case first =>
            have H := HC14.out
            clear HC14
            by_cases c15 : x4_1 = true
            · subst c15
              have H1 : (if x5_5 = true then (spec_classicValue.j2 kj5 a0 true x5_5 (decide ((a0.size : Int) > 1))) else (spec_classicValue.j2 kj5 a0 true x5_5 false)) = some (r1, r2) := by rw [if_pos rfl] at H; exact H
              clear H
              have H := H1
              clear H1
              by_cases c16 : x5_5 = true
              · subst c16
                have H1 : (spec_classicValue.j2 kj5 a0 true true (decide ((a0.size : Int) > 1))) = some (r1, r2) := by rw [if_pos rfl] at H; exact H
                clear H
                have H := H1
                clear H1
                have H' := Aside0.mk H
                clear H
                go_wp2
                go_meet
                case rel => exact ⟨_, (decide ((a0.size : Int) > 1)), (by first | rfl | (simp; done) | (simp [*]; done) | (simp [*, q_isEmpty]; done) | (simp [*]; exact q_gt _ _ (by assumption))), H', ⟨by have := HJ1.out; have := HJ5.out; first | omega | exact Nat.le_refl _⟩, ⟨by repeat (first | (with_reducible first | exact HB.out | apply below_alloc | apply pw_below_drewN | apply below_drew1) | exact HB.out)⟩⟩
              · replace c16 := Bool.eq_false_iff.mpr c16
                subst c16
                have H1 : (spec_classicValue.j2 kj5 a0 true false false) = some (r1, r2) := by rw [if_neg (show ¬ (false = true) by decide)] at H; exact H
                clear H
                have H := H1
                clear H1
                have H' := Aside0.mk H
                clear H
                go_wp2
                go_meet
                case rel => exact ⟨_, (false), (by first | rfl | (simp; done) | (simp [*]; done) | (simp [*, q_isEmpty]; done) | (simp [*]; exact q_gt _ _ (by assumption))), H', ⟨by have := HJ1.out; have := HJ5.out; first | omega | exact Nat.le_refl _⟩, ⟨by repeat (first | (with_reducible first | exact HB.out | apply below_alloc | apply pw_below_drewN | apply below_drew1) | exact HB.out)⟩⟩
            · replace c15 := Bool.eq_false_iff.mpr c15
              subst c15
              have H1 : (spec_classicValue.j2 kj5 a0 false x5_5 false) = some (r1, r2) := by rw [if_neg (show ¬ (false = true) by decide)] at H; exact H
              clear H
              have H := H1
              clear H1
              have H' := Aside0.mk H
              clear H
              go_wp2
              go_meet
              case rel => exact ⟨_, (false), (by first | rfl | (simp; done) | (simp [*]; done) | (simp [*, q_isEmpty]; done) | (simp [*]; exact q_gt _ _ (by assumption))), H', ⟨by have := HJ1.out; have := HJ5.out; first | omega | exact Nat.le_refl _⟩, ⟨by repeat (first | (with_reducible first | exact HB.out | apply below_alloc | apply pw_below_drewN | apply below_drew1) | exact HB.out)⟩⟩
          case rest =>
            clear HC14
            try clear c1
            try clear p1
            try clear q1
            try clear hx1
            try clear c2
            try clear p2
            try clear c3
            try clear c3b0
            try clear c3b1
            try clear c4
            try clear c4b0
            try clear c4b1
            try clear p5
            try clear q5
            try clear hx5
            try clear qi5
            try clear p6
            try clear c7
            try clear c7b0
            try clear c7b1
            try clear c9
            try clear c9b0
            try clear c10
            try clear c10b0
            try clear p11
            try clear q11
            try clear hx11
            try clear c12
            try clear c12b0
            try clear c12b1
            try clear c15
            try clear c16
            try clear p1
            try clear p11
            try clear p2
            try clear p5
            try clear p6
            try clear q1
            try clear q11
            try clear q5
            obtain ⟨kq, x38_13, rfl, HA, HJ13, HB⟩ := hcut
            cases kq with
            | zero => exact absurd HA.out (by simp [spec_classicValue.j2])
            | succ kj13 =>
              have H := HA.out
              clear HA
              simp only [spec_classicValue.j2] at H
              by_cases c17 : x38_13 = true
              · subst c17
                have H1 : (if 1 ≤ (wrap64 ((a0.size : Int) - 1)) then (if (wrap64 ((a0.size : Int) - 1)) ≤ (a0.size : Int) then ((spec_escaped.f kj13 (a0.extract 1 ((wrap64 ((a0.size : Int) - 1)) : Int).toNat)).bind fun bt181 => (some (bt181.1, bt181.2))) else (none)) else (none)) = some (r1, r2) := by rw [if_pos rfl] at H; exact H
                clear H
                have H := H1
                clear H1
                by_cases c18 : 1 ≤ (wrap64 ((a0.size : Int) - 1))
                · rw [if_pos c18] at H
                  have c18b0 := eq_true c18
                  have c18b1 : decide (1 ≤ (wrap64 ((a0.size : Int) - 1))) = true := decide_eq_true c18
                  clear c18
                  by_cases c19 : (wrap64 ((a0.size : Int) - 1)) ≤ (a0.size : Int)
                  · rw [if_pos c19] at H
                    have c19b0 := eq_true c19
                    have c19b1 : decide ((wrap64 ((a0.size : Int) - 1)) ≤ (a0.size : Int)) = true := decide_eq_true c19
                    clear c19
                    replace H := Option.bind_eq_some_iff.mp H
                    obtain ⟨⟨t181, t182⟩, A200, H⟩ := H
                    replace H : (some (t181, t182)) = some (r1, r2) := H
                    have A20 := Aside0.mk A200
                    clear A200
                    simp only [Option.some.injEq, Prod.mk.injEq] at H
                    obtain ⟨rfl, rfl⟩ := H
                    go_wp2_with (first | ((with_reducible refine gate_callee (f := 45) rfl ?_); refine goesL_ (some 44) rfl rfl Tryd.func45 (by kernel_rfl) rfl #[.string (a0.extract 1 ((wrap64 ((a0.size : Int) - 1)) : Int).toNat)] rfl (by (try simp only [List.map_toArray, List.map_cons, List.map_nil]); first | done | rfl | (simp only [List.length_drop, List.length_take]; rfl)) ?_; (with_reducible refine (spec_escaped.calls kj13 (a0.extract 1 ((wrap64 ((a0.size : Int) - 1)) : Int).toNat) t181 t182 _ A20.out).mono ?_); rintro e w21 ⟨rfl, hb⟩; refine ⟨_, rfl, ?_⟩; have n0_ := Aside0.mk (below_step (by repeat (first | (with_reducible first | exact HB.out | apply below_alloc | apply pw_below_drewN | apply below_drew1) | exact HB.out)) hb); clear HB; have HB := n0_; clear n0_; (try clear hb); (try clear hb2); (try clear hk); (try clear hi)))
                    go_ret2
                    exact ⟨by first | rfl | (simp [errW_none, errW_some] <;> rfl) | (simp [*, errW_none, errW_some] <;> rfl) | (simp [*, q_isEmpty]; done) | (simp [*]; exact q_gt _ _ (by assumption)), by repeat (first | (with_reducible first | exact HB.out | apply below_alloc | apply pw_below_drewN | apply below_drew1) | exact HB.out)⟩
                  · rw [if_neg c19] at H
                    exact absurd H (by simp)
                · rw [if_neg c18] at H
                  exact absurd H (by simp)
              · replace c17 := Bool.eq_false_iff.mpr c17
                subst c17
                have H1 : (if x4_1 = true then (some ((⟨#[]⟩ : ByteArray), 2)) else (if x5_5 = true then (some ((⟨#[]⟩ : ByteArray), 2)) else ((spec_escaped.f kj13 a0).bind fun bt183 => (some (bt183.1, bt183.2))))) = some (r1, r2) := by rw [if_neg (show ¬ (false = true) by decide)] at H; exact H
                clear H
                have H := H1
                clear H1
                by_cases c22 : x4_1 = true
                · subst c22
                  have H1 : (some ((⟨#[]⟩ : ByteArray), 2)) = some (r1, r2) := by rw [if_pos rfl] at H; exact H
                  clear H
                  have H := H1
                  clear H1
                  simp only [Option.some.injEq, Prod.mk.injEq] at H
                  obtain ⟨rfl, rfl⟩ := H
                  go_wp2
                  go_ret2
                  exact ⟨by first | rfl | (simp [errW_none, errW_some] <;> rfl) | (simp [*, errW_none, errW_some] <;> rfl) | (simp [*, q_isEmpty]; done) | (simp [*]; exact q_gt _ _ (by assumption)), by repeat (first | (with_reducible first | exact HB.out | apply below_alloc | apply pw_below_drewN | apply below_drew1) | exact HB.out)⟩
                · replace c22 := Bool.eq_false_iff.mpr c22
                  subst c22
                  have H1 : (if x5_5 = true then (some ((⟨#[]⟩ : ByteArray), 2)) else ((spec_escaped.f kj13 a0).bind fun bt183 => (some (bt183.1, bt183.2)))) = some (r1, r2) := by rw [if_neg (show ¬ (false = true) by decide)] at H; exact H
                  clear H
                  have H := H1
                  clear H1
                  by_cases c23 : x5_5 = true
                  · subst c23
                    have H1 : (some ((⟨#[]⟩ : ByteArray), 2)) = some (r1, r2) := by rw [if_pos rfl] at H; exact H
                    clear H
                    have H := H1
                    clear H1
                    simp only [Option.some.injEq, Prod.mk.injEq] at H
                    obtain ⟨rfl, rfl⟩ := H
                    go_wp2
                    go_ret2
                    exact ⟨by first | rfl | (simp [errW_none, errW_some] <;> rfl) | (simp [*, errW_none, errW_some] <;> rfl) | (simp [*, q_isEmpty]; done) | (simp [*]; exact q_gt _ _ (by assumption)), by repeat (first | (with_reducible first | exact HB.out | apply below_alloc | apply pw_below_drewN | apply below_drew1) | exact HB.out)⟩
                  · replace c23 := Bool.eq_false_iff.mpr c23
                    subst c23
                    have H1 : ((spec_escaped.f kj13 a0).bind fun bt183 => (some (bt183.1, bt183.2))) = some (r1, r2) := by rw [if_neg (show ¬ (false = true) by decide)] at H; exact H
                    clear H
                    have H := H1
                    clear H1
                    replace H := Option.bind_eq_some_iff.mp H
                    obtain ⟨⟨t183, t184⟩, A240, H⟩ := H
                    replace H : (some (t183, t184)) = some (r1, r2) := H
                    have A24 := Aside0.mk A240
                    clear A240
                    simp only [Option.some.injEq, Prod.mk.injEq] at H
                    obtain ⟨rfl, rfl⟩ := H
                    go_wp2_with (first | ((with_reducible refine gate_callee (f := 45) rfl ?_); refine goesL_ (some 52) rfl rfl Tryd.func45 (by kernel_rfl) rfl #[.string a0] rfl (by (try simp only [List.map_toArray, List.map_cons, List.map_nil]); first | done | rfl | (simp only [List.length_drop, List.length_take]; rfl)) ?_; (with_reducible refine (spec_escaped.calls kj13 a0 t183 t184 _ A24.out).mono ?_); rintro e w25 ⟨rfl, hb⟩; refine ⟨_, rfl, ?_⟩; have n0_ := Aside0.mk (below_step (by repeat (first | (with_reducible first | exact HB.out | apply below_alloc | apply pw_below_drewN | apply below_drew1) | exact HB.out)) hb); clear HB; have HB := n0_; clear n0_; (try clear hb); (try clear hb2); (try clear hk); (try clear hi)))
                    go_ret2
                    exact ⟨by first | rfl | (simp [errW_none, errW_some] <;> rfl) | (simp [*, errW_none, errW_some] <;> rfl) | (simp [*, q_isEmpty]; done) | (simp [*]; exact q_gt _ _ (by assumption)), by repeat (first | (with_reducible first | exact HB.out | apply below_alloc | apply pw_below_drewN | apply below_drew1) | exact HB.out)⟩

end Go.Proofs.YtkngnoipipnioaaDoor.Q
namespace Go.Proofs.YtkngnoipipnioaaDoor.Q
open Go.RowKit Go.Proofs.YtkngnoipipnioaaDoorW.PrintWords Go.Proofs.YtkngnoipipnioaaDoorW.PrintLast Go.Proofs.YtkngnoipipnioaaDoorW.PrintMore
attribute [local go_sem] max2_int min2_int max_two min_two max_three min_three max_four min_four   -- for this text's walks alone
set_option linter.unusedVariables false
set_option linter.unusedSimpArgs false

/-! ### spec_ClassicMatcher: function 11 -/
mutual
def spec_ClassicMatcher.j0 : Nat → ByteArray → ByteArray → Int → ByteArray → Bool → Option (Int × ByteArray × ByteArray × Int)
  | 0, _, _, _, _, _ => none
  | k + 1, x0, x4, x5, x6, x35 => if x35 = true then (some (0, (⟨#[]⟩ : ByteArray), (⟨#[]⟩ : ByteArray), 2)) else ((spec_Begins.f x4 (⟨#[33, 61]⟩ : ByteArray)).bind fun t192 => (if t192 = true then (spec_ClassicMatcher.j1 k x0 x4 x5 x6 1 2) else ((spec_Begins.f x4 (⟨#[61]⟩ : ByteArray)).bind fun t193 => (if t193 = true then (spec_ClassicMatcher.j1 k x0 x4 x5 x6 0 1) else (spec_ClassicMatcher.j1 k x0 x4 x5 x6 (-1) 1)))))
def spec_ClassicMatcher.j1 : Nat → ByteArray → ByteArray → Int → ByteArray → Int → Int → Option (Int × ByteArray × ByteArray × Int)
  | 0, _, _, _, _, _, _ => none
  | k + 1, x0, x4, x5, x6, x7, x8 => if x5 = 0 then (spec_ClassicMatcher.j2 k x4 x6 x7 x8 true) else (if x7 < 0 then (spec_ClassicMatcher.j2 k x4 x6 x7 x8 true) else ((spec_Valid.f k x0).bind fun t194 => (spec_ClassicMatcher.j2 k x4 x6 x7 x8 (!t194))))
def spec_ClassicMatcher.j2 : Nat → ByteArray → ByteArray → Int → Int → Bool → Option (Int × ByteArray × ByteArray × Int)
  | 0, _, _, _, _, _ => none
  | k + 1, x4, x6, x7, x8, x53 => if x53 = true then (some (0, (⟨#[]⟩ : ByteArray), (⟨#[]⟩ : ByteArray), 0)) else (if 0 ≤ x8 then (if x8 ≤ (x4.size : Int) then ((spec_trimmed.f k (x4.extract (x8 : Int).toNat x4.size)).bind fun t195 => ((spec_classicValue.f k t195).bind fun bt196 => (if bt196.2 = 1 then (some (x7, x6, bt196.1, 1)) else (some (0, (⟨#[]⟩ : ByteArray), (⟨#[]⟩ : ByteArray), bt196.2))))) else (none)) else (none))
end
def spec_ClassicMatcher.f (k : Nat) (a0 : ByteArray) : Option (Int × ByteArray × ByteArray × Int) := (spec_Classic.f k a0).bind fun t186 => (if t186 = true then ((spec_trimmed.f k a0).bind fun t187 => ((spec_nameEnd.f k t187).bind fun t188 => (if 0 ≤ t188 then (if t188 ≤ (t187.size : Int) then ((spec_trimmed.f k (t187.extract (t188 : Int).toNat t187.size)).bind fun t189 => ((spec_Begins.f t189 (⟨#[58]⟩ : ByteArray)).bind fun t190 => (if t190 = true then (spec_ClassicMatcher.j0 k a0 t189 t188 (t187.extract 0 (t188 : Int).toNat) true) else (if t188 = 0 then ((spec_Begins.f a0 (⟨#[58]⟩ : ByteArray)).bind fun t191 => (spec_ClassicMatcher.j0 k a0 t189 t188 (t187.extract 0 (t188 : Int).toNat) t191)) else (spec_ClassicMatcher.j0 k a0 t189 t188 (t187.extract 0 (t188 : Int).toNat) false))))) else (none)) else (none)))) else (some (0, (⟨#[]⟩ : ByteArray), (⟨#[]⟩ : ByteArray), 2)))
theorem spec_ClassicMatcher.mono_l : ∀ k, (∀ y0 y1 y2 y3 y4, LeO (spec_ClassicMatcher.j0 k y0 y1 y2 y3 y4) (spec_ClassicMatcher.j0 (k + 1) y0 y1 y2 y3 y4)) ∧ (∀ y0 y1 y2 y3 y4 y5, LeO (spec_ClassicMatcher.j1 k y0 y1 y2 y3 y4 y5) (spec_ClassicMatcher.j1 (k + 1) y0 y1 y2 y3 y4 y5)) ∧ (∀ y0 y1 y2 y3 y4, LeO (spec_ClassicMatcher.j2 k y0 y1 y2 y3 y4) (spec_ClassicMatcher.j2 (k + 1) y0 y1 y2 y3 y4))
  | 0 => ⟨fun _ _ _ _ _ r h => by simp [spec_ClassicMatcher.j0] at h, fun _ _ _ _ _ _ r h => by simp [spec_ClassicMatcher.j1] at h, fun _ _ _ _ _ r h => by simp [spec_ClassicMatcher.j2] at h⟩
  | k + 1 => by
    obtain ⟨ih0, ih1, ih2⟩ := spec_ClassicMatcher.mono_l k
    refine ⟨?_, ?_, ?_⟩
    · intro y0 y1 y2 y3 y4
      unfold spec_ClassicMatcher.j0
      repeat' first
      | (with_reducible exact ih0 _ _ _ _ _)
      | (with_reducible exact ih1 _ _ _ _ _ _)
      | (with_reducible exact ih2 _ _ _ _ _)
      | (with_reducible exact spec_Classic.mono _ _)
      | (with_reducible exact spec_Valid.mono _ _)
      | (with_reducible exact spec_classicValue.mono _ _)
      | (with_reducible exact spec_nameEnd.mono _ _)
      | (with_reducible exact spec_trimmed.mono _ _)
      | (with_reducible exact LeO.refl _)
      | (with_reducible exact LeO.none _)
      | (with_reducible refine LeO.ite ?_ ?_)
      | (with_reducible refine LeO.bind ?_ (fun _ => ?_))
      | exact ih0 _ _ _ _ _
      | exact ih1 _ _ _ _ _ _
      | exact ih2 _ _ _ _ _
      | exact spec_Classic.mono _ _
      | exact spec_Valid.mono _ _
      | exact spec_classicValue.mono _ _
      | exact spec_nameEnd.mono _ _
      | exact spec_trimmed.mono _ _
      | exact LeO.none _
      | refine LeO.ite ?_ ?_
      | refine LeO.bind ?_ (fun _ => ?_)
    · intro y0 y1 y2 y3 y4 y5
      unfold spec_ClassicMatcher.j1
      repeat' first
      | (with_reducible exact ih0 _ _ _ _ _)
      | (with_reducible exact ih1 _ _ _ _ _ _)
      | (with_reducible exact ih2 _ _ _ _ _)
      | (with_reducible exact spec_Classic.mono _ _)
      | (with_reducible exact spec_Valid.mono _ _)
      | (with_reducible exact spec_classicValue.mono _ _)
      | (with_reducible exact spec_nameEnd.mono _ _)
      | (with_reducible exact spec_trimmed.mono _ _)
      | (with_reducible exact LeO.refl _)
      | (with_reducible exact LeO.none _)
      | (with_reducible refine LeO.ite ?_ ?_)
      | (with_reducible refine LeO.bind ?_ (fun _ => ?_))
      | exact ih0 _ _ _ _ _
      | exact ih1 _ _ _ _ _ _
      | exact ih2 _ _ _ _ _
      | exact spec_Classic.mono _ _
      | exact spec_Valid.mono _ _
      | exact spec_classicValue.mono _ _
      | exact spec_nameEnd.mono _ _
      | exact spec_trimmed.mono _ _
      | exact LeO.none _
      | refine LeO.ite ?_ ?_
      | refine LeO.bind ?_ (fun _ => ?_)
    · intro y0 y1 y2 y3 y4
      unfold spec_ClassicMatcher.j2
      repeat' first
      | (with_reducible exact ih0 _ _ _ _ _)
      | (with_reducible exact ih1 _ _ _ _ _ _)
      | (with_reducible exact ih2 _ _ _ _ _)
      | (with_reducible exact spec_Classic.mono _ _)
      | (with_reducible exact spec_Valid.mono _ _)
      | (with_reducible exact spec_classicValue.mono _ _)
      | (with_reducible exact spec_nameEnd.mono _ _)
      | (with_reducible exact spec_trimmed.mono _ _)
      | (with_reducible exact LeO.refl _)
      | (with_reducible exact LeO.none _)
      | (with_reducible refine LeO.ite ?_ ?_)
      | (with_reducible refine LeO.bind ?_ (fun _ => ?_))
      | exact ih0 _ _ _ _ _
      | exact ih1 _ _ _ _ _ _
      | exact ih2 _ _ _ _ _
      | exact spec_Classic.mono _ _
      | exact spec_Valid.mono _ _
      | exact spec_classicValue.mono _ _
      | exact spec_nameEnd.mono _ _
      | exact spec_trimmed.mono _ _
      | exact LeO.none _
      | refine LeO.ite ?_ ?_
      | refine LeO.bind ?_ (fun _ => ?_)
theorem spec_ClassicMatcher.mono : ∀ a0 k, LeO (spec_ClassicMatcher.f k a0) (spec_ClassicMatcher.f (k + 1) a0) := by
  intro a0 k
  obtain ⟨ih0, ih1, ih2⟩ := spec_ClassicMatcher.mono_l k
  unfold spec_ClassicMatcher.f
  repeat' first
      | (with_reducible exact ih0 _ _ _ _ _)
      | (with_reducible exact ih1 _ _ _ _ _ _)
      | (with_reducible exact ih2 _ _ _ _ _)
      | (with_reducible exact spec_Classic.mono _ _)
      | (with_reducible exact spec_Valid.mono _ _)
      | (with_reducible exact spec_classicValue.mono _ _)
      | (with_reducible exact spec_nameEnd.mono _ _)
      | (with_reducible exact spec_trimmed.mono _ _)
      | (with_reducible exact LeO.refl _)
      | (with_reducible exact LeO.none _)
      | (with_reducible refine LeO.ite ?_ ?_)
      | (with_reducible refine LeO.bind ?_ (fun _ => ?_))
      | exact ih0 _ _ _ _ _
      | exact ih1 _ _ _ _ _ _
      | exact ih2 _ _ _ _ _
      | exact spec_Classic.mono _ _
      | exact spec_Valid.mono _ _
      | exact spec_classicValue.mono _ _
      | exact spec_nameEnd.mono _ _
      | exact spec_trimmed.mono _ _
      | exact LeO.none _
      | refine LeO.ite ?_ ?_
      | refine LeO.bind ?_ (fun _ => ?_)
set_option maxHeartbeats 8000000 in
set_option maxRecDepth 100000 in
theorem spec_ClassicMatcher.calls (k : Nat) (a0 : ByteArray) (r1 : Int) (r2 : ByteArray) (r3 : ByteArray) (r4 : Int) (w : World) (h : spec_ClassicMatcher.f k a0 = some (r1, r2, r3, r4)) :
    Calls Tryd.prog 11 #[.string a0] w fun e w' => e = .returned (.tuple #[.agg #[.int .i64 r1, .string r2, .string r3], .int .i64 r4]) ∧ Below w.heap.size w w' := by
  have hu32 := Tryd.underlying32
  have HB := Aside0.mk (Below.refl w.heap.size w)
  have H : ((spec_Classic.f k a0).bind fun t186 => (if t186 = true then ((spec_trimmed.f k a0).bind fun t187 => ((spec_nameEnd.f k t187).bind fun t188 => (if 0 ≤ t188 then (if t188 ≤ (t187.size : Int) then ((spec_trimmed.f k (t187.extract (t188 : Int).toNat t187.size)).bind fun t189 => ((spec_Begins.f t189 (⟨#[58]⟩ : ByteArray)).bind fun t190 => (if t190 = true then (spec_ClassicMatcher.j0 k a0 t189 t188 (t187.extract 0 (t188 : Int).toNat) true) else (if t188 = 0 then ((spec_Begins.f a0 (⟨#[58]⟩ : ByteArray)).bind fun t191 => (spec_ClassicMatcher.j0 k a0 t189 t188 (t187.extract 0 (t188 : Int).toNat) t191)) else (spec_ClassicMatcher.j0 k a0 t189 t188 (t187.extract 0 (t188 : Int).toNat) false))))) else (none)) else (none)))) else (some (0, (⟨#[]⟩ : ByteArray), (⟨#[]⟩ : ByteArray), 2)))) = some (r1, r2, r3, r4) := h
  clear h
  replace H := Option.bind_eq_some_iff.mp H
  obtain ⟨t186, A20, H⟩ := H
  replace H : (if t186 = true then ((spec_trimmed.f k a0).bind fun t187 => ((spec_nameEnd.f k t187).bind fun t188 => (if 0 ≤ t188 then (if t188 ≤ (t187.size : Int) then ((spec_trimmed.f k (t187.extract (t188 : Int).toNat t187.size)).bind fun t189 => ((spec_Begins.f t189 (⟨#[58]⟩ : ByteArray)).bind fun t190 => (if t190 = true then (spec_ClassicMatcher.j0 k a0 t189 t188 (t187.extract 0 (t188 : Int).toNat) true) else (if t188 = 0 then ((spec_Begins.f a0 (⟨#[58]⟩ : ByteArray)).bind fun t191 => (spec_ClassicMatcher.j0 k a0 t189 t188 (t187.extract 0 (t188 : Int).toNat) t191)) else (spec_ClassicMatcher.j0 k a0 t189 t188 (t187.extract 0 (t188 : Int).toNat) false))))) else (none)) else (none)))) else (some (0, (⟨#[]⟩ : ByteArray), (⟨#[]⟩ : ByteArray), 2))) = some (r1, r2, r3, r4) := H
  have A2 := Aside0.mk A20
  clear A20
  by_cases c3 : t186 = true
  · subst c3
    have H1 : ((spec_trimmed.f k a0).bind fun t187 => ((spec_nameEnd.f k t187).bind fun t188 => (if 0 ≤ t188 then (if t188 ≤ (t187.size : Int) then ((spec_trimmed.f k (t187.extract (t188 : Int).toNat t187.size)).bind fun t189 => ((spec_Begins.f t189 (⟨#[58]⟩ : ByteArray)).bind fun t190 => (if t190 = true then (spec_ClassicMatcher.j0 k a0 t189 t188 (t187.extract 0 (t188 : Int).toNat) true) else (if t188 = 0 then ((spec_Begins.f a0 (⟨#[58]⟩ : ByteArray)).bind fun t191 => (spec_ClassicMatcher.j0 k a0 t189 t188 (t187.extract 0 (t188 : Int).toNat) t191)) else (spec_ClassicMatcher.j0 k a0 t189 t188 (t187.extract 0 (t188 : Int).toNat) false))))) else (none)) else (none)))) = some (r1, r2, r3, r4) := by rw [if_pos rfl] at H; exact H
    clear H
    have H := H1
    clear H1
    replace H := Option.bind_eq_some_iff.mp H
    obtain ⟨t187, A40, H⟩ := H
    replace H : ((spec_nameEnd.f k t187).bind fun t188 => (if 0 ≤ t188 then (if t188 ≤ (t187.size : Int) then ((spec_trimmed.f k (t187.extract (t188 : Int).toNat t187.size)).bind fun t189 => ((spec_Begins.f t189 (⟨#[58]⟩ : ByteArray)).bind fun t190 => (if t190 = true then (spec_ClassicMatcher.j0 k a0 t189 t188 (t187.extract 0 (t188 : Int).toNat) true) else (if t188 = 0 then ((spec_Begins.f a0 (⟨#[58]⟩ : ByteArray)).bind fun t191 => (spec_ClassicMatcher.j0 k a0 t189 t188 (t187.extract 0 (t188 : Int).toNat) t191)) else (spec_ClassicMatcher.j0 k a0 t189 t188 (t187.extract 0 (t188 : Int).toNat) false))))) else (none)) else (none))) = some (r1, r2, r3, r4) := H
    have A4 := Aside0.mk A40
    clear A40
    replace H := Option.bind_eq_some_iff.mp H
    obtain ⟨t188, A50, H⟩ := H
    replace H : (if 0 ≤ t188 then (if t188 ≤ (t187.size : Int) then ((spec_trimmed.f k (t187.extract (t188 : Int).toNat t187.size)).bind fun t189 => ((spec_Begins.f t189 (⟨#[58]⟩ : ByteArray)).bind fun t190 => (if t190 = true then (spec_ClassicMatcher.j0 k a0 t189 t188 (t187.extract 0 (t188 : Int).toNat) true) else (if t188 = 0 then ((spec_Begins.f a0 (⟨#[58]⟩ : ByteArray)).bind fun t191 => (spec_ClassicMatcher.j0 k a0 t189 t188 (t187.extract 0 (t188 : Int).toNat) t191)) else (spec_ClassicMatcher.j0 k a0 t189 t188 (t187.extract 0 (t188 : Int).toNat) false))))) else (none)) else (none)) = some (r1, r2, r3, r4) := H
    have A5 := Aside0.mk A50
    clear A50
    by_cases c6 : 0 ≤ t188
    · rw [if_pos c6] at H
      have c6b0 := eq_true c6
      have c6b1 : decide (0 ≤ t188) = true := decide_eq_true c6
      clear c6
      by_cases c7 : t188 ≤ (t187.size : Int)
      · rw [if_pos c7] at H
        have c7b0 := eq_true c7
        have c7b1 : decide (t188 ≤ (t187.size : Int)) = true := decide_eq_true c7
        clear c7
        have c8b0 := eq_true (of_decide_eq_true (by first | (with_reducible assumption) | assumption) : 0 ≤ t188)
        have c9b0 := eq_true (of_decide_eq_true (by first | (with_reducible assumption) | assumption) : t188 ≤ (t187.size : Int))
        replace H := Option.bind_eq_some_iff.mp H
        obtain ⟨t189, A100, H⟩ := H
        replace H : ((spec_Begins.f t189 (⟨#[58]⟩ : ByteArray)).bind fun t190 => (if t190 = true then (spec_ClassicMatcher.j0 k a0 t189 t188 (t187.extract 0 (t188 : Int).toNat) true) else (if t188 = 0 then ((spec_Begins.f a0 (⟨#[58]⟩ : ByteArray)).bind fun t191 => (spec_ClassicMatcher.j0 k a0 t189 t188 (t187.extract 0 (t188 : Int).toNat) t191)) else (spec_ClassicMatcher.j0 k a0 t189 t188 (t187.extract 0 (t188 : Int).toNat) false)))) = some (r1, r2, r3, r4) := H
        have A10 := Aside0.mk A100
        clear A100
        have HC11 := Aside0.mk H
        clear H
        go_enter Tryd.func11, Tryd.ntmps11
        go_upto_region 7 with (first | ((with_reducible refine gate_dst (N := 2) rfl ?_); refine box_event ?hg (N := 2) ?hd (cs := #[.int .i64 0, .string (⟨#[]⟩ : ByteArray), .string (⟨#[]⟩ : ByteArray)]) (t := 32) ?hr ?_; (case hd => rfl); (case hg => rfl); (case hr => first | (go_simp; done) | (go_simp; rfl)); intro gb185 hg w12 hbox hb; have n0_ := Aside0.mk (below_step (by repeat (first | (with_reducible first | exact HB.out | apply below_alloc | apply pw_below_drewN | apply below_drew1) | exact HB.out)) hb); have n1_ := Aside0.mk (hbox); have n2_ := Aside0.mk ((by rw [hg]; exact (below_size (by repeat (first | (with_reducible first | exact HB.out | apply below_alloc | apply pw_below_drewN | apply below_drew1) | exact HB.out))) : w.heap.size ≤ gb185)); have n3_ := Aside0.mk ((by rw [hg]; exact (below_size (by repeat (first | (with_reducible first | exact HB.out | apply below_alloc | apply pw_below_drewN | apply below_drew1) | exact HB.out))) : w.heap.size ≤ gb185)); clear HB; have HB := n0_; have BK185 := n1_; have GW185 := n2_; have GE185 := n3_; clear n0_ n1_ n2_ n3_; clear hb hbox hg) | ((with_reducible refine gate_callee (f := 20) rfl ?_); refine goesL_ (some 12) rfl rfl Tryd.func20 (by kernel_rfl) rfl #[.string a0] rfl (by (try simp only [List.map_toArray, List.map_cons, List.map_nil]); first | done | rfl | (simp only [List.length_drop, List.length_take]; rfl)) ?_; (with_reducible refine (spec_Classic.calls k a0 true _ A2.out).mono ?_); rintro e w13 ⟨rfl, hb⟩; refine ⟨_, rfl, ?_⟩; have n0_ := Aside0.mk (blk_below (g := gb185) (o := .cells #[.int .i64 0, .string (⟨#[]⟩ : ByteArray), .string (⟨#[]⟩ : ByteArray)] 32 (0, 0)) (by (with_reducible repeat (first | refine blk_drewN ?_ _ | refine blk_drew ?_ | refine blk_alloc ?_ _)); exact BK185.out) hb); have n1_ := Aside0.mk (below_step (by repeat (first | (with_reducible first | exact HB.out | apply below_alloc | apply pw_below_drewN | apply below_drew1 | refine below_set ?_ GE185.out) | exact HB.out)) hb); clear BK185; clear HB; have BK185 := n0_; have HB := n1_; clear n0_ n1_; (try clear hb); (try clear hb2); (try clear hk); (try clear hi)) | ((with_reducible refine gate_callee (f := 21) rfl ?_); refine goesL_ (some 16) rfl rfl Tryd.func21 (by kernel_rfl) rfl #[.string a0] rfl (by (try simp only [List.map_toArray, List.map_cons, List.map_nil]); first | done | rfl | (simp only [List.length_drop, List.length_take]; rfl)) ?_; (with_reducible refine (spec_trimmed.calls k a0 t187 _ A4.out).mono ?_); rintro e w' ⟨rfl, ⟨nd, rfl⟩⟩; refine ⟨_, rfl, ?_⟩) | ((with_reducible refine gate_callee (f := 22) rfl ?_); refine goesL_ (some 18) rfl rfl Tryd.func22 (by kernel_rfl) rfl #[.string t187] rfl (by (try simp only [List.map_toArray, List.map_cons, List.map_nil]); first | done | rfl | (simp only [List.length_drop, List.length_take]; rfl)) ?_; (with_reducible refine (spec_nameEnd.calls k t187 t188 _ A5.out).mono ?_); rintro e w' ⟨rfl, ⟨nd, rfl⟩⟩; refine ⟨_, rfl, ?_⟩) | ((with_reducible refine gate_callee (f := 21) rfl ?_); refine goesL_ (some 25) rfl rfl Tryd.func21 (by kernel_rfl) rfl #[.string (t187.extract (t188 : Int).toNat t187.size)] rfl (by (try simp only [List.map_toArray, List.map_cons, List.map_nil]); first | done | rfl | (simp only [List.length_drop, List.length_take]; rfl)) ?_; (with_reducible refine (spec_trimmed.calls k (t187.extract (t188 : Int).toNat t187.size) t189 _ A10.out).mono ?_); rintro e w' ⟨rfl, ⟨nd, rfl⟩⟩; refine ⟨_, rfl, ?_⟩))
        (try simp only [Act.put, List.setIfInBounds_toArray, List.set_cons_zero, List.set_cons_succ])
        go_cut [35] (fun v35 wc => ∃ (kq : Nat) (x35_10 : Bool), v35 = .bool x35_10 ∧ Aside0 (spec_ClassicMatcher.j0 kq a0 t189 t188 (t187.extract 0 (t188 : Int).toNat) x35_10 = some (r1, r2, r3, r4)) ∧ Aside0 (kq ≤ k) ∧ Aside0 (wc.heap[gb185]? = some (.cells #[.int .i64 0, .string (⟨#[]⟩ : ByteArray), .string (⟨#[]⟩ : ByteArray)] 32 (0, 0))) ∧ Aside0 (Below w.heap.size w wc))
        case first =>
          have H := HC11.out
          clear HC11
          replace H := Option.bind_eq_some_iff.mp H
          obtain ⟨t190, A140, H⟩ := H
          replace H : (if t190 = true then (spec_ClassicMatcher.j0 k a0 t189 t188 (t187.extract 0 (t188 : Int).toNat) true) else (if t188 = 0 then ((spec_Begins.f a0 (⟨#[58]⟩ : ByteArray)).bind fun t191 => (spec_ClassicMatcher.j0 k a0 t189 t188 (t187.extract 0 (t188 : Int).toNat) t191)) else (spec_ClassicMatcher.j0 k a0 t189 t188 (t187.extract 0 (t188 : Int).toNat) false))) = some (r1, r2, r3, r4) := H
          have A14 := Aside0.mk A140
          clear A140
          by_cases c15 : t190 = true
          · subst c15
            have H1 : (spec_ClassicMatcher.j0 k a0 t189 t188 (t187.extract 0 (t188 : Int).toNat) true) = some (r1, r2, r3, r4) := by rw [if_pos rfl] at H; exact H
            clear H
            have H := H1
            clear H1
            have H' := Aside0.mk H
            clear H
            go_wp2_with (first | ((with_reducible refine gate_callee (f := 23) rfl ?_); refine goesL_ (some 27) rfl rfl Tryd.func23 (by kernel_rfl) rfl #[.string t189, .string (⟨#[58]⟩ : ByteArray)] rfl (by (try simp only [List.map_toArray, List.map_cons, List.map_nil]); first | done | rfl | (simp only [List.length_drop, List.length_take]; rfl)) ?_; (with_reducible refine (spec_Begins.calls t189 (⟨#[58]⟩ : ByteArray) true _ A14.out).mono ?_); rintro e w' ⟨rfl, ⟨nd, rfl⟩⟩; refine ⟨_, rfl, ?_⟩))
            go_meet
            case rel => exact ⟨_, (true), (by first | rfl | (simp; done) | (simp [*]; done) | (simp [*, q_isEmpty]; done) | (simp [*]; exact q_gt _ _ (by assumption))), H', ⟨by first | omega | exact Nat.le_refl _⟩, ⟨by (with_reducible repeat (first | refine blk_drewN ?_ _ | refine blk_drew ?_ | refine blk_alloc ?_ _)); exact BK185.out⟩, ⟨by repeat (first | (with_reducible first | exact HB.out | apply below_alloc | apply pw_below_drewN | apply below_drew1 | refine below_set ?_ GE185.out) | exact HB.out)⟩⟩
          · replace c15 := Bool.eq_false_iff.mpr c15
            subst c15
            have H1 : (if t188 = 0 then ((spec_Begins.f a0 (⟨#[58]⟩ : ByteArray)).bind fun t191 => (spec_ClassicMatcher.j0 k a0 t189 t188 (t187.extract 0 (t188 : Int).toNat) t191)) else (spec_ClassicMatcher.j0 k a0 t189 t188 (t187.extract 0 (t188 : Int).toNat) false)) = some (r1, r2, r3, r4) := by rw [if_neg (show ¬ (false = true) by decide)] at H; exact H
            clear H
            have H := H1
            clear H1
            by_cases c16 : t188 = 0
            · rw [if_pos c16] at H
              have c16b0 : (t188 == 0) = true := beq_iff_eq.mpr c16
              have c16b1 : (t188 != 0) = false := bne_eq_false_iff_eq.mpr c16
              clear c16
              (first | rw [c16b0] | (simp only [i64_w, i32_w]; rw [c16b0]) | skip)
              replace H := Option.bind_eq_some_iff.mp H
              obtain ⟨t191, A170, H⟩ := H
              replace H : (spec_ClassicMatcher.j0 k a0 t189 t188 (t187.extract 0 (t188 : Int).toNat) t191) = some (r1, r2, r3, r4) := H
              have A17 := Aside0.mk A170
              clear A170
              have H' := Aside0.mk H
              clear H
              go_wp2_with (first | ((with_reducible refine gate_callee (f := 23) rfl ?_); refine goesL_ (some 27) rfl rfl Tryd.func23 (by kernel_rfl) rfl #[.string t189, .string (⟨#[58]⟩ : ByteArray)] rfl (by (try simp only [List.map_toArray, List.map_cons, List.map_nil]); first | done | rfl | (simp only [List.length_drop, List.length_take]; rfl)) ?_; (with_reducible refine (spec_Begins.calls t189 (⟨#[58]⟩ : ByteArray) false _ A14.out).mono ?_); rintro e w' ⟨rfl, ⟨nd, rfl⟩⟩; refine ⟨_, rfl, ?_⟩) | (go_at_call 23; (with_reducible refine (spec_Begins.calls a0 (⟨#[58]⟩ : ByteArray) t191 _ A17.out).mono ?_); rintro e w' ⟨rfl, ⟨nd, rfl⟩⟩))
              go_meet
              case rel => exact ⟨_, (t191), (by first | rfl | (simp; done) | (simp [*]; done) | (simp [*, q_isEmpty]; done) | (simp [*]; exact q_gt _ _ (by assumption))), H', ⟨by first | omega | exact Nat.le_refl _⟩, ⟨by (with_reducible repeat (first | refine blk_drewN ?_ _ | refine blk_drew ?_ | refine blk_alloc ?_ _)); exact BK185.out⟩, ⟨by repeat (first | (with_reducible first | exact HB.out | apply below_alloc | apply pw_below_drewN | apply below_drew1 | refine below_set ?_ GE185.out) | exact HB.out)⟩⟩
            · rw [if_neg c16] at H
              have c16b0 : (t188 == 0) = false := beq_eq_false_iff_ne.mpr c16
              have c16b1 : (t188 != 0) = true := bne_iff_ne.mpr c16
              (first | rw [c16b0] | (simp only [i64_w, i32_w]; rw [c16b0]) | skip)
              have H' := Aside0.mk H
              clear H
              go_wp2_with (first | ((with_reducible refine gate_callee (f := 23) rfl ?_); refine goesL_ (some 27) rfl rfl Tryd.func23 (by kernel_rfl) rfl #[.string t189, .string (⟨#[58]⟩ : ByteArray)] rfl (by (try simp only [List.map_toArray, List.map_cons, List.map_nil]); first | done | rfl | (simp only [List.length_drop, List.length_take]; rfl)) ?_; (with_reducible refine (spec_Begins.calls t189 (⟨#[58]⟩ : ByteArray) false _ A14.out).mono ?_); rintro e w' ⟨rfl, ⟨nd, rfl⟩⟩; refine ⟨_, rfl, ?_⟩))
              go_meet
              case rel => exact ⟨_, (false), (by first | rfl | (simp; done) | (simp [*]; done) | (simp [*, q_isEmpty]; done) | (simp [*]; exact q_gt _ _ (by assumption))), H', ⟨by first | omega | exact Nat.le_refl _⟩, ⟨by (with_reducible repeat (first | refine blk_drewN ?_ _ | refine blk_drew ?_ | refine blk_alloc ?_ _)); exact BK185.out⟩, ⟨by repeat (first | (with_reducible first | exact HB.out | apply below_alloc | apply pw_below_drewN | apply below_drew1 | refine below_set ?_ GE185.out) | exact HB.out)⟩⟩
        case rest =>
          clear HC11
          try clear c1
          try clear c2
          try clear p2
          try clear c3
          try clear c6
          try clear c6b0
          try clear c6b1
          try clear c7
          try clear c7b0
          try clear c7b1
          try clear c8
          try clear c8b0
          try clear c9
          try clear c9b0
          try clear c11
          try clear c15
          try clear c16
          try clear c16b0
          try clear c16b1
          obtain ⟨kq, x35_10, rfl, HA, HJ10, BK185, HB⟩ := hcut
          cases kq with
          | zero => exact absurd HA.out (by simp [spec_ClassicMatcher.j0])
          | succ kj10 =>
            have H := HA.out
            clear HA
            simp only [spec_ClassicMatcher.j0] at H
            by_cases c18 : x35_10 = true
            · subst c18
              have H1 : (some (0, (⟨#[]⟩ : ByteArray), (⟨#[]⟩ : ByteArray), 2)) = some (r1, r2, r3, r4) := by rw [if_pos rfl] at H; exact H
              clear H
              have H := H1
              clear H1
              simp only [Option.some.injEq, Prod.mk.injEq] at H
              obtain ⟨rfl, rfl, rfl, rfl⟩ := H
              have hcz19_0 : wc.cell? ⟨gb185, 0, none⟩ = some (.int .i64 0) := (blk_cell BK185.out 0).trans rfl
              have hcz19_1 : wc.cell? ⟨gb185, 1, none⟩ = some (.string (⟨#[]⟩ : ByteArray)) := (blk_cell BK185.out 1).trans rfl
              have hcz19_2 : wc.cell? ⟨gb185, 2, none⟩ = some (.string (⟨#[]⟩ : ByteArray)) := (blk_cell BK185.out 2).trans rfl
              have hfz19_0 := blk_frozen BK185.out 0
              have hfz19_1 := blk_frozen BK185.out 1
              have hfz19_2 := blk_frozen BK185.out 2
              go_wp2
              refine bodyPost_ret (results_ct rfl _ _ gb185 32 #[.int .i64 0, .string (⟨#[]⟩ : ByteArray), .string (⟨#[]⟩ : ByteArray)] (0, 0) _ rfl (by (with_reducible repeat (first | refine blk_drewN ?_ _ | refine blk_drew ?_ | refine blk_alloc ?_ _)); refine blk_put (cs := #[.int .i64 0, .string (⟨#[]⟩ : ByteArray), .string (⟨#[]⟩ : ByteArray)]) ?_ 2 _ rfl; (with_reducible repeat (first | refine blk_drewN ?_ _ | refine blk_drew ?_ | refine blk_alloc ?_ _)); refine blk_put (cs := #[.int .i64 0, .string (⟨#[]⟩ : ByteArray), .string (⟨#[]⟩ : ByteArray)]) ?_ 1 _ rfl; (with_reducible repeat (first | refine blk_drewN ?_ _ | refine blk_drew ?_ | refine blk_alloc ?_ _)); refine blk_put (cs := #[.int .i64 0, .string (⟨#[]⟩ : ByteArray), .string (⟨#[]⟩ : ByteArray)]) ?_ 0 _ rfl; (with_reducible repeat (first | refine blk_drewN ?_ _ | refine blk_drew ?_ | refine blk_alloc ?_ _)); exact BK185.out) Tryd.underlying32 rfl (by kernel_rfl)) rfl ?_
              exact ⟨by first | rfl | (simp [errW_none, errW_some] <;> rfl) | (simp [*, errW_none, errW_some] <;> rfl) | (simp [*, q_isEmpty]; done) | (simp [*]; exact q_gt _ _ (by assumption)), by repeat (first | (with_reducible first | exact HB.out | apply below_alloc | apply pw_below_drewN | apply below_drew1 | refine below_set ?_ GE185.out) | exact HB.out)⟩
            · replace c18 := Bool.eq_false_iff.mpr c18
              subst c18
              have H1 : ((spec_Begins.f t189 (⟨#[33, 61]⟩ : ByteArray)).bind fun t192 => (if t192 = true then (spec_ClassicMatcher.j1 kj10 a0 t189 t188 (t187.extract 0 (t188 : Int).toNat) 1 2) else ((spec_Begins.f t189 (⟨#[61]⟩ : ByteArray)).bind fun t193 => (if t193 = true then (spec_ClassicMatcher.j1 kj10 a0 t189 t188 (t187.extract 0 (t188 : Int).toNat) 0 1) else (spec_ClassicMatcher.j1 kj10 a0 t189 t188 (t187.extract 0 (t188 : Int).toNat) (-1) 1))))) = some (r1, r2, r3, r4) := by rw [if_neg (show ¬ (false = true) by decide)] at H; exact H
              clear H
              have H := H1
              clear H1
              have HC20 := Aside0.mk H
              clear H
              go_upto_block 0 with (fail)
              go_cut [7, 8] (fun v7 v8 wc => ∃ (kq : Nat) (x7_19 : Int) (x8_19 : Int), v7 = .int .i64 x7_19 ∧ v8 = .int .i64 x8_19 ∧ Aside0 (spec_ClassicMatcher.j1 kq a0 t189 t188 (t187.extract 0 (t188 : Int).toNat) x7_19 x8_19 = some (r1, r2, r3, r4)) ∧ Aside0 (kq ≤ kj10) ∧ Aside0 (wc.heap[gb185]? = some (.cells #[.int .i64 0, .string (⟨#[]⟩ : ByteArray), .string (⟨#[]⟩ : ByteArray)] 32 (0, 0))) ∧ Aside0 (Below w.heap.size w wc))
              case first =>
                have H := HC20.out
                clear HC20
                replace H := Option.bind_eq_some_iff.mp H
                obtain ⟨t192, A210, H⟩ := H
                replace H : (if t192 = true then (spec_ClassicMatcher.j1 kj10 a0 t189 t188 (t187.extract 0 (t188 : Int).toNat) 1 2) else ((spec_Begins.f t189 (⟨#[61]⟩ : ByteArray)).bind fun t193 => (if t193 = true then (spec_ClassicMatcher.j1 kj10 a0 t189 t188 (t187.extract 0 (t188 : Int).toNat) 0 1) else (spec_ClassicMatcher.j1 kj10 a0 t189 t188 (t187.extract 0 (t188 : Int).toNat) (-1) 1)))) = some (r1, r2, r3, r4) := H
                have A21 := Aside0.mk A210
                clear A210
                by_cases c22 : t192 = true
                · subst c22
                  have H1 : (spec_ClassicMatcher.j1 kj10 a0 t189 t188 (t187.extract 0 (t188 : Int).toNat) 1 2) = some (r1, r2, r3, r4) := by rw [if_pos rfl] at H; exact H
                  clear H
                  have H := H1
                  clear H1
                  have H' := Aside0.mk H
                  clear H
                  go_wp2_with (first | ((with_reducible refine gate_callee (f := 23) rfl ?_); refine goesL_ (some 39) rfl rfl Tryd.func23 (by kernel_rfl) rfl #[.string t189, .string (⟨#[33, 61]⟩ : ByteArray)] rfl (by (try simp only [List.map_toArray, List.map_cons, List.map_nil]); first | done | rfl | (simp only [List.length_drop, List.length_take]; rfl)) ?_; (with_reducible refine (spec_Begins.calls t189 (⟨#[33, 61]⟩ : ByteArray) true _ A21.out).mono ?_); rintro e w' ⟨rfl, ⟨nd, rfl⟩⟩; refine ⟨_, rfl, ?_⟩))
                  go_meet
                  case rel => exact ⟨_, (1), (2), (by first | rfl | (simp; done) | (simp [*]; done) | (simp [*, q_isEmpty]; done) | (simp [*]; exact q_gt _ _ (by assumption))), (by first | rfl | (simp; done) | (simp [*]; done) | (simp [*, q_isEmpty]; done) | (simp [*]; exact q_gt _ _ (by assumption))), H', ⟨by have := HJ10.out; first | omega | exact Nat.le_refl _⟩, ⟨by (with_reducible repeat (first | refine blk_drewN ?_ _ | refine blk_drew ?_ | refine blk_alloc ?_ _)); exact BK185.out⟩, ⟨by repeat (first | (with_reducible first | exact HB.out | apply below_alloc | apply pw_below_drewN | apply below_drew1 | refine below_set ?_ GE185.out) | exact HB.out)⟩⟩
                · replace c22 := Bool.eq_false_iff.mpr c22
                  subst c22
                  have H1 : ((spec_Begins.f t189 (⟨#[61]⟩ : ByteArray)).bind fun t193 => (if t193 = true then (spec_ClassicMatcher.j1 kj10 a0 t189 t188 (t187.extract 0 (t188 : Int).toNat) 0 1) else (spec_ClassicMatcher.j1 kj10 a0 t189 t188 (t187.extract 0 (t188 : Int).toNat) (-1) 1))) = some (r1, r2, r3, r4) := by rw [if_neg (show ¬ (false = true) by decide)] at H; exact H
                  clear H
                  have H := H1
                  clear H1
                  replace H := Option.bind_eq_some_iff.mp H
                  obtain ⟨t193, A230, H⟩ := H
                  replace H : (if t193 = true then (spec_ClassicMatcher.j1 kj10 a0 t189 t188 (t187.extract 0 (t188 : Int).toNat) 0 1) else (spec_ClassicMatcher.j1 kj10 a0 t189 t188 (t187.extract 0 (t188 : Int).toNat) (-1) 1)) = some (r1, r2, r3, r4) := H
                  have A23 := Aside0.mk A230
                  clear A230
                  by_cases c24 : t193 = true
                  · subst c24
                    have H1 : (spec_ClassicMatcher.j1 kj10 a0 t189 t188 (t187.extract 0 (t188 : Int).toNat) 0 1) = some (r1, r2, r3, r4) := by rw [if_pos rfl] at H; exact H
                    clear H
                    have H := H1
                    clear H1
                    have H' := Aside0.mk H
                    clear H
                    go_wp2_with (first | ((with_reducible refine gate_callee (f := 23) rfl ?_); refine goesL_ (some 39) rfl rfl Tryd.func23 (by kernel_rfl) rfl #[.string t189, .string (⟨#[33, 61]⟩ : ByteArray)] rfl (by (try simp only [List.map_toArray, List.map_cons, List.map_nil]); first | done | rfl | (simp only [List.length_drop, List.length_take]; rfl)) ?_; (with_reducible refine (spec_Begins.calls t189 (⟨#[33, 61]⟩ : ByteArray) false _ A21.out).mono ?_); rintro e w' ⟨rfl, ⟨nd, rfl⟩⟩; refine ⟨_, rfl, ?_⟩) | ((with_reducible refine gate_callee (f := 23) rfl ?_); refine goesL_ (some 42) rfl rfl Tryd.func23 (by kernel_rfl) rfl #[.string t189, .string (⟨#[61]⟩ : ByteArray)] rfl (by (try simp only [List.map_toArray, List.map_cons, List.map_nil]); first | done | rfl | (simp only [List.length_drop, List.length_take]; rfl)) ?_; (with_reducible refine (spec_Begins.calls t189 (⟨#[61]⟩ : ByteArray) true _ A23.out).mono ?_); rintro e w' ⟨rfl, ⟨nd, rfl⟩⟩; refine ⟨_, rfl, ?_⟩))
                    go_meet
                    case rel => exact ⟨_, (0), (1), (by first | rfl | (simp; done) | (simp [*]; done) | (simp [*, q_isEmpty]; done) | (simp [*]; exact q_gt _ _ (by assumption))), (by first | rfl | (simp; done) | (simp [*]; done) | (simp [*, q_isEmpty]; done) | (simp [*]; exact q_gt _ _ (by assumption))), H', ⟨by have := HJ10.out; first | omega | exact Nat.le_refl _⟩, ⟨by (with_reducible repeat (first | refine blk_drewN ?_ _ | refine blk_drew ?_ | refine blk_alloc ?_ _)); exact BK185.out⟩, ⟨by repeat (first | (with_reducible first | exact HB.out | apply below_alloc | apply pw_below_drewN | apply below_drew1 | refine below_set ?_ GE185.out) | exact HB.out)⟩⟩
                  · replace c24 := Bool.eq_false_iff.mpr c24
                    subst c24
                    have H1 : (spec_ClassicMatcher.j1 kj10 a0 t189 t188 (t187.extract 0 (t188 : Int).toNat) (-1) 1) = some (r1, r2, r3, r4) := by rw [if_neg (show ¬ (false = true) by decide)] at H; exact H
                    clear H
                    have H := H1
                    clear H1
                    have H' := Aside0.mk H
                    clear H
                    go_wp2_with (first | ((with_reducible refine gate_callee (f := 23) rfl ?_); refine goesL_ (some 39) rfl rfl Tryd.func23 (by kernel_rfl) rfl #[.string t189, .string (⟨#[33, 61]⟩ : ByteArray)] rfl (by (try simp only [List.map_toArray, List.map_cons, List.map_nil]); first | done | rfl | (simp only [List.length_drop, List.length_take]; rfl)) ?_; (with_reducible refine (spec_Begins.calls t189 (⟨#[33, 61]⟩ : ByteArray) false _ A21.out).mono ?_); rintro e w' ⟨rfl, ⟨nd, rfl⟩⟩; refine ⟨_, rfl, ?_⟩) | ((with_reducible refine gate_callee (f := 23) rfl ?_); refine goesL_ (some 42) rfl rfl Tryd.func23 (by kernel_rfl) rfl #[.string t189, .string (⟨#[61]⟩ : ByteArray)] rfl (by (try simp only [List.map_toArray, List.map_cons, List.map_nil]); first | done | rfl | (simp only [List.length_drop, List.length_take]; rfl)) ?_; (with_reducible refine (spec_Begins.calls t189 (⟨#[61]⟩ : ByteArray) false _ A23.out).mono ?_); rintro e w' ⟨rfl, ⟨nd, rfl⟩⟩; refine ⟨_, rfl, ?_⟩))
                    go_meet
                    case rel => exact ⟨_, ((-1)), (1), (by first | rfl | (simp; done) | (simp [*]; done) | (simp [*, q_isEmpty]; done) | (simp [*]; exact q_gt _ _ (by assumption))), (by first | rfl | (simp; done) | (simp [*]; done) | (simp [*, q_isEmpty]; done) | (simp [*]; exact q_gt _ _ (by assumption))), H', ⟨by have := HJ10.out; first | omega | exact Nat.le_refl _⟩, ⟨by (with_reducible repeat (first | refine blk_drewN ?_ _ | refine blk_drew ?_ | refine blk_alloc ?_ _)); exact BK185.out⟩, ⟨by repeat (first | (with_reducible first | exact HB.out | apply below_alloc | apply pw_below_drewN | apply below_drew1 | refine below_set ?_ GE185.out) | exact HB.out)⟩⟩
              case rest =>
                clear HC20
                try clear c1
                try clear c2
                try clear p2
                try clear c3
                try clear c6
                try clear c6b0
                try clear c6b1
                try clear c7
                try clear c7b0
                try clear c7b1
                try clear c8
                try clear c8b0
                try clear c9
                try clear c9b0
                try clear c11
                try clear c15
                try clear c16
                try clear c16b0
                try clear c16b1
                try clear c18
                try clear c20
                try clear c21
                try clear c22
                try clear c23
                try clear c24
                try clear hcz19_0
                try clear hcz19_1
                try clear hcz19_2
                try clear hfz19_0
                try clear hfz19_1
                try clear hfz19_2
                try clear p2
                obtain ⟨kq, x7_19, x8_19, rfl, rfl, HA, HJ19, BK185, HB⟩ := hcut
                cases kq with
                | zero => exact absurd HA.out (by simp [spec_ClassicMatcher.j1])
                | succ kj19 =>
                  have H := HA.out
                  clear HA
                  simp only [spec_ClassicMatcher.j1] at H
                  have HC25 := Aside0.mk H
                  clear H
                  go_upto_region 14 with (fail)
                  go_cut [53] (fun v53 wc => ∃ (kq : Nat) (x53_24 : Bool), v53 = .bool x53_24 ∧ Aside0 (spec_ClassicMatcher.j2 kq t189 (t187.extract 0 (t188 : Int).toNat) x7_19 x8_19 x53_24 = some (r1, r2, r3, r4)) ∧ Aside0 (kq ≤ kj19) ∧ Aside0 (wc.heap[gb185]? = some (.cells #[.int .i64 0, .string (⟨#[]⟩ : ByteArray), .string (⟨#[]⟩ : ByteArray)] 32 (0, 0))) ∧ Aside0 (Below w.heap.size w wc))
                  case first =>
                    have H := HC25.out
                    clear HC25
                    by_cases c26 : t188 = 0
                    · rw [if_pos c26] at H
                      have c26b0 : (t188 == 0) = true := beq_iff_eq.mpr c26
                      have c26b1 : (t188 != 0) = false := bne_eq_false_iff_eq.mpr c26
                      clear c26
                      (first | rw [c26b0] | (simp only [i64_w, i32_w]; rw [c26b0]) | skip)
                      have H' := Aside0.mk H
                      clear H
                      go_wp2
                      go_meet
                      case rel => exact ⟨_, (true), (by first | rfl | (simp; done) | (simp [*]; done) | (simp [*, q_isEmpty]; done) | (simp [*]; exact q_gt _ _ (by assumption))), H', ⟨by have := HJ10.out; have := HJ19.out; first | omega | exact Nat.le_refl _⟩, ⟨by (with_reducible repeat (first | refine blk_drewN ?_ _ | refine blk_drew ?_ | refine blk_alloc ?_ _)); exact BK185.out⟩, ⟨by repeat (first | (with_reducible first | exact HB.out | apply below_alloc | apply pw_below_drewN | apply below_drew1 | refine below_set ?_ GE185.out) | exact HB.out)⟩⟩
                    · rw [if_neg c26] at H
                      have c26b0 : (t188 == 0) = false := beq_eq_false_iff_ne.mpr c26
                      have c26b1 : (t188 != 0) = true := bne_iff_ne.mpr c26
                      (first | rw [c26b0] | (simp only [i64_w, i32_w]; rw [c26b0]) | skip)
                      by_cases c27 : x7_19 < 0
                      · rw [if_pos c27] at H
                        have c27b0 : decide (x7_19 < 0) = true := decide_eq_true c27
                        clear c27
                        have H' := Aside0.mk H
                        clear H
                        go_wp2
                        go_meet
                        case rel => exact ⟨_, (true), (by first | rfl | (simp; done) | (simp [*]; done) | (simp [*, q_isEmpty]; done) | (simp [*]; exact q_gt _ _ (by assumption))), H', ⟨by have := HJ10.out; have := HJ19.out; first | omega | exact Nat.le_refl _⟩, ⟨by (with_reducible repeat (first | refine blk_drewN ?_ _ | refine blk_drew ?_ | refine blk_alloc ?_ _)); exact BK185.out⟩, ⟨by repeat (first | (with_reducible first | exact HB.out | apply below_alloc | apply pw_below_drewN | apply below_drew1 | refine below_set ?_ GE185.out) | exact HB.out)⟩⟩
                      · rw [if_neg c27] at H
                        have c27b0 : decide (x7_19 < 0) = false := decide_eq_false c27
                        clear c27
                        replace H := Option.bind_eq_some_iff.mp H
                        obtain ⟨t194, A280, H⟩ := H
                        replace H : (spec_ClassicMatcher.j2 kj19 t189 (t187.extract 0 (t188 : Int).toNat) x7_19 x8_19 (!t194)) = some (r1, r2, r3, r4) := H
                        have A28 := Aside0.mk A280
                        clear A280
                        have H' := Aside0.mk H
                        clear H
                        go_wp2_with (first | (go_at_call 24; (with_reducible refine (spec_Valid.calls kj19 a0 t194 _ A28.out).mono ?_); rintro e w' ⟨rfl, ⟨nd, rfl⟩⟩))
                        go_meet
                        case rel => exact ⟨_, (!t194), (by first | rfl | (simp; done) | (simp [*]; done) | (simp [*, q_isEmpty]; done) | (simp [*]; exact q_gt _ _ (by assumption))), H', ⟨by have := HJ10.out; have := HJ19.out; first | omega | exact Nat.le_refl _⟩, ⟨by (with_reducible repeat (first | refine blk_drewN ?_ _ | refine blk_drew ?_ | refine blk_alloc ?_ _)); exact BK185.out⟩, ⟨by repeat (first | (with_reducible first | exact HB.out | apply below_alloc | apply pw_below_drewN | apply below_drew1 | refine below_set ?_ GE185.out) | exact HB.out)⟩⟩
                  case rest =>
                    clear HC25
                    try clear c1
                    try clear c2
                    try clear p2
                    try clear c3
                    try clear c6
                    try clear c6b0
                    try clear c6b1
                    try clear c7
                    try clear c7b0
                    try clear c7b1
                    try clear c8
                    try clear c8b0
                    try clear c9
                    try clear c9b0
                    try clear c11
                    try clear c15
                    try clear c16
                    try clear c16b0
                    try clear c16b1
                    try clear c18
                    try clear c20
                    try clear c21
                    try clear c22
                    try clear c23
                    try clear c24
                    try clear c26
                    try clear c26b0
                    try clear c26b1
                    try clear c27
                    try clear c27b0
                    try clear hcz19_0
                    try clear hcz19_1
                    try clear hcz19_2
                    try clear hfz19_0
                    try clear hfz19_1
                    try clear hfz19_2
                    try clear p2
                    obtain ⟨kq, x53_24, rfl, HA, HJ24, BK185, HB⟩ := hcut
                    cases kq with
                    | zero => exact absurd HA.out (by simp [spec_ClassicMatcher.j2])
                    | succ kj24 =>
                      have H := HA.out
                      clear HA
                      simp only [spec_ClassicMatcher.j2] at H
                      by_cases c29 : x53_24 = true
                      · subst c29
                        have H1 : (some (0, (⟨#[]⟩ : ByteArray), (⟨#[]⟩ : ByteArray), 0)) = some (r1, r2, r3, r4) := by rw [if_pos rfl] at H; exact H
                        clear H
                        have H := H1
                        clear H1
                        simp only [Option.some.injEq, Prod.mk.injEq] at H
                        obtain ⟨rfl, rfl, rfl, rfl⟩ := H
                        have hcz30_0 : wc.cell? ⟨gb185, 0, none⟩ = some (.int .i64 0) := (blk_cell BK185.out 0).trans rfl
                        have hcz30_1 : wc.cell? ⟨gb185, 1, none⟩ = some (.string (⟨#[]⟩ : ByteArray)) := (blk_cell BK185.out 1).trans rfl
                        have hcz30_2 : wc.cell? ⟨gb185, 2, none⟩ = some (.string (⟨#[]⟩ : ByteArray)) := (blk_cell BK185.out 2).trans rfl
                        have hfz30_0 := blk_frozen BK185.out 0
                        have hfz30_1 := blk_frozen BK185.out 1
                        have hfz30_2 := blk_frozen BK185.out 2
                        go_wp2
                        refine bodyPost_ret (results_ct rfl _ _ gb185 32 #[.int .i64 0, .string (⟨#[]⟩ : ByteArray), .string (⟨#[]⟩ : ByteArray)] (0, 0) _ rfl (by (with_reducible repeat (first | refine blk_drewN ?_ _ | refine blk_drew ?_ | refine blk_alloc ?_ _)); refine blk_put (cs := #[.int .i64 0, .string (⟨#[]⟩ : ByteArray), .string (⟨#[]⟩ : ByteArray)]) ?_ 2 _ rfl; (with_reducible repeat (first | refine blk_drewN ?_ _ | refine blk_drew ?_ | refine blk_alloc ?_ _)); refine blk_put (cs := #[.int .i64 0, .string (⟨#[]⟩ : ByteArray), .string (⟨#[]⟩ : ByteArray)]) ?_ 1 _ rfl; (with_reducible repeat (first | refine blk_drewN ?_ _ | refine blk_drew ?_ | refine blk_alloc ?_ _)); refine blk_put (cs := #[.int .i64 0, .string (⟨#[]⟩ : ByteArray), .string (⟨#[]⟩ : ByteArray)]) ?_ 0 _ rfl; (with_reducible repeat (first | refine blk_drewN ?_ _ | refine blk_drew ?_ | refine blk_alloc ?_ _)); exact BK185.out) Tryd.underlying32 rfl (by kernel_rfl)) rfl ?_
                        exact ⟨by first | rfl | (simp [errW_none, errW_some] <;> rfl) | (simp [*, errW_none, errW_some] <;> rfl) | (simp [*, q_isEmpty]; done) | (simp [*]; exact q_gt _ _ (by assumption)), by repeat (first | (with_reducible first | exact HB.out | apply below_alloc | apply pw_below_drewN | apply below_drew1 | refine below_set ?_ GE185.out) | exact HB.out)⟩
                      · replace c29 := Bool.eq_false_iff.mpr c29
                        subst c29
                        have H1 : (if 0 ≤ x8_19 then (if x8_19 ≤ (t189.size : Int) then ((spec_trimmed.f kj24 (t189.extract (x8_19 : Int).toNat t189.size)).bind fun t195 => ((spec_classicValue.f kj24 t195).bind fun bt196 => (if bt196.2 = 1 then (some (x7_19, (t187.extract 0 (t188 : Int).toNat), bt196.1, 1)) else (some (0, (⟨#[]⟩ : ByteArray), (⟨#[]⟩ : ByteArray), bt196.2))))) else (none)) else (none)) = some (r1, r2, r3, r4) := by rw [if_neg (show ¬ (false = true) by decide)] at H; exact H
                        clear H
                        have H := H1
                        clear H1
                        by_cases c31 : 0 ≤ x8_19
                        · rw [if_pos c31] at H
                          have c31b0 := eq_true c31
                          have c31b1 : decide (0 ≤ x8_19) = true := decide_eq_true c31
                          clear c31
                          by_cases c32 : x8_19 ≤ (t189.size : Int)
                          · rw [if_pos c32] at H
                            have c32b0 := eq_true c32
                            have c32b1 : decide (x8_19 ≤ (t189.size : Int)) = true := decide_eq_true c32
                            clear c32
                            replace H := Option.bind_eq_some_iff.mp H
                            obtain ⟨t195, A330, H⟩ := H
                            replace H : ((spec_classicValue.f kj24 t195).bind fun bt196 => (if bt196.2 = 1 then (some (x7_19, (t187.extract 0 (t188 : Int).toNat), bt196.1, 1)) else (some (0, (⟨#[]⟩ : ByteArray), (⟨#[]⟩ : ByteArray), bt196.2)))) = some (r1, r2, r3, r4) := H
                            have A33 := Aside0.mk A330
                            clear A330
                            replace H := Option.bind_eq_some_iff.mp H
                            obtain ⟨⟨t196, t197⟩, A340, H⟩ := H
                            replace H : (if t197 = 1 then (some (x7_19, (t187.extract 0 (t188 : Int).toNat), t196, 1)) else (some (0, (⟨#[]⟩ : ByteArray), (⟨#[]⟩ : ByteArray), t197))) = some (r1, r2, r3, r4) := H
                            have A34 := Aside0.mk A340
                            clear A340
                            by_cases c35 : t197 = 1
                            · rw [if_pos c35] at H
                              have c35b0 : (t197 == 1) = true := beq_iff_eq.mpr c35
                              have c35b1 : (t197 != 1) = false := bne_eq_false_iff_eq.mpr c35
                              clear c35
                              simp only [Option.some.injEq, Prod.mk.injEq] at H
                              obtain ⟨rfl, rfl, rfl, rfl⟩ := H
                              go_wp2_with (first | ((with_reducible refine gate_callee (f := 21) rfl ?_); refine goesL_ (some 59) rfl rfl Tryd.func21 (by kernel_rfl) rfl #[.string (t189.extract (x8_19 : Int).toNat t189.size)] rfl (by (try simp only [List.map_toArray, List.map_cons, List.map_nil]); first | done | rfl | (simp only [List.length_drop, List.length_take]; rfl)) ?_; (with_reducible refine (spec_trimmed.calls kj24 (t189.extract (x8_19 : Int).toNat t189.size) t195 _ A33.out).mono ?_); rintro e w' ⟨rfl, ⟨nd, rfl⟩⟩; refine ⟨_, rfl, ?_⟩; (try (rw [drewN_self wc]; generalize hq_ : World.drewN wc _ = wc; have n0_ : Aside0 (wc.heap[gb185]? = some (.cells #[.int .i64 0, .string (⟨#[]⟩ : ByteArray), .string (⟨#[]⟩ : ByteArray)] 32 (0, 0))) := ⟨by rw [← hq_]; exact (by (with_reducible repeat (first | refine blk_drewN ?_ _ | refine blk_drew ?_ | refine blk_alloc ?_ _)); exact BK185.out)⟩; have n1_ : Aside0 (Below w.heap.size w wc) := ⟨by rw [← hq_]; exact (by repeat (first | (with_reducible first | exact HB.out | apply below_alloc | apply pw_below_drewN | apply below_drew1 | refine below_set ?_ GE185.out) | exact HB.out))⟩; clear BK185 HB hq_; have BK185 := n0_; have HB := n1_; clear n0_ n1_))) | ((with_reducible refine gate_callee (f := 25) rfl ?_); refine goesL_ (some 60) rfl rfl Tryd.func25 (by kernel_rfl) rfl #[.string t195] rfl (by (try simp only [List.map_toArray, List.map_cons, List.map_nil]); first | done | rfl | (simp only [List.length_drop, List.length_take]; rfl)) ?_; (with_reducible refine (spec_classicValue.calls kj24 t195 t196 t197 _ A34.out).mono ?_); rintro e w36 ⟨rfl, hb⟩; refine ⟨_, rfl, ?_⟩; have n0_ := Aside0.mk (blk_below (g := gb185) (o := .cells #[.int .i64 0, .string (⟨#[]⟩ : ByteArray), .string (⟨#[]⟩ : ByteArray)] 32 (0, 0)) (by (with_reducible repeat (first | refine blk_drewN ?_ _ | refine blk_drew ?_ | refine blk_alloc ?_ _)); exact BK185.out) hb); have n1_ := Aside0.mk (below_step (by repeat (first | (with_reducible first | exact HB.out | apply below_alloc | apply pw_below_drewN | apply below_drew1 | refine below_set ?_ GE185.out) | exact HB.out)) hb); clear BK185; clear HB; have BK185 := n0_; have HB := n1_; clear n0_ n1_; (try clear hb); (try clear hb2); (try clear hk); (try clear hi); have hcz37_0 : w36.cell? ⟨gb185, 0, none⟩ = some (.int .i64 0) := (blk_cell BK185.out 0).trans rfl; have hcz37_1 : w36.cell? ⟨gb185, 1, none⟩ = some (.string (⟨#[]⟩ : ByteArray)) := (blk_cell BK185.out 1).trans rfl; have hcz37_2 : w36.cell? ⟨gb185, 2, none⟩ = some (.string (⟨#[]⟩ : ByteArray)) := (blk_cell BK185.out 2).trans rfl; have hfz37_0 := blk_frozen BK185.out 0; have hfz37_1 := blk_frozen BK185.out 1; have hfz37_2 := blk_frozen BK185.out 2))
                              refine bodyPost_ret (results_ct rfl _ _ gb185 32 #[.int .i64 x7_19, .string (t187.extract 0 (t188 : Int).toNat), .string t196] (0, 0) _ rfl (by (with_reducible repeat (first | refine blk_drewN ?_ _ | refine blk_drew ?_ | refine blk_alloc ?_ _)); refine blk_put (cs := #[.int .i64 x7_19, .string (t187.extract 0 (t188 : Int).toNat), .string (⟨#[]⟩ : ByteArray)]) ?_ 2 _ rfl; (with_reducible repeat (first | refine blk_drewN ?_ _ | refine blk_drew ?_ | refine blk_alloc ?_ _)); refine blk_put (cs := #[.int .i64 x7_19, .string (⟨#[]⟩ : ByteArray), .string (⟨#[]⟩ : ByteArray)]) ?_ 1 _ rfl; (with_reducible repeat (first | refine blk_drewN ?_ _ | refine blk_drew ?_ | refine blk_alloc ?_ _)); refine blk_put (cs := #[.int .i64 0, .string (⟨#[]⟩ : ByteArray), .string (⟨#[]⟩ : ByteArray)]) ?_ 0 _ rfl; (with_reducible repeat (first | refine blk_drewN ?_ _ | refine blk_drew ?_ | refine blk_alloc ?_ _)); exact BK185.out) Tryd.underlying32 rfl (by kernel_rfl)) rfl ?_
                              exact ⟨by first | rfl | (simp [errW_none, errW_some] <;> rfl) | (simp [*, errW_none, errW_some] <;> rfl) | (simp [*, q_isEmpty]; done) | (simp [*]; exact q_gt _ _ (by assumption)), by repeat (first | (with_reducible first | exact HB.out | apply below_alloc | apply pw_below_drewN | apply below_drew1 | refine below_set ?_ GE185.out) | exact HB.out)⟩
                            · rw [if_neg c35] at H
                              have c35b0 : (t197 == 1) = false := beq_eq_false_iff_ne.mpr c35
                              have c35b1 : (t197 != 1) = true := bne_iff_ne.mpr c35
                              simp only [Option.some.injEq, Prod.mk.injEq] at H
                              obtain ⟨rfl, rfl, rfl, rfl⟩ := H
                              go_wp2_with (first | ((with_reducible refine gate_callee (f := 21) rfl ?_); refine goesL_ (some 59) rfl rfl Tryd.func21 (by kernel_rfl) rfl #[.string (t189.extract (x8_19 : Int).toNat t189.size)] rfl (by (try simp only [List.map_toArray, List.map_cons, List.map_nil]); first | done | rfl | (simp only [List.length_drop, List.length_take]; rfl)) ?_; (with_reducible refine (spec_trimmed.calls kj24 (t189.extract (x8_19 : Int).toNat t189.size) t195 _ A33.out).mono ?_); rintro e w' ⟨rfl, ⟨nd, rfl⟩⟩; refine ⟨_, rfl, ?_⟩; (try (rw [drewN_self wc]; generalize hq_ : World.drewN wc _ = wc; have n0_ : Aside0 (wc.heap[gb185]? = some (.cells #[.int .i64 0, .string (⟨#[]⟩ : ByteArray), .string (⟨#[]⟩ : ByteArray)] 32 (0, 0))) := ⟨by rw [← hq_]; exact (by (with_reducible repeat (first | refine blk_drewN ?_ _ | refine blk_drew ?_ | refine blk_alloc ?_ _)); exact BK185.out)⟩; have n1_ : Aside0 (Below w.heap.size w wc) := ⟨by rw [← hq_]; exact (by repeat (first | (with_reducible first | exact HB.out | apply below_alloc | apply pw_below_drewN | apply below_drew1 | refine below_set ?_ GE185.out) | exact HB.out))⟩; clear BK185 HB hq_; have BK185 := n0_; have HB := n1_; clear n0_ n1_))) | ((with_reducible refine gate_callee (f := 25) rfl ?_); refine goesL_ (some 60) rfl rfl Tryd.func25 (by kernel_rfl) rfl #[.string t195] rfl (by (try simp only [List.map_toArray, List.map_cons, List.map_nil]); first | done | rfl | (simp only [List.length_drop, List.length_take]; rfl)) ?_; (with_reducible refine (spec_classicValue.calls kj24 t195 t196 t197 _ A34.out).mono ?_); rintro e w38 ⟨rfl, hb⟩; refine ⟨_, rfl, ?_⟩; have n0_ := Aside0.mk (blk_below (g := gb185) (o := .cells #[.int .i64 0, .string (⟨#[]⟩ : ByteArray), .string (⟨#[]⟩ : ByteArray)] 32 (0, 0)) (by (with_reducible repeat (first | refine blk_drewN ?_ _ | refine blk_drew ?_ | refine blk_alloc ?_ _)); exact BK185.out) hb); have n1_ := Aside0.mk (below_step (by repeat (first | (with_reducible first | exact HB.out | apply below_alloc | apply pw_below_drewN | apply below_drew1 | refine below_set ?_ GE185.out) | exact HB.out)) hb); clear BK185; clear HB; have BK185 := n0_; have HB := n1_; clear n0_ n1_; (try clear hb); (try clear hb2); (try clear hk); (try clear hi); have hcz39_0 : w38.cell? ⟨gb185, 0, none⟩ = some (.int .i64 0) := (blk_cell BK185.out 0).trans rfl; have hcz39_1 : w38.cell? ⟨gb185, 1, none⟩ = some (.string (⟨#[]⟩ : ByteArray)) := (blk_cell BK185.out 1).trans rfl; have hcz39_2 : w38.cell? ⟨gb185, 2, none⟩ = some (.string (⟨#[]⟩ : ByteArray)) := (blk_cell BK185.out 2).trans rfl; have hfz39_0 := blk_frozen BK185.out 0; have hfz39_1 := blk_frozen BK185.out 1; have hfz39_2 := blk_frozen BK185.out 2))
                              refine bodyPost_ret (results_ct rfl _ _ gb185 32 #[.int .i64 0, .string (⟨#[]⟩ : ByteArray), .string (⟨#[]⟩ : ByteArray)] (0, 0) _ rfl (by (with_reducible repeat (first | refine blk_drewN ?_ _ | refine blk_drew ?_ | refine blk_alloc ?_ _)); refine blk_put (cs := #[.int .i64 0, .string (⟨#[]⟩ : ByteArray), .string (⟨#[]⟩ : ByteArray)]) ?_ 2 _ rfl; (with_reducible repeat (first | refine blk_drewN ?_ _ | refine blk_drew ?_ | refine blk_alloc ?_ _)); refine blk_put (cs := #[.int .i64 0, .string (⟨#[]⟩ : ByteArray), .string (⟨#[]⟩ : ByteArray)]) ?_ 1 _ rfl; (with_reducible repeat (first | refine blk_drewN ?_ _ | refine blk_drew ?_ | refine blk_alloc ?_ _)); refine blk_put (cs := #[.int .i64 0, .string (⟨#[]⟩ : ByteArray), .string (⟨#[]⟩ : ByteArray)]) ?_ 0 _ rfl; (with_reducible repeat (first | refine blk_drewN ?_ _ | refine blk_drew ?_ | refine blk_alloc ?_ _)); exact BK185.out) Tryd.underlying32 rfl (by kernel_rfl)) rfl ?_
                              exact ⟨by first | rfl | (simp [errW_none, errW_some] <;> rfl) | (simp [*, errW_none, errW_some] <;> rfl) | (simp [*, q_isEmpty]; done) | (simp [*]; exact q_gt _ _ (by assumption)), by repeat (first | (with_reducible first | exact HB.out | apply below_alloc | apply pw_below_drewN | apply below_drew1 | refine below_set ?_ GE185.out) | exact HB.out)⟩
                          · rw [if_neg c32] at H
                            exact absurd H (by simp)
                        · rw [if_neg c31] at H
                          exact absurd H (by simp)
      · rw [if_neg c7] at H
        exact absurd H (by simp)
    · rw [if_neg c6] at H
      exact absurd H (by simp)
  · replace c3 := Bool.eq_false_iff.mpr c3
    subst c3
    have H1 : (some (0, (⟨#[]⟩ : ByteArray), (⟨#[]⟩ : ByteArray), 2)) = some (r1, r2, r3, r4) := by rw [if_neg (show ¬ (false = true) by decide)] at H; exact H
    clear H
    have H := H1
    clear H1
    simp only [Option.some.injEq, Prod.mk.injEq] at H
    obtain ⟨rfl, rfl, rfl, rfl⟩ := H
    go_enter Tryd.func11, Tryd.ntmps11
    go_wp2_with (first | ((with_reducible refine gate_dst (N := 2) rfl ?_); refine box_event ?hg (N := 2) ?hd (cs := #[.int .i64 0, .string (⟨#[]⟩ : ByteArray), .string (⟨#[]⟩ : ByteArray)]) (t := 32) ?hr ?_; (case hd => rfl); (case hg => rfl); (case hr => first | (go_simp; done) | (go_simp; rfl)); intro gb185 hg w40 hbox hb; have n0_ := Aside0.mk (below_step (by repeat (first | (with_reducible first | exact HB.out | apply below_alloc | apply pw_below_drewN | apply below_drew1) | exact HB.out)) hb); have n1_ := Aside0.mk (hbox); have n2_ := Aside0.mk ((by rw [hg]; exact (below_size (by repeat (first | (with_reducible first | exact HB.out | apply below_alloc | apply pw_below_drewN | apply below_drew1) | exact HB.out))) : w.heap.size ≤ gb185)); have n3_ := Aside0.mk ((by rw [hg]; exact (below_size (by repeat (first | (with_reducible first | exact HB.out | apply below_alloc | apply pw_below_drewN | apply below_drew1) | exact HB.out))) : w.heap.size ≤ gb185)); clear HB; have HB := n0_; have BK185 := n1_; have GW185 := n2_; have GE185 := n3_; clear n0_ n1_ n2_ n3_; clear hb hbox hg) | ((with_reducible refine gate_callee (f := 20) rfl ?_); refine goesL_ (some 12) rfl rfl Tryd.func20 (by kernel_rfl) rfl #[.string a0] rfl (by (try simp only [List.map_toArray, List.map_cons, List.map_nil]); first | done | rfl | (simp only [List.length_drop, List.length_take]; rfl)) ?_; (with_reducible refine (spec_Classic.calls k a0 false _ A2.out).mono ?_); rintro e w41 ⟨rfl, hb⟩; refine ⟨_, rfl, ?_⟩; have n0_ := Aside0.mk (blk_below (g := gb185) (o := .cells #[.int .i64 0, .string (⟨#[]⟩ : ByteArray), .string (⟨#[]⟩ : ByteArray)] 32 (0, 0)) (by (with_reducible repeat (first | refine blk_drewN ?_ _ | refine blk_drew ?_ | refine blk_alloc ?_ _)); exact BK185.out) hb); have n1_ := Aside0.mk (below_step (by repeat (first | (with_reducible first | exact HB.out | apply below_alloc | apply pw_below_drewN | apply below_drew1 | refine below_set ?_ GE185.out) | exact HB.out)) hb); clear BK185; clear HB; have BK185 := n0_; have HB := n1_; clear n0_ n1_; (try clear hb); (try clear hb2); (try clear hk); (try clear hi); have hcz42_0 : w41.cell? ⟨gb185, 0, none⟩ = some (.int .i64 0) := (blk_cell BK185.out 0).trans rfl; have hcz42_1 : w41.cell? ⟨gb185, 1, none⟩ = some (.string (⟨#[]⟩ : ByteArray)) := (blk_cell BK185.out 1).trans rfl; have hcz42_2 : w41.cell? ⟨gb185, 2, none⟩ = some (.string (⟨#[]⟩ : ByteArray)) := (blk_cell BK185.out 2).trans rfl; have hfz42_0 := blk_frozen BK185.out 0; have hfz42_1 := blk_frozen BK185.out 1; have hfz42_2 := blk_frozen BK185.out 2))
    refine bodyPost_ret (results_ct rfl _ _ gb185 32 #[.int .i64 0, .string (⟨#[]⟩ : ByteArray), .string (⟨#[]⟩ : ByteArray)] (0, 0) _ rfl (by (with_reducible repeat (first | refine blk_drewN ?_ _ | refine blk_drew ?_ | refine blk_alloc ?_ _)); refine blk_put (cs := #[.int .i64 0, .string (⟨#[]⟩ : ByteArray), .string (⟨#[]⟩ : ByteArray)]) ?_ 2 _ rfl; (with_reducible repeat (first | refine blk_drewN ?_ _ | refine blk_drew ?_ | refine blk_alloc ?_ _)); refine blk_put (cs := #[.int .i64 0, .string (⟨#[]⟩ : ByteArray), .string (⟨#[]⟩ : ByteArray)]) ?_ 1 _ rfl; (with_reducible repeat (first | refine blk_drewN ?_ _ | refine blk_drew ?_ | refine blk_alloc ?_ _)); refine blk_put (cs := #[.int .i64 0, .string (⟨#[]⟩ : ByteArray), .string (⟨#[]⟩ : ByteArray)]) ?_ 0 _ rfl; (with_reducible repeat (first | refine blk_drewN ?_ _ | refine blk_drew ?_ | refine blk_alloc ?_ _)); exact BK185.out) Tryd.underlying32 rfl (by kernel_rfl)) rfl ?_
    exact ⟨by first | rfl | (simp [errW_none, errW_some] <;> rfl) | (simp [*, errW_none, errW_some] <;> rfl) | (simp [*, q_isEmpty]; done) | (simp [*]; exact q_gt _ _ (by assumption)), by repeat (first | (with_reducible first | exact HB.out | apply below_alloc | apply pw_below_drewN | apply below_drew1 | refine below_set ?_ GE185.out) | exact HB.out)⟩

end Go.Proofs.YtkngnoipipnioaaDoor.Q
