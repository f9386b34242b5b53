-- Printed for this seat by wip/pp.py of this repo; nothing here is trusted: Lean checks it.
import Derived.Test.YtmmcibeeojfplaaDoorQ0
import Derived.Test.YtmmcibeeojfplaaDoorQtimeintervalzzDigit
namespace Go.Proofs.YtmmcibeeojfplaaDoor.Q
open Go.RowKit Go.Proofs.YtmmcibeeojfplaaDoorW.PrintWords Go.Proofs.YtmmcibeeojfplaaDoorW.PrintLast Go.Proofs.YtmmcibeeojfplaaDoorW.PrintMore
attribute [local go_sem] max2_int min2_int max_two min_two max_three min_three max_four min_four   -- for this text's walks alone
set_option linter.unusedVariables false
set_option linter.unusedSimpArgs false

/-! ### timeinterval_zzValidTime: function 141 -/
def timeinterval_zzValidTime.j0 : Nat → ByteArray → Bool → Option (Bool)
  | 0, _, _ => none
  | k + 1, x0, x24 => if x24 = true then (some false) else (if 0 < (x0.size : Int) then ((timeinterval_zzDigit.f (bt x0 0) 48 49).bind fun t155 => (if t155 = true then (if 1 < (x0.size : Int) then ((timeinterval_zzDigit.f (bt x0 1) 48 57).bind fun t156 => (if t156 = true then (some true) else (if (bt x0 0) = 50 then ((timeinterval_zzDigit.f (bt x0 1) 48 51).bind fun t157 => (some t157)) else (some false)))) else (none)) else (if (bt x0 0) = 50 then (if 1 < (x0.size : Int) then ((timeinterval_zzDigit.f (bt x0 1) 48 51).bind fun t158 => (some t158)) else (none)) else (some false)))) else (none))
def timeinterval_zzValidTime.f (k : Nat) (a0 : ByteArray) : Option (Bool) := if a0.toList = ([50, 52, 58, 48, 48] : List UInt8) then (some true) else (if (a0.size : Int) = 5 then (if 2 < (a0.size : Int) then (if (bt a0 2) = 58 then (if 3 < (a0.size : Int) then ((timeinterval_zzDigit.f (bt a0 3) 48 53).bind fun t153 => (if t153 = true then (if 4 < (a0.size : Int) then ((timeinterval_zzDigit.f (bt a0 4) 48 57).bind fun t154 => (timeinterval_zzValidTime.j0 k a0 (!t154))) else (none)) else (timeinterval_zzValidTime.j0 k a0 true))) else (none)) else (timeinterval_zzValidTime.j0 k a0 true)) else (none)) else (timeinterval_zzValidTime.j0 k a0 true))
theorem timeinterval_zzValidTime.mono_l : ∀ k, (∀ y0 y1, LeO (timeinterval_zzValidTime.j0 k y0 y1) (timeinterval_zzValidTime.j0 (k + 1) y0 y1))
  | 0 => fun _ _ r h => by simp [timeinterval_zzValidTime.j0] at h
  | k + 1 => by
    have ih0 := timeinterval_zzValidTime.mono_l k
    · intro y0 y1
      unfold timeinterval_zzValidTime.j0
      repeat' first
      | (with_reducible exact ih0 _ _)
      | (with_reducible exact LeO.refl _)
      | (with_reducible exact LeO.none _)
      | (with_reducible refine LeO.ite ?_ ?_)
      | (with_reducible refine LeO.bind ?_ (fun _ => ?_))
      | exact ih0 _ _
      | exact LeO.none _
      | refine LeO.ite ?_ ?_
      | refine LeO.bind ?_ (fun _ => ?_)
theorem timeinterval_zzValidTime.mono : ∀ a0 k, LeO (timeinterval_zzValidTime.f k a0) (timeinterval_zzValidTime.f (k + 1) a0) := by
  intro a0 k
  have ih0 := timeinterval_zzValidTime.mono_l k
  unfold timeinterval_zzValidTime.f
  repeat' first
      | (with_reducible exact ih0 _ _)
      | (with_reducible exact LeO.refl _)
      | (with_reducible exact LeO.none _)
      | (with_reducible refine LeO.ite ?_ ?_)
      | (with_reducible refine LeO.bind ?_ (fun _ => ?_))
      | exact ih0 _ _
      | exact LeO.none _
      | refine LeO.ite ?_ ?_
      | refine LeO.bind ?_ (fun _ => ?_)
set_option maxHeartbeats 8000000 in
set_option maxRecDepth 100000 in
theorem timeinterval_zzValidTime.calls (k : Nat) (a0 : ByteArray) (r : Bool) (w : World) (h : timeinterval_zzValidTime.f k a0 = some r) :
    Calls Tryd.prog 141 #[.string a0] w fun e w' => e = .returned (.bool r) ∧ Drawn0 w w' := by
  have H : (if a0.toList = ([50, 52, 58, 48, 48] : List UInt8) then (some true) else (if (a0.size : Int) = 5 then (if 2 < (a0.size : Int) then (if (bt a0 2) = 58 then (if 3 < (a0.size : Int) then ((timeinterval_zzDigit.f (bt a0 3) 48 53).bind fun t153 => (if t153 = true then (if 4 < (a0.size : Int) then ((timeinterval_zzDigit.f (bt a0 4) 48 57).bind fun t154 => (timeinterval_zzValidTime.j0 k a0 (!t154))) else (none)) else (timeinterval_zzValidTime.j0 k a0 true))) else (none)) else (timeinterval_zzValidTime.j0 k a0 true)) else (none)) else (timeinterval_zzValidTime.j0 k a0 true))) = some r := h
  clear h
  by_cases c2 : a0.toList = ([50, 52, 58, 48, 48] : List UInt8)
  · rw [if_pos c2] at H
    have c2b0 : (a0.toList == ([50, 52, 58, 48, 48] : List UInt8)) = true := beq_iff_eq.mpr c2
    have c2b1 : (a0.toList != ([50, 52, 58, 48, 48] : List UInt8)) = false := bne_eq_false_iff_eq.mpr c2
    clear c2
    obtain rfl := Option.some.inj H
    go_enter Tryd.func141, Tryd.ntmps141
    go_wp2
    go_ret
    exact ⟨by first | rfl | (simp; done) | (simp [*]; done) | (simp [*, q_isEmpty]; done) | (simp [*]; exact q_gt _ _ (by assumption)), by repeat (first | exact Drawn0.refl _ | apply Drawn0.step)⟩
  · rw [if_neg c2] at H
    have c2b0 : (a0.toList == ([50, 52, 58, 48, 48] : List UInt8)) = false := beq_eq_false_iff_ne.mpr c2
    have c2b1 : (a0.toList != ([50, 52, 58, 48, 48] : List UInt8)) = true := bne_iff_ne.mpr c2
    have HC3 := Aside0.mk H
    clear H
    go_enter Tryd.func141, Tryd.ntmps141
    go_upto_region 3 with (fail)
    go_cut [24] (fun v24 wc => ∃ (kq : Nat) (x24_2 : Bool), v24 = .bool x24_2 ∧ Aside0 (timeinterval_zzValidTime.j0 kq a0 x24_2 = some r) ∧ Aside0 (kq ≤ k) ∧ Drawn0 w wc)
    case first =>
      have H := HC3.out
      clear HC3
      by_cases c4 : (a0.size : Int) = 5
      · rw [if_pos c4] at H
        have c4b0 : ((a0.size : Int) == 5) = true := beq_iff_eq.mpr c4
        have c4b1 : ((a0.size : Int) != 5) = false := bne_eq_false_iff_eq.mpr c4
        clear c4
        (first | rw [c4b0] | (simp only [i64_w, i32_w]; rw [c4b0]) | skip)
        by_cases c5 : 2 < (a0.size : Int)
        · rw [if_pos c5] at H
          have c5b0 : decide (2 < (a0.size : Int)) = true := decide_eq_true c5
          have c5b1 : decide (2 < a0.size) = true := decide_eq_true (by omega)
          clear c5
          by_cases c7 : (bt a0 2) = 58
          · rw [if_pos c7] at H
            have c7b0 : ((bt a0 2) == 58) = true := beq_iff_eq.mpr c7
            have c7b1 : ((bt a0 2) != 58) = false := bne_eq_false_iff_eq.mpr c7
            clear c7
            by_cases c8 : 3 < (a0.size : Int)
            · rw [if_pos c8] at H
              have c8b0 : decide (3 < (a0.size : Int)) = true := decide_eq_true c8
              have c8b1 : decide (3 < a0.size) = true := decide_eq_true (by omega)
              clear c8
              replace H := Option.bind_eq_some_iff.mp H
              obtain ⟨t153, A100, H⟩ := H
              replace H : (if t153 = true then (if 4 < (a0.size : Int) then ((timeinterval_zzDigit.f (bt a0 4) 48 57).bind fun t154 => (timeinterval_zzValidTime.j0 k a0 (!t154))) else (none)) else (timeinterval_zzValidTime.j0 k a0 true)) = some r := H
              have A10 := Aside0.mk A100
              clear A100
              by_cases c11 : t153 = true
              · subst c11
                have H1 : (if 4 < (a0.size : Int) then ((timeinterval_zzDigit.f (bt a0 4) 48 57).bind fun t154 => (timeinterval_zzValidTime.j0 k a0 (!t154))) else (none)) = some r := by rw [if_pos rfl] at H; exact H
                clear H
                have H := H1
                clear H1
                by_cases c12 : 4 < (a0.size : Int)
                · rw [if_pos c12] at H
                  have c12b0 : decide (4 < (a0.size : Int)) = true := decide_eq_true c12
                  have c12b1 : decide (4 < a0.size) = true := decide_eq_true (by omega)
                  clear c12
                  replace H := Option.bind_eq_some_iff.mp H
                  obtain ⟨t154, A140, H⟩ := H
                  replace H : (timeinterval_zzValidTime.j0 k a0 (!t154)) = some r := H
                  have A14 := Aside0.mk A140
                  clear A140
                  have H' := Aside0.mk H
                  clear H
                  have p6 : 0 ≤ (2 : Int) := (by omega)
                  have q6 : 2 < a0.size := (by have : (2 : Int) < (a0.size : Int) := of_decide_eq_true (by first | (with_reducible assumption) | assumption); omega)
                  have hx6 : ∀ h : 2 < a0.size, ((a0[2]'h).toNat : Int) = bt a0 2 := bt_at a0 2
                  clear p6
                  have qi6 : (2 < (a0.size : Int)) = True := eq_true (of_decide_eq_true (by first | (with_reducible assumption) | assumption))
                  replace q6 := eq_true q6
                  have p9 : 0 ≤ (3 : Int) := (by omega)
                  have q9 : 3 < a0.size := (by have : (3 : Int) < (a0.size : Int) := of_decide_eq_true (by first | (with_reducible assumption) | assumption); omega)
                  have hx9 : ∀ h : 3 < a0.size, ((a0[3]'h).toNat : Int) = bt a0 3 := bt_at a0 3
                  clear p9
                  have qi9 : (3 < (a0.size : Int)) = True := eq_true (of_decide_eq_true (by first | (with_reducible assumption) | assumption))
                  replace q9 := eq_true q9
                  go_wp2_with (first | (go_at_call 156; (with_reducible refine (timeinterval_zzDigit.calls (bt a0 3) 48 53 true _ A10.out).mono ?_); rintro e w' ⟨rfl, ⟨nd, rfl⟩⟩; have p13 : 0 ≤ (4 : Int) := (by omega); have q13 : 4 < a0.size := (by have : (4 : Int) < (a0.size : Int) := of_decide_eq_true (by first | (with_reducible assumption) | assumption); omega); have hx13 : ∀ h : 4 < a0.size, ((a0[4]'h).toNat : Int) = bt a0 4 := bt_at a0 4; clear p13; have qi13 : (4 < (a0.size : Int)) = True := eq_true (of_decide_eq_true (by first | (with_reducible assumption) | assumption)); replace q13 := eq_true q13) | (go_at_call 156; (with_reducible refine (timeinterval_zzDigit.calls (bt a0 4) 48 57 t154 _ A14.out).mono ?_); rintro e w' ⟨rfl, ⟨nd, rfl⟩⟩))
                  go_meet
                  case rel => exact ⟨_, (!t154), (by first | rfl | (simp; done) | (simp [*]; done) | (simp [*, q_isEmpty]; done) | (simp [*]; exact q_gt _ _ (by assumption))), H', ⟨by first | omega | exact Nat.le_refl _⟩, by repeat (first | exact Drawn0.refl _ | apply Drawn0.step)⟩
                · rw [if_neg c12] at H
                  exact absurd H (by simp)
              · replace c11 := Bool.eq_false_iff.mpr c11
                subst c11
                have H1 : (timeinterval_zzValidTime.j0 k a0 true) = some r := by rw [if_neg (show ¬ (false = true) by decide)] at H; exact H
                clear H
                have H := H1
                clear H1
                have H' := Aside0.mk H
                clear H
                have p6 : 0 ≤ (2 : Int) := (by omega)
                have q6 : 2 < a0.size := (by have : (2 : Int) < (a0.size : Int) := of_decide_eq_true (by first | (with_reducible assumption) | assumption); omega)
                have hx6 : ∀ h : 2 < a0.size, ((a0[2]'h).toNat : Int) = bt a0 2 := bt_at a0 2
                clear p6
                have qi6 : (2 < (a0.size : Int)) = True := eq_true (of_decide_eq_true (by first | (with_reducible assumption) | assumption))
                replace q6 := eq_true q6
                have p9 : 0 ≤ (3 : Int) := (by omega)
                have q9 : 3 < a0.size := (by have : (3 : Int) < (a0.size : Int) := of_decide_eq_true (by first | (with_reducible assumption) | assumption); omega)
                have hx9 : ∀ h : 3 < a0.size, ((a0[3]'h).toNat : Int) = bt a0 3 := bt_at a0 3
                clear p9
                have qi9 : (3 < (a0.size : Int)) = True := eq_true (of_decide_eq_true (by first | (with_reducible assumption) | assumption))
                replace q9 := eq_true q9
                go_wp2_with (first | (go_at_call 156; (with_reducible refine (timeinterval_zzDigit.calls (bt a0 3) 48 53 false _ A10.out).mono ?_); rintro e w' ⟨rfl, ⟨nd, rfl⟩⟩))
                go_meet
                case rel => exact ⟨_, (true), (by first | rfl | (simp; done) | (simp [*]; done) | (simp [*, q_isEmpty]; done) | (simp [*]; exact q_gt _ _ (by assumption))), H', ⟨by first | omega | exact Nat.le_refl _⟩, by repeat (first | exact Drawn0.refl _ | apply Drawn0.step)⟩
            · rw [if_neg c8] at H
              exact absurd H (by simp)
          · rw [if_neg c7] at H
            have c7b0 : ((bt a0 2) == 58) = false := beq_eq_false_iff_ne.mpr c7
            have c7b1 : ((bt a0 2) != 58) = true := bne_iff_ne.mpr c7
            have H' := Aside0.mk H
            clear H
            have p6 : 0 ≤ (2 : Int) := (by omega)
            have q6 : 2 < a0.size := (by have : (2 : Int) < (a0.size : Int) := of_decide_eq_true (by first | (with_reducible assumption) | assumption); omega)
            have hx6 : ∀ h : 2 < a0.size, ((a0[2]'h).toNat : Int) = bt a0 2 := bt_at a0 2
            clear p6
            have qi6 : (2 < (a0.size : Int)) = True := eq_true (of_decide_eq_true (by first | (with_reducible assumption) | assumption))
            replace q6 := eq_true q6
            go_wp2
            go_meet
            case rel => exact ⟨_, (true), (by first | rfl | (simp; done) | (simp [*]; done) | (simp [*, q_isEmpty]; done) | (simp [*]; exact q_gt _ _ (by assumption))), H', ⟨by first | omega | exact Nat.le_refl _⟩, by repeat (first | exact Drawn0.refl _ | apply Drawn0.step)⟩
        · rw [if_neg c5] at H
          exact absurd H (by simp)
      · rw [if_neg c4] at H
        have c4b0 : ((a0.size : Int) == 5) = false := beq_eq_false_iff_ne.mpr c4
        have c4b1 : ((a0.size : Int) != 5) = true := bne_iff_ne.mpr c4
        (first | rw [c4b0] | (simp only [i64_w, i32_w]; rw [c4b0]) | skip)
        have H' := Aside0.mk H
        clear H
        go_wp2
        go_meet
        case rel => exact ⟨_, (true), (by first | rfl | (simp; done) | (simp [*]; done) | (simp [*, q_isEmpty]; done) | (simp [*]; exact q_gt _ _ (by assumption))), H', ⟨by first | omega | exact Nat.le_refl _⟩, by repeat (first | exact Drawn0.refl _ | apply Drawn0.step)⟩
    case rest =>
      clear HC3
      try clear c1
      try clear p1
      try clear q1
      try clear hx1
      try clear qi1
      try clear c2
      try clear c2b0
      try clear c2b1
      try clear p2
      try clear c4
      try clear c4b0
      try clear c4b1
      try clear c5
      try clear c5b0
      try clear c5b1
      try clear p6
      try clear q6
      try clear hx6
      try clear qi6
      try clear c7
      try clear c7b0
      try clear c7b1
      try clear c8
      try clear c8b0
      try clear c8b1
      try clear p9
      try clear q9
      try clear hx9
      try clear qi9
      try clear c11
      try clear c12
      try clear c12b0
      try clear c12b1
      try clear p13
      try clear q13
      try clear hx13
      try clear qi13
      try clear c14
      try clear p13
      try clear p6
      try clear p9
      try clear q13
      try clear q6
      try clear q9
      obtain ⟨kq, x24_2, rfl, HA, HJ2, ⟨mc2, rfl⟩⟩ := hcut
      cases kq with
      | zero => exact absurd HA.out (by simp [timeinterval_zzValidTime.j0])
      | succ kj2 =>
        have H := HA.out
        clear HA
        simp only [timeinterval_zzValidTime.j0] at H
        by_cases c15 : x24_2 = true
        · subst c15
          have H1 : (some false) = some r := by rw [if_pos rfl] at H; exact H
          clear H
          have H := H1
          clear H1
          obtain rfl := Option.some.inj H
          go_wp2
          go_ret
          exact ⟨by first | rfl | (simp; done) | (simp [*]; done) | (simp [*, q_isEmpty]; done) | (simp [*]; exact q_gt _ _ (by assumption)), by repeat (first | exact Drawn0.refl _ | apply Drawn0.step)⟩
        · replace c15 := Bool.eq_false_iff.mpr c15
          subst c15
          have H1 : (if 0 < (a0.size : Int) then ((timeinterval_zzDigit.f (bt a0 0) 48 49).bind fun t155 => (if t155 = true then (if 1 < (a0.size : Int) then ((timeinterval_zzDigit.f (bt a0 1) 48 57).bind fun t156 => (if t156 = true then (some true) else (if (bt a0 0) = 50 then ((timeinterval_zzDigit.f (bt a0 1) 48 51).bind fun t157 => (some t157)) else (some false)))) else (none)) else (if (bt a0 0) = 50 then (if 1 < (a0.size : Int) then ((timeinterval_zzDigit.f (bt a0 1) 48 51).bind fun t158 => (some t158)) else (none)) else (some false)))) else (none)) = some r := by rw [if_neg (show ¬ (false = true) by decide)] at H; exact H
          clear H
          have H := H1
          clear H1
          by_cases c16 : 0 < (a0.size : Int)
          · rw [if_pos c16] at H
            have c16b0 : decide (0 < (a0.size : Int)) = true := decide_eq_true c16
            have c16b1 : decide (0 < a0.size) = true := decide_eq_true (by omega)
            clear c16
            replace H := Option.bind_eq_some_iff.mp H
            obtain ⟨t155, A180, H⟩ := H
            replace H : (if t155 = true then (if 1 < (a0.size : Int) then ((timeinterval_zzDigit.f (bt a0 1) 48 57).bind fun t156 => (if t156 = true then (some true) else (if (bt a0 0) = 50 then ((timeinterval_zzDigit.f (bt a0 1) 48 51).bind fun t157 => (some t157)) else (some false)))) else (none)) else (if (bt a0 0) = 50 then (if 1 < (a0.size : Int) then ((timeinterval_zzDigit.f (bt a0 1) 48 51).bind fun t158 => (some t158)) else (none)) else (some false))) = some r := H
            have A18 := Aside0.mk A180
            clear A180
            by_cases c19 : t155 = true
            · subst c19
              have H1 : (if 1 < (a0.size : Int) then ((timeinterval_zzDigit.f (bt a0 1) 48 57).bind fun t156 => (if t156 = true then (some true) else (if (bt a0 0) = 50 then ((timeinterval_zzDigit.f (bt a0 1) 48 51).bind fun t157 => (some t157)) else (some false)))) else (none)) = some r := by rw [if_pos rfl] at H; exact H
              clear H
              have H := H1
              clear H1
              by_cases c20 : 1 < (a0.size : Int)
              · rw [if_pos c20] at H
                have c20b0 : decide (1 < (a0.size : Int)) = true := decide_eq_true c20
                have c20b1 : decide (1 < a0.size) = true := decide_eq_true (by omega)
                clear c20
                replace H := Option.bind_eq_some_iff.mp H
                obtain ⟨t156, A220, H⟩ := H
                replace H : (if t156 = true then (some true) else (if (bt a0 0) = 50 then ((timeinterval_zzDigit.f (bt a0 1) 48 51).bind fun t157 => (some t157)) else (some false))) = some r := H
                have A22 := Aside0.mk A220
                clear A220
                by_cases c23 : t156 = true
                · subst c23
                  have H1 : (some true) = some r := by rw [if_pos rfl] at H; exact H
                  clear H
                  have H := H1
                  clear H1
                  obtain rfl := Option.some.inj H
                  have p17 : 0 ≤ (0 : Int) := (by omega)
                  have q17 : 0 < a0.size := (by have : (0 : Int) < (a0.size : Int) := of_decide_eq_true (by first | (with_reducible assumption) | assumption); omega)
                  have hx17 : ∀ h : 0 < a0.size, ((a0[0]'h).toNat : Int) = bt a0 0 := bt_at a0 0
                  clear p17
                  have qi17 : (0 < (a0.size : Int)) = True := eq_true (of_decide_eq_true (by first | (with_reducible assumption) | assumption))
                  replace q17 := eq_true q17
                  go_wp2_with (first | ((with_reducible refine gate_callee (f := 156) rfl ?_); refine goesL_ (some 27) rfl rfl Tryd.func156 (by kernel_rfl) rfl #[.int .u8 (bt a0 0), .int .u8 48, .int .u8 49] rfl (by (try simp only [List.map_toArray, List.map_cons, List.map_nil]); first | done | rfl | (simp only [List.length_drop, List.length_take]; rfl)) ?_; (with_reducible refine (timeinterval_zzDigit.calls (bt a0 0) 48 49 true _ A18.out).mono ?_); rintro e w' ⟨rfl, ⟨nd, rfl⟩⟩; refine ⟨_, rfl, ?_⟩; have p21 : 0 ≤ (1 : Int) := (by omega); have q21 : 1 < a0.size := (by have : (1 : Int) < (a0.size : Int) := of_decide_eq_true (by first | (with_reducible assumption) | assumption); omega); have hx21 : ∀ h : 1 < a0.size, ((a0[1]'h).toNat : Int) = bt a0 1 := bt_at a0 1; clear p21; have qi21 : (1 < (a0.size : Int)) = True := eq_true (of_decide_eq_true (by first | (with_reducible assumption) | assumption)); replace q21 := eq_true q21) | (go_at_call 156; (with_reducible refine (timeinterval_zzDigit.calls (bt a0 1) 48 57 true _ A22.out).mono ?_); rintro e w' ⟨rfl, ⟨nd, rfl⟩⟩))
                  go_ret
                  exact ⟨by first | rfl | (simp; done) | (simp [*]; done) | (simp [*, q_isEmpty]; done) | (simp [*]; exact q_gt _ _ (by assumption)), by repeat (first | exact Drawn0.refl _ | apply Drawn0.step)⟩
                · replace c23 := Bool.eq_false_iff.mpr c23
                  subst c23
                  have H1 : (if (bt a0 0) = 50 then ((timeinterval_zzDigit.f (bt a0 1) 48 51).bind fun t157 => (some t157)) else (some false)) = some r := by rw [if_neg (show ¬ (false = true) by decide)] at H; exact H
                  clear H
                  have H := H1
                  clear H1
                  by_cases c25 : (bt a0 0) = 50
                  · rw [if_pos c25] at H
                    have c25b0 : ((bt a0 0) == 50) = true := beq_iff_eq.mpr c25
                    have c25b1 : ((bt a0 0) != 50) = false := bne_eq_false_iff_eq.mpr c25
                    clear c25
                    replace H := Option.bind_eq_some_iff.mp H
                    obtain ⟨t157, A270, H⟩ := H
                    replace H : (some t157) = some r := H
                    have A27 := Aside0.mk A270
                    clear A270
                    obtain rfl := Option.some.inj H
                    have p17 : 0 ≤ (0 : Int) := (by omega)
                    have q17 : 0 < a0.size := (by have : (0 : Int) < (a0.size : Int) := of_decide_eq_true (by first | (with_reducible assumption) | assumption); omega)
                    have hx17 : ∀ h : 0 < a0.size, ((a0[0]'h).toNat : Int) = bt a0 0 := bt_at a0 0
                    clear p17
                    have qi17 : (0 < (a0.size : Int)) = True := eq_true (of_decide_eq_true (by first | (with_reducible assumption) | assumption))
                    replace q17 := eq_true q17
                    go_wp2_with (first | ((with_reducible refine gate_callee (f := 156) rfl ?_); refine goesL_ (some 27) rfl rfl Tryd.func156 (by kernel_rfl) rfl #[.int .u8 (bt a0 0), .int .u8 48, .int .u8 49] rfl (by (try simp only [List.map_toArray, List.map_cons, List.map_nil]); first | done | rfl | (simp only [List.length_drop, List.length_take]; rfl)) ?_; (with_reducible refine (timeinterval_zzDigit.calls (bt a0 0) 48 49 true _ A18.out).mono ?_); rintro e w' ⟨rfl, ⟨nd, rfl⟩⟩; refine ⟨_, rfl, ?_⟩; have p21 : 0 ≤ (1 : Int) := (by omega); have q21 : 1 < a0.size := (by have : (1 : Int) < (a0.size : Int) := of_decide_eq_true (by first | (with_reducible assumption) | assumption); omega); have hx21 : ∀ h : 1 < a0.size, ((a0[1]'h).toNat : Int) = bt a0 1 := bt_at a0 1; clear p21; have qi21 : (1 < (a0.size : Int)) = True := eq_true (of_decide_eq_true (by first | (with_reducible assumption) | assumption)); replace q21 := eq_true q21) | (go_at_call 156; (with_reducible refine (timeinterval_zzDigit.calls (bt a0 1) 48 57 false _ A22.out).mono ?_); rintro e w' ⟨rfl, ⟨nd, rfl⟩⟩; have p24 : 0 ≤ (0 : Int) := (by omega); have q24 : 0 < a0.size := (by have : (0 : Int) < (a0.size : Int) := of_decide_eq_true (by first | (with_reducible assumption) | assumption); omega); have hx24 : ∀ h : 0 < a0.size, ((a0[0]'h).toNat : Int) = bt a0 0 := bt_at a0 0; clear p24; have qi24 : (0 < (a0.size : Int)) = True := eq_true (of_decide_eq_true (by first | (with_reducible assumption) | assumption)); replace q24 := eq_true q24; have p26 : 0 ≤ (1 : Int) := (by omega); have q26 : 1 < a0.size := (by have : (1 : Int) < (a0.size : Int) := of_decide_eq_true (by first | (with_reducible assumption) | assumption); omega); have hx26 : ∀ h : 1 < a0.size, ((a0[1]'h).toNat : Int) = bt a0 1 := bt_at a0 1; clear p26; have qi26 : (1 < (a0.size : Int)) = True := eq_true (of_decide_eq_true (by first | (with_reducible assumption) | assumption)); replace q26 := eq_true q26) | (go_at_call 156; (with_reducible refine (timeinterval_zzDigit.calls (bt a0 1) 48 51 t157 _ A27.out).mono ?_); rintro e w' ⟨rfl, ⟨nd, rfl⟩⟩))
                    go_ret
                    exact ⟨by first | rfl | (simp; done) | (simp [*]; done) | (simp [*, q_isEmpty]; done) | (simp [*]; exact q_gt _ _ (by assumption)), by repeat (first | exact Drawn0.refl _ | apply Drawn0.step)⟩
                  · rw [if_neg c25] at H
                    have c25b0 : ((bt a0 0) == 50) = false := beq_eq_false_iff_ne.mpr c25
                    have c25b1 : ((bt a0 0) != 50) = true := bne_iff_ne.mpr c25
                    obtain rfl := Option.some.inj H
                    have p17 : 0 ≤ (0 : Int) := (by omega)
                    have q17 : 0 < a0.size := (by have : (0 : Int) < (a0.size : Int) := of_decide_eq_true (by first | (with_reducible assumption) | assumption); omega)
                    have hx17 : ∀ h : 0 < a0.size, ((a0[0]'h).toNat : Int) = bt a0 0 := bt_at a0 0
                    clear p17
                    have qi17 : (0 < (a0.size : Int)) = True := eq_true (of_decide_eq_true (by first | (with_reducible assumption) | assumption))
                    replace q17 := eq_true q17
                    go_wp2_with (first | ((with_reducible refine gate_callee (f := 156) rfl ?_); refine goesL_ (some 27) rfl rfl Tryd.func156 (by kernel_rfl) rfl #[.int .u8 (bt a0 0), .int .u8 48, .int .u8 49] rfl (by (try simp only [List.map_toArray, List.map_cons, List.map_nil]); first | done | rfl | (simp only [List.length_drop, List.length_take]; rfl)) ?_; (with_reducible refine (timeinterval_zzDigit.calls (bt a0 0) 48 49 true _ A18.out).mono ?_); rintro e w' ⟨rfl, ⟨nd, rfl⟩⟩; refine ⟨_, rfl, ?_⟩; have p21 : 0 ≤ (1 : Int) := (by omega); have q21 : 1 < a0.size := (by have : (1 : Int) < (a0.size : Int) := of_decide_eq_true (by first | (with_reducible assumption) | assumption); omega); have hx21 : ∀ h : 1 < a0.size, ((a0[1]'h).toNat : Int) = bt a0 1 := bt_at a0 1; clear p21; have qi21 : (1 < (a0.size : Int)) = True := eq_true (of_decide_eq_true (by first | (with_reducible assumption) | assumption)); replace q21 := eq_true q21) | (go_at_call 156; (with_reducible refine (timeinterval_zzDigit.calls (bt a0 1) 48 57 false _ A22.out).mono ?_); rintro e w' ⟨rfl, ⟨nd, rfl⟩⟩; have p24 : 0 ≤ (0 : Int) := (by omega); have q24 : 0 < a0.size := (by have : (0 : Int) < (a0.size : Int) := of_decide_eq_true (by first | (with_reducible assumption) | assumption); omega); have hx24 : ∀ h : 0 < a0.size, ((a0[0]'h).toNat : Int) = bt a0 0 := bt_at a0 0; clear p24; have qi24 : (0 < (a0.size : Int)) = True := eq_true (of_decide_eq_true (by first | (with_reducible assumption) | assumption)); replace q24 := eq_true q24))
                    go_ret
                    exact ⟨by first | rfl | (simp; done) | (simp [*]; done) | (simp [*, q_isEmpty]; done) | (simp [*]; exact q_gt _ _ (by assumption)), by repeat (first | exact Drawn0.refl _ | apply Drawn0.step)⟩
              · rw [if_neg c20] at H
                exact absurd H (by simp)
            · replace c19 := Bool.eq_false_iff.mpr c19
              subst c19
              have H1 : (if (bt a0 0) = 50 then (if 1 < (a0.size : Int) then ((timeinterval_zzDigit.f (bt a0 1) 48 51).bind fun t158 => (some t158)) else (none)) else (some false)) = some r := by rw [if_neg (show ¬ (false = true) by decide)] at H; exact H
              clear H
              have H := H1
              clear H1
              by_cases c29 : (bt a0 0) = 50
              · rw [if_pos c29] at H
                have c29b0 : ((bt a0 0) == 50) = true := beq_iff_eq.mpr c29
                have c29b1 : ((bt a0 0) != 50) = false := bne_eq_false_iff_eq.mpr c29
                clear c29
                by_cases c30 : 1 < (a0.size : Int)
                · rw [if_pos c30] at H
                  have c30b0 : decide (1 < (a0.size : Int)) = true := decide_eq_true c30
                  have c30b1 : decide (1 < a0.size) = true := decide_eq_true (by omega)
                  clear c30
                  replace H := Option.bind_eq_some_iff.mp H
                  obtain ⟨t158, A320, H⟩ := H
                  replace H : (some t158) = some r := H
                  have A32 := Aside0.mk A320
                  clear A320
                  obtain rfl := Option.some.inj H
                  have p17 : 0 ≤ (0 : Int) := (by omega)
                  have q17 : 0 < a0.size := (by have : (0 : Int) < (a0.size : Int) := of_decide_eq_true (by first | (with_reducible assumption) | assumption); omega)
                  have hx17 : ∀ h : 0 < a0.size, ((a0[0]'h).toNat : Int) = bt a0 0 := bt_at a0 0
                  clear p17
                  have qi17 : (0 < (a0.size : Int)) = True := eq_true (of_decide_eq_true (by first | (with_reducible assumption) | assumption))
                  replace q17 := eq_true q17
                  go_wp2_with (first | ((with_reducible refine gate_callee (f := 156) rfl ?_); refine goesL_ (some 27) rfl rfl Tryd.func156 (by kernel_rfl) rfl #[.int .u8 (bt a0 0), .int .u8 48, .int .u8 49] rfl (by (try simp only [List.map_toArray, List.map_cons, List.map_nil]); first | done | rfl | (simp only [List.length_drop, List.length_take]; rfl)) ?_; (with_reducible refine (timeinterval_zzDigit.calls (bt a0 0) 48 49 false _ A18.out).mono ?_); rintro e w' ⟨rfl, ⟨nd, rfl⟩⟩; refine ⟨_, rfl, ?_⟩; have p28 : 0 ≤ (0 : Int) := (by omega); have q28 : 0 < a0.size := (by have : (0 : Int) < (a0.size : Int) := of_decide_eq_true (by first | (with_reducible assumption) | assumption); omega); have hx28 : ∀ h : 0 < a0.size, ((a0[0]'h).toNat : Int) = bt a0 0 := bt_at a0 0; clear p28; have qi28 : (0 < (a0.size : Int)) = True := eq_true (of_decide_eq_true (by first | (with_reducible assumption) | assumption)); replace q28 := eq_true q28; have p31 : 0 ≤ (1 : Int) := (by omega); have q31 : 1 < a0.size := (by have : (1 : Int) < (a0.size : Int) := of_decide_eq_true (by first | (with_reducible assumption) | assumption); omega); have hx31 : ∀ h : 1 < a0.size, ((a0[1]'h).toNat : Int) = bt a0 1 := bt_at a0 1; clear p31; have qi31 : (1 < (a0.size : Int)) = True := eq_true (of_decide_eq_true (by first | (with_reducible assumption) | assumption)); replace q31 := eq_true q31) | (go_at_call 156; (with_reducible refine (timeinterval_zzDigit.calls (bt a0 1) 48 51 t158 _ A32.out).mono ?_); rintro e w' ⟨rfl, ⟨nd, rfl⟩⟩))
                  go_ret
                  exact ⟨by first | rfl | (simp; done) | (simp [*]; done) | (simp [*, q_isEmpty]; done) | (simp [*]; exact q_gt _ _ (by assumption)), by repeat (first | exact Drawn0.refl _ | apply Drawn0.step)⟩
                · rw [if_neg c30] at H
                  exact absurd H (by simp)
              · rw [if_neg c29] at H
                have c29b0 : ((bt a0 0) == 50) = false := beq_eq_false_iff_ne.mpr c29
                have c29b1 : ((bt a0 0) != 50) = true := bne_iff_ne.mpr c29
                obtain rfl := Option.some.inj H
                have p17 : 0 ≤ (0 : Int) := (by omega)
                have q17 : 0 < a0.size := (by have : (0 : Int) < (a0.size : Int) := of_decide_eq_true (by first | (with_reducible assumption) | assumption); omega)
                have hx17 : ∀ h : 0 < a0.size, ((a0[0]'h).toNat : Int) = bt a0 0 := bt_at a0 0
                clear p17
                have qi17 : (0 < (a0.size : Int)) = True := eq_true (of_decide_eq_true (by first | (with_reducible assumption) | assumption))
                replace q17 := eq_true q17
                go_wp2_with (first | ((with_reducible refine gate_callee (f := 156) rfl ?_); refine goesL_ (some 27) rfl rfl Tryd.func156 (by kernel_rfl) rfl #[.int .u8 (bt a0 0), .int .u8 48, .int .u8 49] rfl (by (try simp only [List.map_toArray, List.map_cons, List.map_nil]); first | done | rfl | (simp only [List.length_drop, List.length_take]; rfl)) ?_; (with_reducible refine (timeinterval_zzDigit.calls (bt a0 0) 48 49 false _ A18.out).mono ?_); rintro e w' ⟨rfl, ⟨nd, rfl⟩⟩; refine ⟨_, rfl, ?_⟩; have p28 : 0 ≤ (0 : Int) := (by omega); have q28 : 0 < a0.size := (by have : (0 : Int) < (a0.size : Int) := of_decide_eq_true (by first | (with_reducible assumption) | assumption); omega); have hx28 : ∀ h : 0 < a0.size, ((a0[0]'h).toNat : Int) = bt a0 0 := bt_at a0 0; clear p28; have qi28 : (0 < (a0.size : Int)) = True := eq_true (of_decide_eq_true (by first | (with_reducible assumption) | assumption)); replace q28 := eq_true q28))
                go_ret
                exact ⟨by first | rfl | (simp; done) | (simp [*]; done) | (simp [*, q_isEmpty]; done) | (simp [*]; exact q_gt _ _ (by assumption)), by repeat (first | exact Drawn0.refl _ | apply Drawn0.step)⟩
          · rw [if_neg c16] at H
            exact absurd H (by simp)

end Go.Proofs.YtmmcibeeojfplaaDoor.Q
