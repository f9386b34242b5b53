-- Printed for this seat by wip/pp.py of this repo; nothing here is trusted: Lean checks it.
import Derived.Test.YtmmcibeeojfplaaDoorQ0
import Derived.Test.YtmmcibeeojfplaaDoorQspecReadDuration
namespace Go.Proofs.YtmmcibeeojfplaaDoor.Q
open Go.RowKit Go.Proofs.YtmmcibeeojfplaaDoorW.PrintWords Go.Proofs.YtmmcibeeojfplaaDoorW.PrintLast Go.Proofs.YtmmcibeeojfplaaDoorW.PrintMore
attribute [local go_sem] max2_int min2_int max_two min_two max_three min_three max_four min_four   -- for this text's walks alone
set_option linter.unusedVariables false
set_option linter.unusedSimpArgs false

/-! ### spec_ReadSigned: function 17 -/
def spec_ReadSigned.j0 : Nat → ByteArray → Bool → Option (Int × Int)
  | 0, _, _ => none
  | k + 1, x0, x13 => if x13 = true then ((spec_ReadDuration.f k x0).bind fun bt142 => (some (bt142.1, bt142.2))) else (if 1 ≤ (x0.size : Int) then ((spec_ReadDuration.f k (x0.extract 1 x0.size)).bind fun bt144 => (if bt144.2 = 1 then (if x0.toList = ([45, 48] : List UInt8) then (some (0, 2)) else (some (wrap64 (-bt144.1), bt144.2))) else (some (wrap64 (-bt144.1), bt144.2)))) else (none))
def spec_ReadSigned.f (k : Nat) (a0 : ByteArray) : Option (Int × Int) := if (a0.size : Int) = 0 then (spec_ReadSigned.j0 k a0 true) else (if 0 < (a0.size : Int) then (spec_ReadSigned.j0 k a0 ((bt a0 0) != 45)) else (none))
theorem spec_ReadSigned.mono_l : ∀ k, (∀ y0 y1, LeO (spec_ReadSigned.j0 k y0 y1) (spec_ReadSigned.j0 (k + 1) y0 y1))
  | 0 => fun _ _ r h => by simp [spec_ReadSigned.j0] at h
  | k + 1 => by
    have ih0 := spec_ReadSigned.mono_l k
    · intro y0 y1
      unfold spec_ReadSigned.j0
      repeat' first
      | (with_reducible exact ih0 _ _)
      | (with_reducible exact spec_ReadDuration.mono _ _)
      | (with_reducible exact LeO.refl _)
      | (with_reducible exact LeO.none _)
      | (with_reducible refine LeO.ite ?_ ?_)
      | (with_reducible refine LeO.bind ?_ (fun _ => ?_))
      | exact ih0 _ _
      | exact spec_ReadDuration.mono _ _
      | exact LeO.none _
      | refine LeO.ite ?_ ?_
      | refine LeO.bind ?_ (fun _ => ?_)
theorem spec_ReadSigned.mono : ∀ a0 k, LeO (spec_ReadSigned.f k a0) (spec_ReadSigned.f (k + 1) a0) := by
  intro a0 k
  have ih0 := spec_ReadSigned.mono_l k
  unfold spec_ReadSigned.f
  repeat' first
      | (with_reducible exact ih0 _ _)
      | (with_reducible exact spec_ReadDuration.mono _ _)
      | (with_reducible exact LeO.refl _)
      | (with_reducible exact LeO.none _)
      | (with_reducible refine LeO.ite ?_ ?_)
      | (with_reducible refine LeO.bind ?_ (fun _ => ?_))
      | exact ih0 _ _
      | exact spec_ReadDuration.mono _ _
      | exact LeO.none _
      | refine LeO.ite ?_ ?_
      | refine LeO.bind ?_ (fun _ => ?_)
set_option maxHeartbeats 8000000 in
set_option maxRecDepth 100000 in
theorem spec_ReadSigned.calls (k : Nat) (a0 : ByteArray) (r1 : Int) (r2 : Int) (w : World) (h : spec_ReadSigned.f k a0 = some (r1, r2)) :
    Calls Tryd.prog 17 #[.string a0] w fun e w' => e = .returned (.tuple #[.int .i64 r1, .int .i64 r2]) ∧ Drawn0 w w' := by
  have H : (if (a0.size : Int) = 0 then (spec_ReadSigned.j0 k a0 true) else (if 0 < (a0.size : Int) then (spec_ReadSigned.j0 k a0 ((bt a0 0) != 45)) else (none))) = some (r1, r2) := h
  clear h
  have HC2 := Aside0.mk H
  clear H
  go_enter Tryd.func17, Tryd.ntmps17
  go_upto_region 1 with (fail)
  go_cut [13] (fun v13 wc => ∃ (kq : Nat) (x13_1 : Bool), v13 = .bool x13_1 ∧ Aside0 (spec_ReadSigned.j0 kq a0 x13_1 = some (r1, r2)) ∧ Aside0 (kq ≤ k) ∧ Drawn0 w wc)
  case first =>
    have H := HC2.out
    clear HC2
    by_cases c3 : (a0.size : Int) = 0
    · rw [if_pos c3] at H
      have c3b0 : ((a0.size : Int) == 0) = true := beq_iff_eq.mpr c3
      have c3b1 : ((a0.size : Int) != 0) = false := bne_eq_false_iff_eq.mpr c3
      clear c3
      (first | rw [c3b0] | (simp only [i64_w, i32_w]; rw [c3b0]) | skip)
      have H' := Aside0.mk H
      clear H
      go_wp2
      go_meet
      case rel => exact ⟨_, (true), (by first | rfl | (simp; done) | (simp [*]; done) | (simp [*, q_isEmpty]; done) | (simp [*]; exact q_gt _ _ (by assumption))), H', ⟨by first | omega | exact Nat.le_refl _⟩, by repeat (first | exact Drawn0.refl _ | apply Drawn0.step)⟩
    · rw [if_neg c3] at H
      have c3b0 : ((a0.size : Int) == 0) = false := beq_eq_false_iff_ne.mpr c3
      have c3b1 : ((a0.size : Int) != 0) = true := bne_iff_ne.mpr c3
      (first | rw [c3b0] | (simp only [i64_w, i32_w]; rw [c3b0]) | skip)
      by_cases c4 : 0 < (a0.size : Int)
      · rw [if_pos c4] at H
        have c4b0 : decide (0 < (a0.size : Int)) = true := decide_eq_true c4
        have c4b1 : decide (0 < a0.size) = true := decide_eq_true (by omega)
        clear c4
        have H' := Aside0.mk H
        clear H
        have p5 : 0 ≤ (0 : Int) := (by omega)
        have q5 : 0 < a0.size := (by have : (0 : Int) < (a0.size : Int) := of_decide_eq_true (by first | (with_reducible assumption) | assumption); omega)
        have hx5 : ∀ h : 0 < a0.size, ((a0[0]'h).toNat : Int) = bt a0 0 := bt_at a0 0
        clear p5
        have qi5 : (0 < (a0.size : Int)) = True := eq_true (of_decide_eq_true (by first | (with_reducible assumption) | assumption))
        replace q5 := eq_true q5
        go_wp2
        go_meet
        case rel => exact ⟨_, (((bt a0 0) != 45)), (by first | rfl | (simp; done) | (simp [*]; done) | (simp [*, q_isEmpty]; done) | (simp [*]; exact q_gt _ _ (by assumption))), H', ⟨by first | omega | exact Nat.le_refl _⟩, by repeat (first | exact Drawn0.refl _ | apply Drawn0.step)⟩
      · rw [if_neg c4] at H
        exact absurd H (by simp)
  case rest =>
    clear HC2
    try clear c1
    try clear p2
    try clear c3
    try clear c3b0
    try clear c3b1
    try clear c4
    try clear c4b0
    try clear c4b1
    try clear p5
    try clear q5
    try clear hx5
    try clear qi5
    try clear p5
    try clear q5
    obtain ⟨kq, x13_1, rfl, HA, HJ1, ⟨mc1, rfl⟩⟩ := hcut
    cases kq with
    | zero => exact absurd HA.out (by simp [spec_ReadSigned.j0])
    | succ kj1 =>
      have H := HA.out
      clear HA
      simp only [spec_ReadSigned.j0] at H
      by_cases c6 : x13_1 = true
      · subst c6
        have H1 : ((spec_ReadDuration.f kj1 a0).bind fun bt142 => (some (bt142.1, bt142.2))) = some (r1, r2) := by rw [if_pos rfl] at H; exact H
        clear H
        have H := H1
        clear H1
        replace H := Option.bind_eq_some_iff.mp H
        obtain ⟨⟨t142, t143⟩, A70, H⟩ := H
        replace H : (some (t142, t143)) = some (r1, r2) := H
        have A7 := Aside0.mk A70
        clear A70
        simp only [Option.some.injEq, Prod.mk.injEq] at H
        obtain ⟨rfl, rfl⟩ := H
        go_wp2_with (first | ((with_reducible refine gate_callee (f := 15) rfl ?_); refine goesL_ (some 15) rfl rfl Tryd.func15 (by kernel_rfl) rfl #[.string a0] rfl (by (try simp only [List.map_toArray, List.map_cons, List.map_nil]); first | done | rfl | (simp only [List.length_drop, List.length_take]; rfl)) ?_; (with_reducible refine (spec_ReadDuration.calls kj1 a0 t142 t143 _ A7.out).mono ?_); rintro e w' ⟨rfl, ⟨nd, rfl⟩⟩; refine ⟨_, rfl, ?_⟩))
        go_ret2
        exact ⟨by first | rfl | (simp; done) | (simp [*]; done) | (simp [*, q_isEmpty]; done) | (simp [*]; exact q_gt _ _ (by assumption)), by repeat (first | exact Drawn0.refl _ | apply Drawn0.step)⟩
      · replace c6 := Bool.eq_false_iff.mpr c6
        subst c6
        have H1 : (if 1 ≤ (a0.size : Int) then ((spec_ReadDuration.f kj1 (a0.extract 1 a0.size)).bind fun bt144 => (if bt144.2 = 1 then (if a0.toList = ([45, 48] : List UInt8) then (some (0, 2)) else (some (wrap64 (-bt144.1), bt144.2))) else (some (wrap64 (-bt144.1), bt144.2)))) else (none)) = some (r1, r2) := by rw [if_neg (show ¬ (false = true) by decide)] at H; exact H
        clear H
        have H := H1
        clear H1
        by_cases c8 : 1 ≤ (a0.size : Int)
        · rw [if_pos c8] at H
          have c8b0 := eq_true c8
          have c8b1 : decide (1 ≤ (a0.size : Int)) = true := decide_eq_true c8
          clear c8
          replace H := Option.bind_eq_some_iff.mp H
          obtain ⟨⟨t144, t145⟩, A90, H⟩ := H
          replace H : (if t145 = 1 then (if a0.toList = ([45, 48] : List UInt8) then (some (0, 2)) else (some (wrap64 (-t144), t145))) else (some (wrap64 (-t144), t145))) = some (r1, r2) := H
          have A9 := Aside0.mk A90
          clear A90
          by_cases c10 : t145 = 1
          · rw [if_pos c10] at H
            have c10b0 : (t145 == 1) = true := beq_iff_eq.mpr c10
            have c10b1 : (t145 != 1) = false := bne_eq_false_iff_eq.mpr c10
            clear c10
            by_cases c11 : a0.toList = ([45, 48] : List UInt8)
            · rw [if_pos c11] at H
              have c11b0 : (a0.toList == ([45, 48] : List UInt8)) = true := beq_iff_eq.mpr c11
              have c11b1 : (a0.toList != ([45, 48] : List UInt8)) = false := bne_eq_false_iff_eq.mpr c11
              clear c11
              simp only [Option.some.injEq, Prod.mk.injEq] at H
              obtain ⟨rfl, rfl⟩ := H
              go_wp2_with (first | ((with_reducible refine gate_callee (f := 15) rfl ?_); refine goesL_ (some 21) rfl rfl Tryd.func15 (by kernel_rfl) rfl #[.string (a0.extract 1 a0.size)] rfl (by (try simp only [List.map_toArray, List.map_cons, List.map_nil]); first | done | rfl | (simp only [List.length_drop, List.length_take]; rfl)) ?_; (with_reducible refine (spec_ReadDuration.calls kj1 (a0.extract 1 a0.size) t144 t145 _ A9.out).mono ?_); rintro e w' ⟨rfl, ⟨nd, rfl⟩⟩; refine ⟨_, rfl, ?_⟩))
              go_ret2
              exact ⟨by first | rfl | (simp; done) | (simp [*]; done) | (simp [*, q_isEmpty]; done) | (simp [*]; exact q_gt _ _ (by assumption)), by repeat (first | exact Drawn0.refl _ | apply Drawn0.step)⟩
            · rw [if_neg c11] at H
              have c11b0 : (a0.toList == ([45, 48] : List UInt8)) = false := beq_eq_false_iff_ne.mpr c11
              have c11b1 : (a0.toList != ([45, 48] : List UInt8)) = true := bne_iff_ne.mpr c11
              simp only [Option.some.injEq, Prod.mk.injEq] at H
              obtain ⟨rfl, rfl⟩ := H
              go_wp2_with (first | ((with_reducible refine gate_callee (f := 15) rfl ?_); refine goesL_ (some 21) rfl rfl Tryd.func15 (by kernel_rfl) rfl #[.string (a0.extract 1 a0.size)] rfl (by (try simp only [List.map_toArray, List.map_cons, List.map_nil]); first | done | rfl | (simp only [List.length_drop, List.length_take]; rfl)) ?_; (with_reducible refine (spec_ReadDuration.calls kj1 (a0.extract 1 a0.size) t144 t145 _ A9.out).mono ?_); rintro e w' ⟨rfl, ⟨nd, rfl⟩⟩; refine ⟨_, rfl, ?_⟩))
              go_ret2
              exact ⟨by first | rfl | (simp; done) | (simp [*]; done) | (simp [*, q_isEmpty]; done) | (simp [*]; exact q_gt _ _ (by assumption)), by repeat (first | exact Drawn0.refl _ | apply Drawn0.step)⟩
          · rw [if_neg c10] at H
            have c10b0 : (t145 == 1) = false := beq_eq_false_iff_ne.mpr c10
            have c10b1 : (t145 != 1) = true := bne_iff_ne.mpr c10
            simp only [Option.some.injEq, Prod.mk.injEq] at H
            obtain ⟨rfl, rfl⟩ := H
            go_wp2_with (first | ((with_reducible refine gate_callee (f := 15) rfl ?_); refine goesL_ (some 21) rfl rfl Tryd.func15 (by kernel_rfl) rfl #[.string (a0.extract 1 a0.size)] rfl (by (try simp only [List.map_toArray, List.map_cons, List.map_nil]); first | done | rfl | (simp only [List.length_drop, List.length_take]; rfl)) ?_; (with_reducible refine (spec_ReadDuration.calls kj1 (a0.extract 1 a0.size) t144 t145 _ A9.out).mono ?_); rintro e w' ⟨rfl, ⟨nd, rfl⟩⟩; refine ⟨_, rfl, ?_⟩))
            go_ret2
            exact ⟨by first | rfl | (simp; done) | (simp [*]; done) | (simp [*, q_isEmpty]; done) | (simp [*]; exact q_gt _ _ (by assumption)), by repeat (first | exact Drawn0.refl _ | apply Drawn0.step)⟩
        · rw [if_neg c8] at H
          exact absurd H (by simp)

end Go.Proofs.YtmmcibeeojfplaaDoor.Q
