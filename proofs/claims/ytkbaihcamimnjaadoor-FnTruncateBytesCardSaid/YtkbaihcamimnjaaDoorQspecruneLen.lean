-- Printed for this seat by wip/pp.py of this repo; nothing here is trusted: Lean checks it.
import Derived.Test.YtkbaihcamimnjaaDoorQ0
namespace Go.Proofs.YtkbaihcamimnjaaDoor.Q
open Go.RowKit Go.Proofs.YtkbaihcamimnjaaDoorW.PrintWords Go.Proofs.YtkbaihcamimnjaaDoorW.PrintLast Go.Proofs.YtkbaihcamimnjaaDoorW.PrintMore
attribute [local go_sem] max2_int min2_int max_two min_two max_three min_three max_four min_four   -- for this text's walks alone
set_option linter.unusedVariables false
set_option linter.unusedSimpArgs false

/-! ### spec_runeLen: function 33 -/
mutual
def spec_runeLen.j3 : Nat → ByteArray → Int → Int → Int → Option (Int)
  | 0, _, _, _, _ => none
  | k + 1, x0, x4, x5, x6 => if x4 > (x0.size : Int) then (some 1) else (spec_runeLen.l0 k x0 x4 x5 x6 1)
def spec_runeLen.l0 : Nat → ByteArray → Int → Int → Int → Int → Option (Int)
  | 0, _, _, _, _, _ => none
  | k + 1, x0, x4, x5, x6, x7 => if x7 < x4 then (if 0 ≤ x7 then (if x7 < (x0.size : Int) then (if (bt x0 x7) < x5 then (some 1) else (if (bt x0 x7) > x6 then (some 1) else (spec_runeLen.l0 k x0 x4 128 191 (wrap64 (x7 + 1))))) else (none)) else (none)) else (some x4)
def spec_runeLen.j0 : Nat → ByteArray → Int → Int → Int → Int → Bool → Option (Int)
  | 0, _, _, _, _, _, _ => none
  | k + 1, x0, x3, x4, x5, x6, x10 => if x10 = true then (spec_runeLen.j3 k x0 2 x5 x6) else (if x3 ≥ 224 then (spec_runeLen.j1 k x0 x3 x4 x5 x6 (decide (x3 ≤ 239))) else (spec_runeLen.j1 k x0 x3 x4 x5 x6 false))
def spec_runeLen.j1 : Nat → ByteArray → Int → Int → Int → Int → Bool → Option (Int)
  | 0, _, _, _, _, _, _ => none
  | k + 1, x0, x3, x4, x5, x6, x17 => if x17 = true then (if x3 = 224 then (if x3 = 237 then (spec_runeLen.j3 k x0 3 160 159) else (spec_runeLen.j3 k x0 3 160 x6)) else (if x3 = 237 then (spec_runeLen.j3 k x0 3 x5 159) else (spec_runeLen.j3 k x0 3 x5 x6))) else (if x3 ≥ 240 then (spec_runeLen.j2 k x0 x3 x4 x5 x6 (decide (x3 ≤ 244))) else (spec_runeLen.j2 k x0 x3 x4 x5 x6 false))
def spec_runeLen.j2 : Nat → ByteArray → Int → Int → Int → Int → Bool → Option (Int)
  | 0, _, _, _, _, _, _ => none
  | k + 1, x0, x3, x4, x5, x6, x28 => if x28 = true then (if x3 = 240 then (if x3 = 244 then (spec_runeLen.j3 k x0 4 144 143) else (spec_runeLen.j3 k x0 4 144 x6)) else (if x3 = 244 then (spec_runeLen.j3 k x0 4 x5 143) else (spec_runeLen.j3 k x0 4 x5 x6))) else (spec_runeLen.j3 k x0 x4 x5 x6)
end
def spec_runeLen.f (k : Nat) (a0 : ByteArray) : Option (Int) := if 0 < (a0.size : Int) then (if (bt a0 0) ≥ 194 then (spec_runeLen.j0 k a0 (bt a0 0) 1 128 191 (decide ((bt a0 0) ≤ 223))) else (spec_runeLen.j0 k a0 (bt a0 0) 1 128 191 false)) else (none)
theorem spec_runeLen.mono_l : ∀ k, (∀ y0 y1 y2 y3, LeO (spec_runeLen.j3 k y0 y1 y2 y3) (spec_runeLen.j3 (k + 1) y0 y1 y2 y3)) ∧ (∀ y0 y1 y2 y3 y4, LeO (spec_runeLen.l0 k y0 y1 y2 y3 y4) (spec_runeLen.l0 (k + 1) y0 y1 y2 y3 y4)) ∧ (∀ y0 y1 y2 y3 y4 y5, LeO (spec_runeLen.j0 k y0 y1 y2 y3 y4 y5) (spec_runeLen.j0 (k + 1) y0 y1 y2 y3 y4 y5)) ∧ (∀ y0 y1 y2 y3 y4 y5, LeO (spec_runeLen.j1 k y0 y1 y2 y3 y4 y5) (spec_runeLen.j1 (k + 1) y0 y1 y2 y3 y4 y5)) ∧ (∀ y0 y1 y2 y3 y4 y5, LeO (spec_runeLen.j2 k y0 y1 y2 y3 y4 y5) (spec_runeLen.j2 (k + 1) y0 y1 y2 y3 y4 y5))
  | 0 => ⟨fun _ _ _ _ r h => by simp [spec_runeLen.j3] at h, fun _ _ _ _ _ r h => by simp [spec_runeLen.l0] at h, fun _ _ _ _ _ _ r h => by simp [spec_runeLen.j0] at h, fun _ _ _ _ _ _ r h => by simp [spec_runeLen.j1] at h, fun _ _ _ _ _ _ r h => by simp [spec_runeLen.j2] at h⟩
  | k + 1 => by
    obtain ⟨ih0, ih1, ih2, ih3, ih4⟩ := spec_runeLen.mono_l k
    refine ⟨?_, ?_, ?_, ?_, ?_⟩
    · intro y0 y1 y2 y3
      unfold spec_runeLen.j3
      repeat' first
      | (with_reducible exact ih0 _ _ _ _)
      | (with_reducible exact ih1 _ _ _ _ _)
      | (with_reducible exact ih2 _ _ _ _ _ _)
      | (with_reducible exact ih3 _ _ _ _ _ _)
      | (with_reducible exact ih4 _ _ _ _ _ _)
      | (with_reducible exact LeO.refl _)
      | (with_reducible exact LeO.none _)
      | (with_reducible refine LeO.ite ?_ ?_)
      | (with_reducible refine LeO.bind ?_ (fun _ => ?_))
      | exact ih0 _ _ _ _
      | exact ih1 _ _ _ _ _
      | exact ih2 _ _ _ _ _ _
      | exact ih3 _ _ _ _ _ _
      | exact ih4 _ _ _ _ _ _
      | exact LeO.none _
      | refine LeO.ite ?_ ?_
      | refine LeO.bind ?_ (fun _ => ?_)
    · intro y0 y1 y2 y3 y4
      unfold spec_runeLen.l0
      repeat' first
      | (with_reducible exact ih0 _ _ _ _)
      | (with_reducible exact ih1 _ _ _ _ _)
      | (with_reducible exact ih2 _ _ _ _ _ _)
      | (with_reducible exact ih3 _ _ _ _ _ _)
      | (with_reducible exact ih4 _ _ _ _ _ _)
      | (with_reducible exact LeO.refl _)
      | (with_reducible exact LeO.none _)
      | (with_reducible refine LeO.ite ?_ ?_)
      | (with_reducible refine LeO.bind ?_ (fun _ => ?_))
      | exact ih0 _ _ _ _
      | exact ih1 _ _ _ _ _
      | exact ih2 _ _ _ _ _ _
      | exact ih3 _ _ _ _ _ _
      | exact ih4 _ _ _ _ _ _
      | exact LeO.none _
      | refine LeO.ite ?_ ?_
      | refine LeO.bind ?_ (fun _ => ?_)
    · intro y0 y1 y2 y3 y4 y5
      unfold spec_runeLen.j0
      repeat' first
      | (with_reducible exact ih0 _ _ _ _)
      | (with_reducible exact ih1 _ _ _ _ _)
      | (with_reducible exact ih2 _ _ _ _ _ _)
      | (with_reducible exact ih3 _ _ _ _ _ _)
      | (with_reducible exact ih4 _ _ _ _ _ _)
      | (with_reducible exact LeO.refl _)
      | (with_reducible exact LeO.none _)
      | (with_reducible refine LeO.ite ?_ ?_)
      | (with_reducible refine LeO.bind ?_ (fun _ => ?_))
      | exact ih0 _ _ _ _
      | exact ih1 _ _ _ _ _
      | exact ih2 _ _ _ _ _ _
      | exact ih3 _ _ _ _ _ _
      | exact ih4 _ _ _ _ _ _
      | exact LeO.none _
      | refine LeO.ite ?_ ?_
      | refine LeO.bind ?_ (fun _ => ?_)
    · intro y0 y1 y2 y3 y4 y5
      unfold spec_runeLen.j1
      repeat' first
      | (with_reducible exact ih0 _ _ _ _)
      | (with_reducible exact ih1 _ _ _ _ _)
      | (with_reducible exact ih2 _ _ _ _ _ _)
      | (with_reducible exact ih3 _ _ _ _ _ _)
      | (with_reducible exact ih4 _ _ _ _ _ _)
      | (with_reducible exact LeO.refl _)
      | (with_reducible exact LeO.none _)
      | (with_reducible refine LeO.ite ?_ ?_)
      | (with_reducible refine LeO.bind ?_ (fun _ => ?_))
      | exact ih0 _ _ _ _
      | exact ih1 _ _ _ _ _
      | exact ih2 _ _ _ _ _ _
      | exact ih3 _ _ _ _ _ _
      | exact ih4 _ _ _ _ _ _
      | exact LeO.none _
      | refine LeO.ite ?_ ?_
      | refine LeO.bind ?_ (fun _ => ?_)
    · intro y0 y1 y2 y3 y4 y5
      unfold spec_runeLen.j2
      repeat' first
      | (with_reducible exact ih0 _ _ _ _)
      | (with_reducible exact ih1 _ _ _ _ _)
      | (with_reducible exact ih2 _ _ _ _ _ _)
      | (with_reducible exact ih3 _ _ _ _ _ _)
      | (with_reducible exact ih4 _ _ _ _ _ _)
      | (with_reducible exact LeO.refl _)
      | (with_reducible exact LeO.none _)
      | (with_reducible refine LeO.ite ?_ ?_)
      | (with_reducible refine LeO.bind ?_ (fun _ => ?_))
      | exact ih0 _ _ _ _
      | exact ih1 _ _ _ _ _
      | exact ih2 _ _ _ _ _ _
      | exact ih3 _ _ _ _ _ _
      | exact ih4 _ _ _ _ _ _
      | exact LeO.none _
      | refine LeO.ite ?_ ?_
      | refine LeO.bind ?_ (fun _ => ?_)
theorem spec_runeLen.mono : ∀ a0 k, LeO (spec_runeLen.f k a0) (spec_runeLen.f (k + 1) a0) := by
  intro a0 k
  obtain ⟨ih0, ih1, ih2, ih3, ih4⟩ := spec_runeLen.mono_l k
  unfold spec_runeLen.f
  repeat' first
      | (with_reducible exact ih0 _ _ _ _)
      | (with_reducible exact ih1 _ _ _ _ _)
      | (with_reducible exact ih2 _ _ _ _ _ _)
      | (with_reducible exact ih3 _ _ _ _ _ _)
      | (with_reducible exact ih4 _ _ _ _ _ _)
      | (with_reducible exact LeO.refl _)
      | (with_reducible exact LeO.none _)
      | (with_reducible refine LeO.ite ?_ ?_)
      | (with_reducible refine LeO.bind ?_ (fun _ => ?_))
      | exact ih0 _ _ _ _
      | exact ih1 _ _ _ _ _
      | exact ih2 _ _ _ _ _ _
      | exact ih3 _ _ _ _ _ _
      | exact ih4 _ _ _ _ _ _
      | exact LeO.none _
      | refine LeO.ite ?_ ?_
      | refine LeO.bind ?_ (fun _ => ?_)
set_option maxHeartbeats 8000000 in
set_option maxRecDepth 100000 in
theorem spec_runeLen.calls (k : Nat) (a0 : ByteArray) (r : Int) (w : World) (h : spec_runeLen.f k a0 = some r) :
    Calls Tryd.prog 33 #[.string a0] w fun e w' => e = .returned (.int .i64 r) ∧ Drawn0 w w' := by
  have H : (if 0 < (a0.size : Int) then (if (bt a0 0) ≥ 194 then (spec_runeLen.j0 k a0 (bt a0 0) 1 128 191 (decide ((bt a0 0) ≤ 223))) else (spec_runeLen.j0 k a0 (bt a0 0) 1 128 191 false)) else (none)) = some r := h
  clear h
  by_cases c2 : 0 < (a0.size : Int)
  · rw [if_pos c2] at H
    have c2b0 : decide (0 < (a0.size : Int)) = true := decide_eq_true c2
    have c2b1 : decide (0 < a0.size) = true := decide_eq_true (by omega)
    clear c2
    have HC4 := Aside0.mk H
    clear H
    have p3 : 0 ≤ (0 : Int) := (by omega)
    have q3 : 0 < a0.size := (by have : (0 : Int) < (a0.size : Int) := of_decide_eq_true (by first | (with_reducible assumption) | assumption); omega)
    have hx3 : ∀ h : 0 < a0.size, ((a0[0]'h).toNat : Int) = bt a0 0 := bt_at a0 0
    clear p3
    have qi3 : (0 < (a0.size : Int)) = True := eq_true (of_decide_eq_true (by first | (with_reducible assumption) | assumption))
    replace q3 := eq_true q3
    go_enter Tryd.func33, Tryd.ntmps33
    go_upto_block 0 with (fail)
    go_cut [4, 5, 6] (fun v4 v5 v6 wc => ∃ (kq : Nat) (x4_3 : Int) (x5_3 : Int) (x6_3 : Int), v4 = .int .i64 x4_3 ∧ v5 = .int .u8 x5_3 ∧ v6 = .int .u8 x6_3 ∧ Aside0 (spec_runeLen.j3 kq a0 x4_3 x5_3 x6_3 = some r) ∧ Aside0 (kq ≤ k) ∧ Drawn0 w wc)
    case first =>
      have H := HC4.out
      clear HC4
      have HC5 := Aside0.mk H
      clear H
      go_upto_region 3 with (fail)
      go_cut [10] (fun v10 wc => ∃ (kq : Nat) (x10_4 : Bool), v10 = .bool x10_4 ∧ Aside0 (spec_runeLen.j0 kq a0 (bt a0 0) 1 128 191 x10_4 = some r) ∧ Aside0 (kq ≤ k) ∧ Drawn0 w wc)
      case first =>
        have H := HC5.out
        clear HC5
        by_cases c6 : (bt a0 0) ≥ 194
        · rw [if_pos c6] at H
          have c6b0 : decide (194 ≤ (bt a0 0)) = true := decide_eq_true c6
          clear c6
          (first | rw [c6b0] | (simp only [i64_w, i32_w]; rw [c6b0]) | skip)
          have H' := Aside0.mk H
          clear H
          go_wp2
          go_meet
          case rel => exact ⟨_, (decide ((bt a0 0) ≤ 223)), (by first | rfl | (simp; done) | (simp [*]; done) | (simp [*, q_isEmpty]; done) | (simp [*]; exact q_gt _ _ (by assumption))), H', ⟨by first | omega | exact Nat.le_refl _⟩, by repeat (first | exact Drawn0.refl _ | apply Drawn0.step)⟩
        · rw [if_neg c6] at H
          have c6b0 : decide (194 ≤ (bt a0 0)) = false := decide_eq_false c6
          clear c6
          (first | rw [c6b0] | (simp only [i64_w, i32_w]; rw [c6b0]) | skip)
          have H' := Aside0.mk H
          clear H
          go_wp2
          go_meet
          case rel => exact ⟨_, (false), (by first | rfl | (simp; done) | (simp [*]; done) | (simp [*, q_isEmpty]; done) | (simp [*]; exact q_gt _ _ (by assumption))), H', ⟨by first | omega | exact Nat.le_refl _⟩, by repeat (first | exact Drawn0.refl _ | apply Drawn0.step)⟩
      case rest =>
        clear HC5
        try clear c2
        try clear c2b0
        try clear c2b1
        try clear p2
        try clear c3
        try clear p3
        try clear q3
        try clear hx3
        try clear qi3
        try clear c6
        try clear c6b0
        try clear p3
        try clear q3
        obtain ⟨kq, x10_4, rfl, HA, HJ4, ⟨mc4, rfl⟩⟩ := hcut
        cases kq with
        | zero => exact absurd HA.out (by simp [spec_runeLen.j0])
        | succ kj4 =>
          have H := HA.out
          clear HA
          simp only [spec_runeLen.j0] at H
          by_cases c7 : x10_4 = true
          · subst c7
            have H1 : (spec_runeLen.j3 kj4 a0 2 128 191) = some r := by rw [if_pos rfl] at H; exact H
            clear H
            have H := H1
            clear H1
            have H' := Aside0.mk H
            clear H
            go_wp2
            go_meet
            case rel => exact ⟨_, (2), (128), (191), (by first | rfl | (simp; done) | (simp [*]; done) | (simp [*, q_isEmpty]; done) | (simp [*]; exact q_gt _ _ (by assumption))), (by first | rfl | (simp; done) | (simp [*]; done) | (simp [*, q_isEmpty]; done) | (simp [*]; exact q_gt _ _ (by assumption))), (by first | rfl | (simp; done) | (simp [*]; done) | (simp [*, q_isEmpty]; done) | (simp [*]; exact q_gt _ _ (by assumption))), H', ⟨by have := HJ4.out; first | omega | exact Nat.le_refl _⟩, by repeat (first | exact Drawn0.refl _ | apply Drawn0.step)⟩
          · replace c7 := Bool.eq_false_iff.mpr c7
            subst c7
            have H1 : (if (bt a0 0) ≥ 224 then (spec_runeLen.j1 kj4 a0 (bt a0 0) 1 128 191 (decide ((bt a0 0) ≤ 239))) else (spec_runeLen.j1 kj4 a0 (bt a0 0) 1 128 191 false)) = some r := by rw [if_neg (show ¬ (false = true) by decide)] at H; exact H
            clear H
            have H := H1
            clear H1
            have HC8 := Aside0.mk H
            clear H
            go_upto_region 5 with (fail)
            go_cut [17] (fun v17 wc => ∃ (kq : Nat) (x17_7 : Bool), v17 = .bool x17_7 ∧ Aside0 (spec_runeLen.j1 kq a0 (bt a0 0) 1 128 191 x17_7 = some r) ∧ Aside0 (kq ≤ kj4) ∧ Drawn0 w wc)
            case first =>
              have H := HC8.out
              clear HC8
              by_cases c9 : (bt a0 0) ≥ 224
              · rw [if_pos c9] at H
                have c9b0 : decide (224 ≤ (bt a0 0)) = true := decide_eq_true c9
                clear c9
                (first | rw [c9b0] | (simp only [i64_w, i32_w]; rw [c9b0]) | skip)
                have H' := Aside0.mk H
                clear H
                go_wp2
                go_meet
                case rel => exact ⟨_, (decide ((bt a0 0) ≤ 239)), (by first | rfl | (simp; done) | (simp [*]; done) | (simp [*, q_isEmpty]; done) | (simp [*]; exact q_gt _ _ (by assumption))), H', ⟨by have := HJ4.out; first | omega | exact Nat.le_refl _⟩, by repeat (first | exact Drawn0.refl _ | apply Drawn0.step)⟩
              · rw [if_neg c9] at H
                have c9b0 : decide (224 ≤ (bt a0 0)) = false := decide_eq_false c9
                clear c9
                (first | rw [c9b0] | (simp only [i64_w, i32_w]; rw [c9b0]) | skip)
                have H' := Aside0.mk H
                clear H
                go_wp2
                go_meet
                case rel => exact ⟨_, (false), (by first | rfl | (simp; done) | (simp [*]; done) | (simp [*, q_isEmpty]; done) | (simp [*]; exact q_gt _ _ (by assumption))), H', ⟨by have := HJ4.out; first | omega | exact Nat.le_refl _⟩, by repeat (first | exact Drawn0.refl _ | apply Drawn0.step)⟩
            case rest =>
              clear HC8
              try clear c2
              try clear c2b0
              try clear c2b1
              try clear p2
              try clear c3
              try clear p3
              try clear q3
              try clear hx3
              try clear qi3
              try clear c4
              try clear c6
              try clear c6b0
              try clear c7
              try clear c9
              try clear c9b0
              try clear p2
              try clear p3
              try clear q3
              obtain ⟨kq, x17_7, rfl, HA, HJ7, ⟨mc7, rfl⟩⟩ := hcut
              cases kq with
              | zero => exact absurd HA.out (by simp [spec_runeLen.j1])
              | succ kj7 =>
                have H := HA.out
                clear HA
                simp only [spec_runeLen.j1] at H
                by_cases c10 : x17_7 = true
                · subst c10
                  have H1 : (if (bt a0 0) = 224 then (if (bt a0 0) = 237 then (spec_runeLen.j3 kj7 a0 3 160 159) else (spec_runeLen.j3 kj7 a0 3 160 191)) else (if (bt a0 0) = 237 then (spec_runeLen.j3 kj7 a0 3 128 159) else (spec_runeLen.j3 kj7 a0 3 128 191))) = some r := by rw [if_pos rfl] at H; exact H
                  clear H
                  have H := H1
                  clear H1
                  by_cases c11 : (bt a0 0) = 224
                  · rw [if_pos c11] at H
                    have c11b0 : ((bt a0 0) == 224) = true := beq_iff_eq.mpr c11
                    have c11b1 : ((bt a0 0) != 224) = false := bne_eq_false_iff_eq.mpr c11
                    clear c11
                    by_cases c12 : (bt a0 0) = 237
                    · rw [if_pos c12] at H
                      have c12b0 : ((bt a0 0) == 237) = true := beq_iff_eq.mpr c12
                      have c12b1 : ((bt a0 0) != 237) = false := bne_eq_false_iff_eq.mpr c12
                      clear c12
                      have H' := Aside0.mk H
                      clear H
                      go_wp2
                      go_meet
                      case rel => exact ⟨_, (3), (160), (159), (by first | rfl | (simp; done) | (simp [*]; done) | (simp [*, q_isEmpty]; done) | (simp [*]; exact q_gt _ _ (by assumption))), (by first | rfl | (simp; done) | (simp [*]; done) | (simp [*, q_isEmpty]; done) | (simp [*]; exact q_gt _ _ (by assumption))), (by first | rfl | (simp; done) | (simp [*]; done) | (simp [*, q_isEmpty]; done) | (simp [*]; exact q_gt _ _ (by assumption))), H', ⟨by have := HJ4.out; have := HJ7.out; first | omega | exact Nat.le_refl _⟩, by repeat (first | exact Drawn0.refl _ | apply Drawn0.step)⟩
                    · rw [if_neg c12] at H
                      have c12b0 : ((bt a0 0) == 237) = false := beq_eq_false_iff_ne.mpr c12
                      have c12b1 : ((bt a0 0) != 237) = true := bne_iff_ne.mpr c12
                      have H' := Aside0.mk H
                      clear H
                      go_wp2
                      go_meet
                      case rel => exact ⟨_, (3), (160), (191), (by first | rfl | (simp; done) | (simp [*]; done) | (simp [*, q_isEmpty]; done) | (simp [*]; exact q_gt _ _ (by assumption))), (by first | rfl | (simp; done) | (simp [*]; done) | (simp [*, q_isEmpty]; done) | (simp [*]; exact q_gt _ _ (by assumption))), (by first | rfl | (simp; done) | (simp [*]; done) | (simp [*, q_isEmpty]; done) | (simp [*]; exact q_gt _ _ (by assumption))), H', ⟨by have := HJ4.out; have := HJ7.out; first | omega | exact Nat.le_refl _⟩, by repeat (first | exact Drawn0.refl _ | apply Drawn0.step)⟩
                  · rw [if_neg c11] at H
                    have c11b0 : ((bt a0 0) == 224) = false := beq_eq_false_iff_ne.mpr c11
                    have c11b1 : ((bt a0 0) != 224) = true := bne_iff_ne.mpr c11
                    by_cases c13 : (bt a0 0) = 237
                    · rw [if_pos c13] at H
                      have c13b0 : ((bt a0 0) == 237) = true := beq_iff_eq.mpr c13
                      have c13b1 : ((bt a0 0) != 237) = false := bne_eq_false_iff_eq.mpr c13
                      clear c13
                      have H' := Aside0.mk H
                      clear H
                      go_wp2
                      go_meet
                      case rel => exact ⟨_, (3), (128), (159), (by first | rfl | (simp; done) | (simp [*]; done) | (simp [*, q_isEmpty]; done) | (simp [*]; exact q_gt _ _ (by assumption))), (by first | rfl | (simp; done) | (simp [*]; done) | (simp [*, q_isEmpty]; done) | (simp [*]; exact q_gt _ _ (by assumption))), (by first | rfl | (simp; done) | (simp [*]; done) | (simp [*, q_isEmpty]; done) | (simp [*]; exact q_gt _ _ (by assumption))), H', ⟨by have := HJ4.out; have := HJ7.out; first | omega | exact Nat.le_refl _⟩, by repeat (first | exact Drawn0.refl _ | apply Drawn0.step)⟩
                    · rw [if_neg c13] at H
                      have c13b0 : ((bt a0 0) == 237) = false := beq_eq_false_iff_ne.mpr c13
                      have c13b1 : ((bt a0 0) != 237) = true := bne_iff_ne.mpr c13
                      have H' := Aside0.mk H
                      clear H
                      go_wp2
                      go_meet
                      case rel => exact ⟨_, (3), (128), (191), (by first | rfl | (simp; done) | (simp [*]; done) | (simp [*, q_isEmpty]; done) | (simp [*]; exact q_gt _ _ (by assumption))), (by first | rfl | (simp; done) | (simp [*]; done) | (simp [*, q_isEmpty]; done) | (simp [*]; exact q_gt _ _ (by assumption))), (by first | rfl | (simp; done) | (simp [*]; done) | (simp [*, q_isEmpty]; done) | (simp [*]; exact q_gt _ _ (by assumption))), H', ⟨by have := HJ4.out; have := HJ7.out; first | omega | exact Nat.le_refl _⟩, by repeat (first | exact Drawn0.refl _ | apply Drawn0.step)⟩
                · replace c10 := Bool.eq_false_iff.mpr c10
                  subst c10
                  have H1 : (if (bt a0 0) ≥ 240 then (spec_runeLen.j2 kj7 a0 (bt a0 0) 1 128 191 (decide ((bt a0 0) ≤ 244))) else (spec_runeLen.j2 kj7 a0 (bt a0 0) 1 128 191 false)) = some r := by rw [if_neg (show ¬ (false = true) by decide)] at H; exact H
                  clear H
                  have H := H1
                  clear H1
                  have HC14 := Aside0.mk H
                  clear H
                  go_upto_region 11 with (fail)
                  go_cut [28] (fun v28 wc => ∃ (kq : Nat) (x28_13 : Bool), v28 = .bool x28_13 ∧ Aside0 (spec_runeLen.j2 kq a0 (bt a0 0) 1 128 191 x28_13 = some r) ∧ Aside0 (kq ≤ kj7) ∧ Drawn0 w wc)
                  case first =>
                    have H := HC14.out
                    clear HC14
                    by_cases c15 : (bt a0 0) ≥ 240
                    · rw [if_pos c15] at H
                      have c15b0 : decide (240 ≤ (bt a0 0)) = true := decide_eq_true c15
                      clear c15
                      (first | rw [c15b0] | (simp only [i64_w, i32_w]; rw [c15b0]) | skip)
                      have H' := Aside0.mk H
                      clear H
                      go_wp2
                      go_meet
                      case rel => exact ⟨_, (decide ((bt a0 0) ≤ 244)), (by first | rfl | (simp; done) | (simp [*]; done) | (simp [*, q_isEmpty]; done) | (simp [*]; exact q_gt _ _ (by assumption))), H', ⟨by have := HJ4.out; have := HJ7.out; first | omega | exact Nat.le_refl _⟩, by repeat (first | exact Drawn0.refl _ | apply Drawn0.step)⟩
                    · rw [if_neg c15] at H
                      have c15b0 : decide (240 ≤ (bt a0 0)) = false := decide_eq_false c15
                      clear c15
                      (first | rw [c15b0] | (simp only [i64_w, i32_w]; rw [c15b0]) | skip)
                      have H' := Aside0.mk H
                      clear H
                      go_wp2
                      go_meet
                      case rel => exact ⟨_, (false), (by first | rfl | (simp; done) | (simp [*]; done) | (simp [*, q_isEmpty]; done) | (simp [*]; exact q_gt _ _ (by assumption))), H', ⟨by have := HJ4.out; have := HJ7.out; first | omega | exact Nat.le_refl _⟩, by repeat (first | exact Drawn0.refl _ | apply Drawn0.step)⟩
                  case rest =>
                    clear HC14
                    try clear c1
                    try clear c2
                    try clear c2b0
                    try clear c2b1
                    try clear p2
                    try clear c3
                    try clear p3
                    try clear q3
                    try clear hx3
                    try clear qi3
                    try clear c4
                    try clear c6
                    try clear c6b0
                    try clear c7
                    try clear c9
                    try clear c9b0
                    try clear c10
                    try clear c11
                    try clear c11b0
                    try clear c11b1
                    try clear c12
                    try clear c12b0
                    try clear c12b1
                    try clear c13
                    try clear c13b0
                    try clear c13b1
                    try clear c15
                    try clear c15b0
                    try clear p2
                    try clear p3
                    try clear q3
                    obtain ⟨kq, x28_13, rfl, HA, HJ13, ⟨mc13, rfl⟩⟩ := hcut
                    cases kq with
                    | zero => exact absurd HA.out (by simp [spec_runeLen.j2])
                    | succ kj13 =>
                      have H := HA.out
                      clear HA
                      simp only [spec_runeLen.j2] at H
                      by_cases c16 : x28_13 = true
                      · subst c16
                        have H1 : (if (bt a0 0) = 240 then (if (bt a0 0) = 244 then (spec_runeLen.j3 kj13 a0 4 144 143) else (spec_runeLen.j3 kj13 a0 4 144 191)) else (if (bt a0 0) = 244 then (spec_runeLen.j3 kj13 a0 4 128 143) else (spec_runeLen.j3 kj13 a0 4 128 191))) = some r := by rw [if_pos rfl] at H; exact H
                        clear H
                        have H := H1
                        clear H1
                        by_cases c17 : (bt a0 0) = 240
                        · rw [if_pos c17] at H
                          have c17b0 : ((bt a0 0) == 240) = true := beq_iff_eq.mpr c17
                          have c17b1 : ((bt a0 0) != 240) = false := bne_eq_false_iff_eq.mpr c17
                          clear c17
                          by_cases c18 : (bt a0 0) = 244
                          · rw [if_pos c18] at H
                            have c18b0 : ((bt a0 0) == 244) = true := beq_iff_eq.mpr c18
                            have c18b1 : ((bt a0 0) != 244) = false := bne_eq_false_iff_eq.mpr c18
                            clear c18
                            have H' := Aside0.mk H
                            clear H
                            go_wp2
                            go_meet
                            case rel => exact ⟨_, (4), (144), (143), (by first | rfl | (simp; done) | (simp [*]; done) | (simp [*, q_isEmpty]; done) | (simp [*]; exact q_gt _ _ (by assumption))), (by first | rfl | (simp; done) | (simp [*]; done) | (simp [*, q_isEmpty]; done) | (simp [*]; exact q_gt _ _ (by assumption))), (by first | rfl | (simp; done) | (simp [*]; done) | (simp [*, q_isEmpty]; done) | (simp [*]; exact q_gt _ _ (by assumption))), H', ⟨by have := HJ4.out; have := HJ7.out; have := HJ13.out; first | omega | exact Nat.le_refl _⟩, by repeat (first | exact Drawn0.refl _ | apply Drawn0.step)⟩
                          · rw [if_neg c18] at H
                            have c18b0 : ((bt a0 0) == 244) = false := beq_eq_false_iff_ne.mpr c18
                            have c18b1 : ((bt a0 0) != 244) = true := bne_iff_ne.mpr c18
                            have H' := Aside0.mk H
                            clear H
                            go_wp2
                            go_meet
                            case rel => exact ⟨_, (4), (144), (191), (by first | rfl | (simp; done) | (simp [*]; done) | (simp [*, q_isEmpty]; done) | (simp [*]; exact q_gt _ _ (by assumption))), (by first | rfl | (simp; done) | (simp [*]; done) | (simp [*, q_isEmpty]; done) | (simp [*]; exact q_gt _ _ (by assumption))), (by first | rfl | (simp; done) | (simp [*]; done) | (simp [*, q_isEmpty]; done) | (simp [*]; exact q_gt _ _ (by assumption))), H', ⟨by have := HJ4.out; have := HJ7.out; have := HJ13.out; first | omega | exact Nat.le_refl _⟩, by repeat (first | exact Drawn0.refl _ | apply Drawn0.step)⟩
                        · rw [if_neg c17] at H
                          have c17b0 : ((bt a0 0) == 240) = false := beq_eq_false_iff_ne.mpr c17
                          have c17b1 : ((bt a0 0) != 240) = true := bne_iff_ne.mpr c17
                          by_cases c19 : (bt a0 0) = 244
                          · rw [if_pos c19] at H
                            have c19b0 : ((bt a0 0) == 244) = true := beq_iff_eq.mpr c19
                            have c19b1 : ((bt a0 0) != 244) = false := bne_eq_false_iff_eq.mpr c19
                            clear c19
                            have H' := Aside0.mk H
                            clear H
                            go_wp2
                            go_meet
                            case rel => exact ⟨_, (4), (128), (143), (by first | rfl | (simp; done) | (simp [*]; done) | (simp [*, q_isEmpty]; done) | (simp [*]; exact q_gt _ _ (by assumption))), (by first | rfl | (simp; done) | (simp [*]; done) | (simp [*, q_isEmpty]; done) | (simp [*]; exact q_gt _ _ (by assumption))), (by first | rfl | (simp; done) | (simp [*]; done) | (simp [*, q_isEmpty]; done) | (simp [*]; exact q_gt _ _ (by assumption))), H', ⟨by have := HJ4.out; have := HJ7.out; have := HJ13.out; first | omega | exact Nat.le_refl _⟩, by repeat (first | exact Drawn0.refl _ | apply Drawn0.step)⟩
                          · rw [if_neg c19] at H
                            have c19b0 : ((bt a0 0) == 244) = false := beq_eq_false_iff_ne.mpr c19
                            have c19b1 : ((bt a0 0) != 244) = true := bne_iff_ne.mpr c19
                            have H' := Aside0.mk H
                            clear H
                            go_wp2
                            go_meet
                            case rel => exact ⟨_, (4), (128), (191), (by first | rfl | (simp; done) | (simp [*]; done) | (simp [*, q_isEmpty]; done) | (simp [*]; exact q_gt _ _ (by assumption))), (by first | rfl | (simp; done) | (simp [*]; done) | (simp [*, q_isEmpty]; done) | (simp [*]; exact q_gt _ _ (by assumption))), (by first | rfl | (simp; done) | (simp [*]; done) | (simp [*, q_isEmpty]; done) | (simp [*]; exact q_gt _ _ (by assumption))), H', ⟨by have := HJ4.out; have := HJ7.out; have := HJ13.out; first | omega | exact Nat.le_refl _⟩, by repeat (first | exact Drawn0.refl _ | apply Drawn0.step)⟩
                      · replace c16 := Bool.eq_false_iff.mpr c16
                        subst c16
                        have H1 : (spec_runeLen.j3 kj13 a0 1 128 191) = some r := by rw [if_neg (show ¬ (false = true) by decide)] at H; exact H
                        clear H
                        have H := H1
                        clear H1
                        have H' := Aside0.mk H
                        clear H
                        go_wp2
                        go_meet
                        case rel => exact ⟨_, (1), (128), (191), (by first | rfl | (simp; done) | (simp [*]; done) | (simp [*, q_isEmpty]; done) | (simp [*]; exact q_gt _ _ (by assumption))), (by first | rfl | (simp; done) | (simp [*]; done) | (simp [*, q_isEmpty]; done) | (simp [*]; exact q_gt _ _ (by assumption))), (by first | rfl | (simp; done) | (simp [*]; done) | (simp [*, q_isEmpty]; done) | (simp [*]; exact q_gt _ _ (by assumption))), H', ⟨by have := HJ4.out; have := HJ7.out; have := HJ13.out; first | omega | exact Nat.le_refl _⟩, by repeat (first | exact Drawn0.refl _ | apply Drawn0.step)⟩
    case rest =>
      clear HC4
      try clear c1
      try clear c2
      try clear c2b0
      try clear c2b1
      try clear p2
      try clear c3
      try clear p3
      try clear q3
      try clear hx3
      try clear qi3
      try clear c4
      try clear c6
      try clear c6b0
      try clear c7
      try clear c9
      try clear c9b0
      try clear c10
      try clear c11
      try clear c11b0
      try clear c11b1
      try clear c12
      try clear c12b0
      try clear c12b1
      try clear c13
      try clear c13b0
      try clear c13b1
      try clear c15
      try clear c15b0
      try clear c16
      try clear c17
      try clear c17b0
      try clear c17b1
      try clear c18
      try clear c18b0
      try clear c18b1
      try clear c19
      try clear c19b0
      try clear c19b1
      try clear p2
      try clear p3
      try clear q3
      obtain ⟨kq, x4_3, x5_3, x6_3, rfl, rfl, rfl, HA, HJ3, ⟨mc3, rfl⟩⟩ := hcut
      cases kq with
      | zero => exact absurd HA.out (by simp [spec_runeLen.j3])
      | succ kj3 =>
        have H := HA.out
        clear HA
        simp only [spec_runeLen.j3] at H
        by_cases c20 : x4_3 > (a0.size : Int)
        · rw [if_pos c20] at H
          have c20b0 : decide ((a0.size : Int) < x4_3) = true := decide_eq_true c20
          clear c20
          obtain rfl := Option.some.inj H
          go_wp2
          go_ret
          exact ⟨by first | rfl | (simp; done) | (simp [*]; done) | (simp [*, q_isEmpty]; done) | (simp [*]; exact q_gt _ _ (by assumption)), by repeat (first | exact Drawn0.refl _ | apply Drawn0.step)⟩
        · rw [if_neg c20] at H
          have c20b0 : decide ((a0.size : Int) < x4_3) = false := decide_eq_false c20
          clear c20
          have H' := Aside0.mk H
          clear H
          go_wp2
          go_loopg [5, 6, 7] kj3 (fun kq v5 v6 v7 w' => ∃ (x5_2 : Int) (x6_2 : Int) (x7_2 : Int), v5 = .int .u8 x5_2 ∧ v6 = .int .u8 x6_2 ∧ v7 = .int .i64 x7_2 ∧ Aside0 (spec_runeLen.l0 kq a0 x4_3 x5_2 x6_2 x7_2 = some r) ∧ Aside0 (kq ≤ kj3) ∧ Drawn0 w w')
          case atStart => exact ⟨(x5_3), (x6_3), (1), (by first | rfl | (simp; done) | (simp [*]; done) | (simp [*, q_isEmpty]; done) | (simp [*]; exact q_gt _ _ (by assumption))), (by first | rfl | (simp; done) | (simp [*]; done) | (simp [*, q_isEmpty]; done) | (simp [*]; exact q_gt _ _ (by assumption))), (by first | rfl | (simp; done) | (simp [*]; done) | (simp [*, q_isEmpty]; done) | (simp [*]; exact q_gt _ _ (by assumption))), H', ⟨Nat.le_refl _⟩, by repeat (first | exact Drawn0.refl _ | apply Drawn0.step)⟩
          case round =>
            clear H'
            try clear c1
            try clear c2
            try clear c2b0
            try clear c2b1
            try clear p2
            try clear c3
            try clear p3
            try clear q3
            try clear hx3
            try clear qi3
            try clear c4
            try clear c6
            try clear c6b0
            try clear c7
            try clear c9
            try clear c9b0
            try clear c10
            try clear c11
            try clear c11b0
            try clear c11b1
            try clear c12
            try clear c12b0
            try clear c12b1
            try clear c13
            try clear c13b0
            try clear c13b1
            try clear c15
            try clear c15b0
            try clear c16
            try clear c17
            try clear c17b0
            try clear c17b1
            try clear c18
            try clear c18b0
            try clear c18b1
            try clear c19
            try clear c19b0
            try clear c19b1
            try clear c20
            try clear c20b0
            try clear p2
            try clear p3
            try clear q3
            obtain ⟨x5_2, x6_2, x7_2, rfl, rfl, rfl, HA, HK2, ⟨m2, rfl⟩⟩ := hrel
            cases gk with
            | zero => exact absurd HA.out (by simp [spec_runeLen.l0])
            | succ k2 =>
              have H := HA.out
              clear HA
              simp only [spec_runeLen.l0] at H
              by_cases c21 : x7_2 < x4_3
              · rw [if_pos c21] at H
                have c21b0 : decide (x7_2 < x4_3) = true := decide_eq_true c21
                clear c21
                by_cases c22 : 0 ≤ x7_2
                · rw [if_pos c22] at H
                  have c22b0 : decide (0 ≤ x7_2) = true := decide_eq_true c22
                  clear c22
                  by_cases c23 : x7_2 < (a0.size : Int)
                  · rw [if_pos c23] at H
                    have c23b0 : decide (x7_2 < (a0.size : Int)) = true := decide_eq_true c23
                    clear c23
                    by_cases c25 : (bt a0 x7_2) < x5_2
                    · rw [if_pos c25] at H
                      have c25b0 : decide ((bt a0 x7_2) < x5_2) = true := decide_eq_true c25
                      clear c25
                      obtain rfl := Option.some.inj H
                      have p24 : 0 ≤ (x7_2 : Int) := of_decide_eq_true (by first | (with_reducible assumption) | assumption)
                      have q24 : x7_2 < (a0.size : Int) := of_decide_eq_true (by first | (with_reducible assumption) | assumption)
                      have hx24 := bt_at a0 x7_2
                      replace p24 := eq_true p24
                      replace q24 := eq_true q24
                      go_wp2
                      go_ret
                      exact ⟨by first | rfl | (simp; done) | (simp [*]; done) | (simp [*, q_isEmpty]; done) | (simp [*]; exact q_gt _ _ (by assumption)), by repeat (first | exact Drawn0.refl _ | apply Drawn0.step)⟩
                    · rw [if_neg c25] at H
                      have c25b0 : decide ((bt a0 x7_2) < x5_2) = false := decide_eq_false c25
                      clear c25
                      by_cases c27 : (bt a0 x7_2) > x6_2
                      · rw [if_pos c27] at H
                        have c27b0 : decide (x6_2 < (bt a0 x7_2)) = true := decide_eq_true c27
                        clear c27
                        obtain rfl := Option.some.inj H
                        have p24 : 0 ≤ (x7_2 : Int) := of_decide_eq_true (by first | (with_reducible assumption) | assumption)
                        have q24 : x7_2 < (a0.size : Int) := of_decide_eq_true (by first | (with_reducible assumption) | assumption)
                        have hx24 := bt_at a0 x7_2
                        replace p24 := eq_true p24
                        replace q24 := eq_true q24
                        have p26 : 0 ≤ (x7_2 : Int) := of_decide_eq_true (by first | (with_reducible assumption) | assumption)
                        have q26 : x7_2 < (a0.size : Int) := of_decide_eq_true (by first | (with_reducible assumption) | assumption)
                        have hx26 := bt_at a0 x7_2
                        replace p26 := eq_true p26
                        replace q26 := eq_true q26
                        go_wp2
                        go_ret
                        exact ⟨by first | rfl | (simp; done) | (simp [*]; done) | (simp [*, q_isEmpty]; done) | (simp [*]; exact q_gt _ _ (by assumption)), by repeat (first | exact Drawn0.refl _ | apply Drawn0.step)⟩
                      · rw [if_neg c27] at H
                        have c27b0 : decide (x6_2 < (bt a0 x7_2)) = false := decide_eq_false c27
                        clear c27
                        have H' := Aside0.mk H
                        clear H
                        have p24 : 0 ≤ (x7_2 : Int) := of_decide_eq_true (by first | (with_reducible assumption) | assumption)
                        have q24 : x7_2 < (a0.size : Int) := of_decide_eq_true (by first | (with_reducible assumption) | assumption)
                        have hx24 := bt_at a0 x7_2
                        replace p24 := eq_true p24
                        replace q24 := eq_true q24
                        have p26 : 0 ≤ (x7_2 : Int) := of_decide_eq_true (by first | (with_reducible assumption) | assumption)
                        have q26 : x7_2 < (a0.size : Int) := of_decide_eq_true (by first | (with_reducible assumption) | assumption)
                        have hx26 := bt_at a0 x7_2
                        replace p26 := eq_true p26
                        replace q26 := eq_true q26
                        go_wp2
                        go_roundg k2
                        case measure => have := HJ3.out; have := HK2.out; omega
                        case rel => exact ⟨(128), (191), (wrap64 (x7_2 + 1)), (by first | rfl | (simp; done) | (simp [*]; done) | (simp [*, q_isEmpty]; done) | (simp [*]; exact q_gt _ _ (by assumption))), (by first | rfl | (simp; done) | (simp [*]; done) | (simp [*, q_isEmpty]; done) | (simp [*]; exact q_gt _ _ (by assumption))), (by first | rfl | (simp; done) | (simp [*]; done) | (simp [*, q_isEmpty]; done) | (simp [*]; exact q_gt _ _ (by assumption))), H', ⟨by have := HJ3.out; have := HK2.out; omega⟩, by repeat (first | exact Drawn0.refl _ | apply Drawn0.step)⟩
                  · rw [if_neg c23] at H
                    exact absurd H (by simp)
                · rw [if_neg c22] at H
                  exact absurd H (by simp)
              · rw [if_neg c21] at H
                have c21b0 : decide (x7_2 < x4_3) = false := decide_eq_false c21
                clear c21
                obtain rfl := Option.some.inj H
                go_wp2
                go_ret
                exact ⟨by first | rfl | (simp; done) | (simp [*]; done) | (simp [*, q_isEmpty]; done) | (simp [*]; exact q_gt _ _ (by assumption)), by repeat (first | exact Drawn0.refl _ | apply Drawn0.step)⟩
  · rw [if_neg c2] at H
    exact absurd H (by simp)

end Go.Proofs.YtkbaihcamimnjaaDoor.Q
