/- Printed for this seat by wip/pp.py of this repo; nothing here is trusted: Lean checks it. -/
import Derived.Test.YtnnhehlieakedaaGreatDoorQ0
namespace Go.Proofs.YtnnhehlieakedaaGreatDoor.Q
open Go.RowKit Go.Proofs.YtnnhehlieakedaaGreatDoorW.PrintWords Go.Proofs.YtnnhehlieakedaaGreatDoorW.PrintLast Go.Proofs.YtnnhehlieakedaaGreatDoorW.PrintMore
attribute [local go_sem] max2_int min2_int max_two min_two max_three min_three max_four min_four   -- for this text's walks alone
set_option linter.unusedVariables false
set_option linter.unusedSimpArgs false

/-! ### spec_Begins: function 83 -/
def spec_Begins.f (a0 : ByteArray) (a1 : ByteArray) : Option (Bool) := if (a1.size : Int) ≤ (a0.size : Int) then (if 0 ≤ (a1.size : Int) then (some ((a0.extract 0 ((a1.size : Int) : Int).toNat).toList == a1.toList)) else (none)) else (some false)
set_option maxHeartbeats 8000000 in
set_option maxRecDepth 100000 in
theorem spec_Begins.calls (a0 : ByteArray) (a1 : ByteArray) (r : Bool) (w : World) (h : spec_Begins.f a0 a1 = some r) :
    Calls Tryz.prog 83 #[.string a0, .string a1] w fun e w' => e = .returned (.bool r) ∧ Drawn0 w w' := by
  have H : (if (a1.size : Int) ≤ (a0.size : Int) then (if 0 ≤ (a1.size : Int) then (some ((a0.extract 0 ((a1.size : Int) : Int).toNat).toList == a1.toList)) else (none)) else (some false)) = some r := h
  clear h
  by_cases c3 : (a1.size : Int) ≤ (a0.size : Int)
  · rw [if_pos c3] at H
    have c3b0 : decide ((a1.size : Int) ≤ (a0.size : Int)) = true := decide_eq_true c3
    have c3b1 : decide (a1.size ≤ a0.size) = true := decide_eq_true (Int.ofNat_le.mp c3)
    clear c3
    by_cases c4 : 0 ≤ (a1.size : Int)
    · rw [if_pos c4] at H
      have c4b0 := eq_true c4
      have c4b1 : decide (0 ≤ (a1.size : Int)) = true := decide_eq_true c4
      clear c4
      have c5b0 := eq_true (of_decide_eq_true (by first | (with_reducible assumption) | assumption) : (a1.size : Int) ≤ (a0.size : Int))
      obtain rfl := Option.some.inj H
      go_enter Tryz.func83, Tryz.ntmps83
      go_wp2
      go_ret
      exact ⟨by first | rfl | (simp; done) | (simp [*]; done) | (simp [*, q_isEmpty]; done) | (simp [*]; exact q_gt _ _ (by assumption)), by repeat (first | exact Drawn0.refl _ | apply Drawn0.step)⟩
    · rw [if_neg c4] at H
      exact absurd H (by simp)
  · rw [if_neg c3] at H
    have c3b0 : decide ((a1.size : Int) ≤ (a0.size : Int)) = false := decide_eq_false c3
    have c3b1 : decide (a1.size ≤ a0.size) = false := decide_eq_false (fun h => c3 (Int.ofNat_le.mpr h))
    clear c3
    obtain rfl := Option.some.inj H
    go_enter Tryz.func83, Tryz.ntmps83
    go_wp2
    go_ret
    exact ⟨by first | rfl | (simp; done) | (simp [*]; done) | (simp [*, q_isEmpty]; done) | (simp [*]; exact q_gt _ _ (by assumption)), by repeat (first | exact Drawn0.refl _ | apply Drawn0.step)⟩

end Go.Proofs.YtnnhehlieakedaaGreatDoor.Q
namespace Go.Proofs.YtnnhehlieakedaaGreatDoor.Q
open Go.RowKit Go.Proofs.YtnnhehlieakedaaGreatDoorW.PrintWords Go.Proofs.YtnnhehlieakedaaGreatDoorW.PrintLast Go.Proofs.YtnnhehlieakedaaGreatDoorW.PrintMore
attribute [local go_sem] max2_int min2_int max_two min_two max_three min_three max_four min_four   -- for this text's walks alone
set_option linter.unusedVariables false
set_option linter.unusedSimpArgs false

/-! ### spec_runeLen: function 71 -/
mutual
def spec_runeLen.j3 : Nat → ByteArray → Int → Int → Int → Option (Int)
  | 0, _, _, _, _ => none
  | k + 1, x0, x4, x5, x6 => if x4 > (x0.size : Int) then (some 1) else (spec_runeLen.l0 k x0 x4 x5 x6 1)
def spec_runeLen.l0 : Nat → ByteArray → Int → Int → Int → Int → Option (Int)
  | 0, _, _, _, _, _ => none
  | k + 1, x0, x4, x5, x6, x7 => if x7 < x4 then (if 0 ≤ x7 then (if x7 < (x0.size : Int) then (if (bt x0 x7) < x5 then (some 1) else (if (bt x0 x7) > x6 then (some 1) else (spec_runeLen.l0 k x0 x4 128 191 (wrap64 (x7 + 1))))) else (none)) else (none)) else (some x4)
def spec_runeLen.j0 : Nat → ByteArray → Int → Int → Int → Int → Bool → Option (Int)
  | 0, _, _, _, _, _, _ => none
  | k + 1, x0, x3, x4, x5, x6, x10 => if x10 = true then (spec_runeLen.j3 k x0 2 x5 x6) else (if x3 ≥ 224 then (spec_runeLen.j1 k x0 x3 x4 x5 x6 (decide (x3 ≤ 239))) else (spec_runeLen.j1 k x0 x3 x4 x5 x6 false))
def spec_runeLen.j1 : Nat → ByteArray → Int → Int → Int → Int → Bool → Option (Int)
  | 0, _, _, _, _, _, _ => none
  | k + 1, x0, x3, x4, x5, x6, x17 => if x17 = true then (if x3 = 224 then (if x3 = 237 then (spec_runeLen.j3 k x0 3 160 159) else (spec_runeLen.j3 k x0 3 160 x6)) else (if x3 = 237 then (spec_runeLen.j3 k x0 3 x5 159) else (spec_runeLen.j3 k x0 3 x5 x6))) else (if x3 ≥ 240 then (spec_runeLen.j2 k x0 x3 x4 x5 x6 (decide (x3 ≤ 244))) else (spec_runeLen.j2 k x0 x3 x4 x5 x6 false))
def spec_runeLen.j2 : Nat → ByteArray → Int → Int → Int → Int → Bool → Option (Int)
  | 0, _, _, _, _, _, _ => none
  | k + 1, x0, x3, x4, x5, x6, x28 => if x28 = true then (if x3 = 240 then (if x3 = 244 then (spec_runeLen.j3 k x0 4 144 143) else (spec_runeLen.j3 k x0 4 144 x6)) else (if x3 = 244 then (spec_runeLen.j3 k x0 4 x5 143) else (spec_runeLen.j3 k x0 4 x5 x6))) else (spec_runeLen.j3 k x0 x4 x5 x6)
end
def spec_runeLen.f (k : Nat) (a0 : ByteArray) : Option (Int) := if 0 < (a0.size : Int) then (if (bt a0 0) ≥ 194 then (spec_runeLen.j0 k a0 (bt a0 0) 1 128 191 (decide ((bt a0 0) ≤ 223))) else (spec_runeLen.j0 k a0 (bt a0 0) 1 128 191 false)) else (none)
theorem spec_runeLen.mono_l : ∀ k, (∀ y0 y1 y2 y3, LeO (spec_runeLen.j3 k y0 y1 y2 y3) (spec_runeLen.j3 (k + 1) y0 y1 y2 y3)) ∧ (∀ y0 y1 y2 y3 y4, LeO (spec_runeLen.l0 k y0 y1 y2 y3 y4) (spec_runeLen.l0 (k + 1) y0 y1 y2 y3 y4)) ∧ (∀ y0 y1 y2 y3 y4 y5, LeO (spec_runeLen.j0 k y0 y1 y2 y3 y4 y5) (spec_runeLen.j0 (k + 1) y0 y1 y2 y3 y4 y5)) ∧ (∀ y0 y1 y2 y3 y4 y5, LeO (spec_runeLen.j1 k y0 y1 y2 y3 y4 y5) (spec_runeLen.j1 (k + 1) y0 y1 y2 y3 y4 y5)) ∧ (∀ y0 y1 y2 y3 y4 y5, LeO (spec_runeLen.j2 k y0 y1 y2 y3 y4 y5) (spec_runeLen.j2 (k + 1) y0 y1 y2 y3 y4 y5))
  | 0 => ⟨fun _ _ _ _ r h => by simp [spec_runeLen.j3] at h, fun _ _ _ _ _ r h => by simp [spec_runeLen.l0] at h, fun _ _ _ _ _ _ r h => by simp [spec_runeLen.j0] at h, fun _ _ _ _ _ _ r h => by simp [spec_runeLen.j1] at h, fun _ _ _ _ _ _ r h => by simp [spec_runeLen.j2] at h⟩
  | k + 1 => by
    obtain ⟨ih0, ih1, ih2, ih3, ih4⟩ := spec_runeLen.mono_l k
    refine ⟨?_, ?_, ?_, ?_, ?_⟩
    · intro y0 y1 y2 y3
      unfold spec_runeLen.j3
      repeat' first
      | (with_reducible exact ih0 _ _ _ _)
      | (with_reducible exact ih1 _ _ _ _ _)
      | (with_reducible exact ih2 _ _ _ _ _ _)
      | (with_reducible exact ih3 _ _ _ _ _ _)
      | (with_reducible exact ih4 _ _ _ _ _ _)
      | (with_reducible exact LeO.refl _)
      | (with_reducible exact LeO.none _)
      | (with_reducible refine LeO.ite ?_ ?_)
      | (with_reducible refine LeO.bind ?_ (fun _ => ?_))
      | exact ih0 _ _ _ _
      | exact ih1 _ _ _ _ _
      | exact ih2 _ _ _ _ _ _
      | exact ih3 _ _ _ _ _ _
      | exact ih4 _ _ _ _ _ _
      | exact LeO.none _
      | refine LeO.ite ?_ ?_
      | refine LeO.bind ?_ (fun _ => ?_)
    · intro y0 y1 y2 y3 y4
      unfold spec_runeLen.l0
      repeat' first
      | (with_reducible exact ih0 _ _ _ _)
      | (with_reducible exact ih1 _ _ _ _ _)
      | (with_reducible exact ih2 _ _ _ _ _ _)
      | (with_reducible exact ih3 _ _ _ _ _ _)
      | (with_reducible exact ih4 _ _ _ _ _ _)
      | (with_reducible exact LeO.refl _)
      | (with_reducible exact LeO.none _)
      | (with_reducible refine LeO.ite ?_ ?_)
      | (with_reducible refine LeO.bind ?_ (fun _ => ?_))
      | exact ih0 _ _ _ _
      | exact ih1 _ _ _ _ _
      | exact ih2 _ _ _ _ _ _
      | exact ih3 _ _ _ _ _ _
      | exact ih4 _ _ _ _ _ _
      | exact LeO.none _
      | refine LeO.ite ?_ ?_
      | refine LeO.bind ?_ (fun _ => ?_)
    · intro y0 y1 y2 y3 y4 y5
      unfold spec_runeLen.j0
      repeat' first
      | (with_reducible exact ih0 _ _ _ _)
      | (with_reducible exact ih1 _ _ _ _ _)
      | (with_reducible exact ih2 _ _ _ _ _ _)
      | (with_reducible exact ih3 _ _ _ _ _ _)
      | (with_reducible exact ih4 _ _ _ _ _ _)
      | (with_reducible exact LeO.refl _)
      | (with_reducible exact LeO.none _)
      | (with_reducible refine LeO.ite ?_ ?_)
      | (with_reducible refine LeO.bind ?_ (fun _ => ?_))
      | exact ih0 _ _ _ _
      | exact ih1 _ _ _ _ _
      | exact ih2 _ _ _ _ _ _
      | exact ih3 _ _ _ _ _ _
      | exact ih4 _ _ _ _ _ _
      | exact LeO.none _
      | refine LeO.ite ?_ ?_
      | refine LeO.bind ?_ (fun _ => ?_)
    · intro y0 y1 y2 y3 y4 y5
      unfold spec_runeLen.j1
      repeat' first
      | (with_reducible exact ih0 _ _ _ _)
      | (with_reducible exact ih1 _ _ _ _ _)
      | (with_reducible exact ih2 _ _ _ _ _ _)
      | (with_reducible exact ih3 _ _ _ _ _ _)
      | (with_reducible exact ih4 _ _ _ _ _ _)
      | (with_reducible exact LeO.refl _)
      | (with_reducible exact LeO.none _)
      | (with_reducible refine LeO.ite ?_ ?_)
      | (with_reducible refine LeO.bind ?_ (fun _ => ?_))
      | exact ih0 _ _ _ _
      | exact ih1 _ _ _ _ _
      | exact ih2 _ _ _ _ _ _
      | exact ih3 _ _ _ _ _ _
      | exact ih4 _ _ _ _ _ _
      | exact LeO.none _
      | refine LeO.ite ?_ ?_
      | refine LeO.bind ?_ (fun _ => ?_)
    · intro y0 y1 y2 y3 y4 y5
      unfold spec_runeLen.j2
      repeat' first
      | (with_reducible exact ih0 _ _ _ _)
      | (with_reducible exact ih1 _ _ _ _ _)
      | (with_reducible exact ih2 _ _ _ _ _ _)
      | (with_reducible exact ih3 _ _ _ _ _ _)
      | (with_reducible exact ih4 _ _ _ _ _ _)
      | (with_reducible exact LeO.refl _)
      | (with_reducible exact LeO.none _)
      | (with_reducible refine LeO.ite ?_ ?_)
      | (with_reducible refine LeO.bind ?_ (fun _ => ?_))
      | exact ih0 _ _ _ _
      | exact ih1 _ _ _ _ _
      | exact ih2 _ _ _ _ _ _
      | exact ih3 _ _ _ _ _ _
      | exact ih4 _ _ _ _ _ _
      | exact LeO.none _
      | refine LeO.ite ?_ ?_
      | refine LeO.bind ?_ (fun _ => ?_)
theorem spec_runeLen.mono : ∀ a0 k, LeO (spec_runeLen.f k a0) (spec_runeLen.f (k + 1) a0) := by
  intro a0 k
  obtain ⟨ih0, ih1, ih2, ih3, ih4⟩ := spec_runeLen.mono_l k
  unfold spec_runeLen.f
  repeat' first
      | (with_reducible exact ih0 _ _ _ _)
      | (with_reducible exact ih1 _ _ _ _ _)
      | (with_reducible exact ih2 _ _ _ _ _ _)
      | (with_reducible exact ih3 _ _ _ _ _ _)
      | (with_reducible exact ih4 _ _ _ _ _ _)
      | (with_reducible exact LeO.refl _)
      | (with_reducible exact LeO.none _)
      | (with_reducible refine LeO.ite ?_ ?_)
      | (with_reducible refine LeO.bind ?_ (fun _ => ?_))
      | exact ih0 _ _ _ _
      | exact ih1 _ _ _ _ _
      | exact ih2 _ _ _ _ _ _
      | exact ih3 _ _ _ _ _ _
      | exact ih4 _ _ _ _ _ _
      | exact LeO.none _
      | refine LeO.ite ?_ ?_
      | refine LeO.bind ?_ (fun _ => ?_)
set_option maxHeartbeats 8000000 in
set_option maxRecDepth 100000 in
theorem spec_runeLen.calls (k : Nat) (a0 : ByteArray) (r : Int) (w : World) (h : spec_runeLen.f k a0 = some r) :
    Calls Tryz.prog 71 #[.string a0] w fun e w' => e = .returned (.int .i64 r) ∧ Drawn0 w w' := by
  have H : (if 0 < (a0.size : Int) then (if (bt a0 0) ≥ 194 then (spec_runeLen.j0 k a0 (bt a0 0) 1 128 191 (decide ((bt a0 0) ≤ 223))) else (spec_runeLen.j0 k a0 (bt a0 0) 1 128 191 false)) else (none)) = some r := h
  clear h
  by_cases c2 : 0 < (a0.size : Int)
  · rw [if_pos c2] at H
    have c2b0 : decide (0 < (a0.size : Int)) = true := decide_eq_true c2
    have c2b1 : decide (0 < a0.size) = true := decide_eq_true (by omega)
    clear c2
    have HC4 := Aside0.mk H
    clear H
    have p3 : 0 ≤ (0 : Int) := (by omega)
    have q3 : 0 < a0.size := (by have : (0 : Int) < (a0.size : Int) := of_decide_eq_true (by first | (with_reducible assumption) | assumption); omega)
    have hx3 : ∀ h : 0 < a0.size, ((a0[0]'h).toNat : Int) = bt a0 0 := bt_at a0 0
    clear p3
    have qi3 : (0 < (a0.size : Int)) = True := eq_true (of_decide_eq_true (by first | (with_reducible assumption) | assumption))
    replace q3 := eq_true q3
    go_enter Tryz.func71, Tryz.ntmps71
    go_upto_block 0 with (fail)
    go_cut [4, 5, 6] (fun v4 v5 v6 wc => ∃ (kq : Nat) (x4_3 : Int) (x5_3 : Int) (x6_3 : Int), v4 = .int .i64 x4_3 ∧ v5 = .int .u8 x5_3 ∧ v6 = .int .u8 x6_3 ∧ Aside0 (spec_runeLen.j3 kq a0 x4_3 x5_3 x6_3 = some r) ∧ Aside0 (kq ≤ k) ∧ Drawn0 w wc)
    case first =>
      have H := HC4.out
      clear HC4
      have HC5 := Aside0.mk H
      clear H
      go_upto_region 3 with (fail)
      go_cut [10] (fun v10 wc => ∃ (kq : Nat) (x10_4 : Bool), v10 = .bool x10_4 ∧ Aside0 (spec_runeLen.j0 kq a0 (bt a0 0) 1 128 191 x10_4 = some r) ∧ Aside0 (kq ≤ k) ∧ Drawn0 w wc)
      case first =>
        have H := HC5.out
        clear HC5
        by_cases c6 : (bt a0 0) ≥ 194
        · rw [if_pos c6] at H
          have c6b0 : decide (194 ≤ (bt a0 0)) = true := decide_eq_true c6
          clear c6
          (first | rw [c6b0] | (simp only [i64_w, i32_w]; rw [c6b0]) | skip)
          have H' := Aside0.mk H
          clear H
          go_wp2
          go_meet
          case rel => exact ⟨_, (decide ((bt a0 0) ≤ 223)), (by first | rfl | (simp; done) | (simp [*]; done) | (simp [*, q_isEmpty]; done) | (simp [*]; exact q_gt _ _ (by assumption))), H', ⟨by first | omega | exact Nat.le_refl _⟩, by repeat (first | exact Drawn0.refl _ | apply Drawn0.step)⟩
        · rw [if_neg c6] at H
          have c6b0 : decide (194 ≤ (bt a0 0)) = false := decide_eq_false c6
          clear c6
          (first | rw [c6b0] | (simp only [i64_w, i32_w]; rw [c6b0]) | skip)
          have H' := Aside0.mk H
          clear H
          go_wp2
          go_meet
          case rel => exact ⟨_, (false), (by first | rfl | (simp; done) | (simp [*]; done) | (simp [*, q_isEmpty]; done) | (simp [*]; exact q_gt _ _ (by assumption))), H', ⟨by first | omega | exact Nat.le_refl _⟩, by repeat (first | exact Drawn0.refl _ | apply Drawn0.step)⟩
      case rest =>
        clear HC5
        try clear c2
        try clear c2b0
        try clear c2b1
        try clear p2
        try clear p3
        try clear q3
        try clear hx3
        try clear qi3
        try clear c6
        try clear c6b0
        try clear p3
        try clear q3
        obtain ⟨kq, x10_4, rfl, HA, HJ4, ⟨mc4, rfl⟩⟩ := hcut
        cases kq with
        | zero => exact absurd HA.out (by simp [spec_runeLen.j0])
        | succ kj4 =>
          have H := HA.out
          clear HA
          simp only [spec_runeLen.j0] at H
          by_cases c7 : x10_4 = true
          · subst c7
            have H1 : (spec_runeLen.j3 kj4 a0 2 128 191) = some r := by rw [if_pos rfl] at H; exact H
            clear H
            have H := H1
            clear H1
            have H' := Aside0.mk H
            clear H
            go_wp2
            go_meet
            case rel => exact ⟨_, (2), (128), (191), (by first | rfl | (simp; done) | (simp [*]; done) | (simp [*, q_isEmpty]; done) | (simp [*]; exact q_gt _ _ (by assumption))), (by first | rfl | (simp; done) | (simp [*]; done) | (simp [*, q_isEmpty]; done) | (simp [*]; exact q_gt _ _ (by assumption))), (by first | rfl | (simp; done) | (simp [*]; done) | (simp [*, q_isEmpty]; done) | (simp [*]; exact q_gt _ _ (by assumption))), H', ⟨by have := HJ4.out; first | omega | exact Nat.le_refl _⟩, by repeat (first | exact Drawn0.refl _ | apply Drawn0.step)⟩
          · replace c7 := Bool.eq_false_iff.mpr c7
            subst c7
            have H1 : (if (bt a0 0) ≥ 224 then (spec_runeLen.j1 kj4 a0 (bt a0 0) 1 128 191 (decide ((bt a0 0) ≤ 239))) else (spec_runeLen.j1 kj4 a0 (bt a0 0) 1 128 191 false)) = some r := by rw [if_neg (show ¬ (false = true) by decide)] at H; exact H
            clear H
            have H := H1
            clear H1
            have HC8 := Aside0.mk H
            clear H
            go_upto_region 5 with (fail)
            go_cut [17] (fun v17 wc => ∃ (kq : Nat) (x17_7 : Bool), v17 = .bool x17_7 ∧ Aside0 (spec_runeLen.j1 kq a0 (bt a0 0) 1 128 191 x17_7 = some r) ∧ Aside0 (kq ≤ kj4) ∧ Drawn0 w wc)
            case first =>
              have H := HC8.out
              clear HC8
              by_cases c9 : (bt a0 0) ≥ 224
              · rw [if_pos c9] at H
                have c9b0 : decide (224 ≤ (bt a0 0)) = true := decide_eq_true c9
                clear c9
                (first | rw [c9b0] | (simp only [i64_w, i32_w]; rw [c9b0]) | skip)
                have H' := Aside0.mk H
                clear H
                go_wp2
                go_meet
                case rel => exact ⟨_, (decide ((bt a0 0) ≤ 239)), (by first | rfl | (simp; done) | (simp [*]; done) | (simp [*, q_isEmpty]; done) | (simp [*]; exact q_gt _ _ (by assumption))), H', ⟨by have := HJ4.out; first | omega | exact Nat.le_refl _⟩, by repeat (first | exact Drawn0.refl _ | apply Drawn0.step)⟩
              · rw [if_neg c9] at H
                have c9b0 : decide (224 ≤ (bt a0 0)) = false := decide_eq_false c9
                clear c9
                (first | rw [c9b0] | (simp only [i64_w, i32_w]; rw [c9b0]) | skip)
                have H' := Aside0.mk H
                clear H
                go_wp2
                go_meet
                case rel => exact ⟨_, (false), (by first | rfl | (simp; done) | (simp [*]; done) | (simp [*, q_isEmpty]; done) | (simp [*]; exact q_gt _ _ (by assumption))), H', ⟨by have := HJ4.out; first | omega | exact Nat.le_refl _⟩, by repeat (first | exact Drawn0.refl _ | apply Drawn0.step)⟩
            case rest =>
              clear HC8
              try clear c2
              try clear c2b0
              try clear c2b1
              try clear p2
              try clear p3
              try clear q3
              try clear hx3
              try clear qi3
              try clear c4
              try clear c6
              try clear c6b0
              try clear c7
              try clear c9
              try clear c9b0
              try clear p2
              try clear p3
              try clear q3
              obtain ⟨kq, x17_7, rfl, HA, HJ7, ⟨mc7, rfl⟩⟩ := hcut
              cases kq with
              | zero => exact absurd HA.out (by simp [spec_runeLen.j1])
              | succ kj7 =>
                have H := HA.out
                clear HA
                simp only [spec_runeLen.j1] at H
                by_cases c10 : x17_7 = true
                · subst c10
                  have H1 : (if (bt a0 0) = 224 then (if (bt a0 0) = 237 then (spec_runeLen.j3 kj7 a0 3 160 159) else (spec_runeLen.j3 kj7 a0 3 160 191)) else (if (bt a0 0) = 237 then (spec_runeLen.j3 kj7 a0 3 128 159) else (spec_runeLen.j3 kj7 a0 3 128 191))) = some r := by rw [if_pos rfl] at H; exact H
                  clear H
                  have H := H1
                  clear H1
                  by_cases c11 : (bt a0 0) = 224
                  · rw [if_pos c11] at H
                    have c11b0 : ((bt a0 0) == 224) = true := beq_iff_eq.mpr c11
                    have c11b1 : ((bt a0 0) != 224) = false := bne_eq_false_iff_eq.mpr c11
                    clear c11
                    by_cases c12 : (bt a0 0) = 237
                    · rw [if_pos c12] at H
                      have c12b0 : ((bt a0 0) == 237) = true := beq_iff_eq.mpr c12
                      have c12b1 : ((bt a0 0) != 237) = false := bne_eq_false_iff_eq.mpr c12
                      clear c12
                      have H' := Aside0.mk H
                      clear H
                      go_wp2
                      go_meet
                      case rel => exact ⟨_, (3), (160), (159), (by first | rfl | (simp; done) | (simp [*]; done) | (simp [*, q_isEmpty]; done) | (simp [*]; exact q_gt _ _ (by assumption))), (by first | rfl | (simp; done) | (simp [*]; done) | (simp [*, q_isEmpty]; done) | (simp [*]; exact q_gt _ _ (by assumption))), (by first | rfl | (simp; done) | (simp [*]; done) | (simp [*, q_isEmpty]; done) | (simp [*]; exact q_gt _ _ (by assumption))), H', ⟨by have := HJ4.out; have := HJ7.out; first | omega | exact Nat.le_refl _⟩, by repeat (first | exact Drawn0.refl _ | apply Drawn0.step)⟩
                    · rw [if_neg c12] at H
                      have c12b0 : ((bt a0 0) == 237) = false := beq_eq_false_iff_ne.mpr c12
                      have c12b1 : ((bt a0 0) != 237) = true := bne_iff_ne.mpr c12
                      have H' := Aside0.mk H
                      clear H
                      go_wp2
                      go_meet
                      case rel => exact ⟨_, (3), (160), (191), (by first | rfl | (simp; done) | (simp [*]; done) | (simp [*, q_isEmpty]; done) | (simp [*]; exact q_gt _ _ (by assumption))), (by first | rfl | (simp; done) | (simp [*]; done) | (simp [*, q_isEmpty]; done) | (simp [*]; exact q_gt _ _ (by assumption))), (by first | rfl | (simp; done) | (simp [*]; done) | (simp [*, q_isEmpty]; done) | (simp [*]; exact q_gt _ _ (by assumption))), H', ⟨by have := HJ4.out; have := HJ7.out; first | omega | exact Nat.le_refl _⟩, by repeat (first | exact Drawn0.refl _ | apply Drawn0.step)⟩
                  · rw [if_neg c11] at H
                    have c11b0 : ((bt a0 0) == 224) = false := beq_eq_false_iff_ne.mpr c11
                    have c11b1 : ((bt a0 0) != 224) = true := bne_iff_ne.mpr c11
                    by_cases c13 : (bt a0 0) = 237
                    · rw [if_pos c13] at H
                      have c13b0 : ((bt a0 0) == 237) = true := beq_iff_eq.mpr c13
                      have c13b1 : ((bt a0 0) != 237) = false := bne_eq_false_iff_eq.mpr c13
                      clear c13
                      have H' := Aside0.mk H
                      clear H
                      go_wp2
                      go_meet
                      case rel => exact ⟨_, (3), (128), (159), (by first | rfl | (simp; done) | (simp [*]; done) | (simp [*, q_isEmpty]; done) | (simp [*]; exact q_gt _ _ (by assumption))), (by first | rfl | (simp; done) | (simp [*]; done) | (simp [*, q_isEmpty]; done) | (simp [*]; exact q_gt _ _ (by assumption))), (by first | rfl | (simp; done) | (simp [*]; done) | (simp [*, q_isEmpty]; done) | (simp [*]; exact q_gt _ _ (by assumption))), H', ⟨by have := HJ4.out; have := HJ7.out; first | omega | exact Nat.le_refl _⟩, by repeat (first | exact Drawn0.refl _ | apply Drawn0.step)⟩
                    · rw [if_neg c13] at H
                      have c13b0 : ((bt a0 0) == 237) = false := beq_eq_false_iff_ne.mpr c13
                      have c13b1 : ((bt a0 0) != 237) = true := bne_iff_ne.mpr c13
                      have H' := Aside0.mk H
                      clear H
                      go_wp2
                      go_meet
                      case rel => exact ⟨_, (3), (128), (191), (by first | rfl | (simp; done) | (simp [*]; done) | (simp [*, q_isEmpty]; done) | (simp [*]; exact q_gt _ _ (by assumption))), (by first | rfl | (simp; done) | (simp [*]; done) | (simp [*, q_isEmpty]; done) | (simp [*]; exact q_gt _ _ (by assumption))), (by first | rfl | (simp; done) | (simp [*]; done) | (simp [*, q_isEmpty]; done) | (simp [*]; exact q_gt _ _ (by assumption))), H', ⟨by have := HJ4.out; have := HJ7.out; first | omega | exact Nat.le_refl _⟩, by repeat (first | exact Drawn0.refl _ | apply Drawn0.step)⟩
                · replace c10 := Bool.eq_false_iff.mpr c10
                  subst c10
                  have H1 : (if (bt a0 0) ≥ 240 then (spec_runeLen.j2 kj7 a0 (bt a0 0) 1 128 191 (decide ((bt a0 0) ≤ 244))) else (spec_runeLen.j2 kj7 a0 (bt a0 0) 1 128 191 false)) = some r := by rw [if_neg (show ¬ (false = true) by decide)] at H; exact H
                  clear H
                  have H := H1
                  clear H1
                  have HC14 := Aside0.mk H
                  clear H
                  go_upto_region 11 with (fail)
                  go_cut [28] (fun v28 wc => ∃ (kq : Nat) (x28_13 : Bool), v28 = .bool x28_13 ∧ Aside0 (spec_runeLen.j2 kq a0 (bt a0 0) 1 128 191 x28_13 = some r) ∧ Aside0 (kq ≤ kj7) ∧ Drawn0 w wc)
                  case first =>
                    have H := HC14.out
                    clear HC14
                    by_cases c15 : (bt a0 0) ≥ 240
                    · rw [if_pos c15] at H
                      have c15b0 : decide (240 ≤ (bt a0 0)) = true := decide_eq_true c15
                      clear c15
                      (first | rw [c15b0] | (simp only [i64_w, i32_w]; rw [c15b0]) | skip)
                      have H' := Aside0.mk H
                      clear H
                      go_wp2
                      go_meet
                      case rel => exact ⟨_, (decide ((bt a0 0) ≤ 244)), (by first | rfl | (simp; done) | (simp [*]; done) | (simp [*, q_isEmpty]; done) | (simp [*]; exact q_gt _ _ (by assumption))), H', ⟨by have := HJ4.out; have := HJ7.out; first | omega | exact Nat.le_refl _⟩, by repeat (first | exact Drawn0.refl _ | apply Drawn0.step)⟩
                    · rw [if_neg c15] at H
                      have c15b0 : decide (240 ≤ (bt a0 0)) = false := decide_eq_false c15
                      clear c15
                      (first | rw [c15b0] | (simp only [i64_w, i32_w]; rw [c15b0]) | skip)
                      have H' := Aside0.mk H
                      clear H
                      go_wp2
                      go_meet
                      case rel => exact ⟨_, (false), (by first | rfl | (simp; done) | (simp [*]; done) | (simp [*, q_isEmpty]; done) | (simp [*]; exact q_gt _ _ (by assumption))), H', ⟨by have := HJ4.out; have := HJ7.out; first | omega | exact Nat.le_refl _⟩, by repeat (first | exact Drawn0.refl _ | apply Drawn0.step)⟩
                  case rest =>
                    clear HC14
                    try clear c1
                    try clear c2
                    try clear c2b0
                    try clear c2b1
                    try clear p2
                    try clear p3
                    try clear q3
                    try clear hx3
                    try clear qi3
                    try clear c4
                    try clear c6
                    try clear c6b0
                    try clear c7
                    try clear c9
                    try clear c9b0
                    try clear c10
                    try clear c11
                    try clear c11b0
                    try clear c11b1
                    try clear c12
                    try clear c12b0
                    try clear c12b1
                    try clear c13
                    try clear c13b0
                    try clear c13b1
                    try clear c15
                    try clear c15b0
                    try clear p2
                    try clear p3
                    try clear q3
                    obtain ⟨kq, x28_13, rfl, HA, HJ13, ⟨mc13, rfl⟩⟩ := hcut
                    cases kq with
                    | zero => exact absurd HA.out (by simp [spec_runeLen.j2])
                    | succ kj13 =>
                      have H := HA.out
                      clear HA
                      simp only [spec_runeLen.j2] at H
                      by_cases c16 : x28_13 = true
                      · subst c16
                        have H1 : (if (bt a0 0) = 240 then (if (bt a0 0) = 244 then (spec_runeLen.j3 kj13 a0 4 144 143) else (spec_runeLen.j3 kj13 a0 4 144 191)) else (if (bt a0 0) = 244 then (spec_runeLen.j3 kj13 a0 4 128 143) else (spec_runeLen.j3 kj13 a0 4 128 191))) = some r := by rw [if_pos rfl] at H; exact H
                        clear H
                        have H := H1
                        clear H1
                        by_cases c17 : (bt a0 0) = 240
                        · rw [if_pos c17] at H
                          have c17b0 : ((bt a0 0) == 240) = true := beq_iff_eq.mpr c17
                          have c17b1 : ((bt a0 0) != 240) = false := bne_eq_false_iff_eq.mpr c17
                          clear c17
                          by_cases c18 : (bt a0 0) = 244
                          · rw [if_pos c18] at H
                            have c18b0 : ((bt a0 0) == 244) = true := beq_iff_eq.mpr c18
                            have c18b1 : ((bt a0 0) != 244) = false := bne_eq_false_iff_eq.mpr c18
                            clear c18
                            have H' := Aside0.mk H
                            clear H
                            go_wp2
                            go_meet
                            case rel => exact ⟨_, (4), (144), (143), (by first | rfl | (simp; done) | (simp [*]; done) | (simp [*, q_isEmpty]; done) | (simp [*]; exact q_gt _ _ (by assumption))), (by first | rfl | (simp; done) | (simp [*]; done) | (simp [*, q_isEmpty]; done) | (simp [*]; exact q_gt _ _ (by assumption))), (by first | rfl | (simp; done) | (simp [*]; done) | (simp [*, q_isEmpty]; done) | (simp [*]; exact q_gt _ _ (by assumption))), H', ⟨by have := HJ4.out; have := HJ7.out; have := HJ13.out; first | omega | exact Nat.le_refl _⟩, by repeat (first | exact Drawn0.refl _ | apply Drawn0.step)⟩
                          · rw [if_neg c18] at H
                            have c18b0 : ((bt a0 0) == 244) = false := beq_eq_false_iff_ne.mpr c18
                            have c18b1 : ((bt a0 0) != 244) = true := bne_iff_ne.mpr c18
                            have H' := Aside0.mk H
                            clear H
                            go_wp2
                            go_meet
                            case rel => exact ⟨_, (4), (144), (191), (by first | rfl | (simp; done) | (simp [*]; done) | (simp [*, q_isEmpty]; done) | (simp [*]; exact q_gt _ _ (by assumption))), (by first | rfl | (simp; done) | (simp [*]; done) | (simp [*, q_isEmpty]; done) | (simp [*]; exact q_gt _ _ (by assumption))), (by first | rfl | (simp; done) | (simp [*]; done) | (simp [*, q_isEmpty]; done) | (simp [*]; exact q_gt _ _ (by assumption))), H', ⟨by have := HJ4.out; have := HJ7.out; have := HJ13.out; first | omega | exact Nat.le_refl _⟩, by repeat (first | exact Drawn0.refl _ | apply Drawn0.step)⟩
                        · rw [if_neg c17] at H
                          have c17b0 : ((bt a0 0) == 240) = false := beq_eq_false_iff_ne.mpr c17
                          have c17b1 : ((bt a0 0) != 240) = true := bne_iff_ne.mpr c17
                          by_cases c19 : (bt a0 0) = 244
                          · rw [if_pos c19] at H
                            have c19b0 : ((bt a0 0) == 244) = true := beq_iff_eq.mpr c19
                            have c19b1 : ((bt a0 0) != 244) = false := bne_eq_false_iff_eq.mpr c19
                            clear c19
                            have H' := Aside0.mk H
                            clear H
                            go_wp2
                            go_meet
                            case rel => exact ⟨_, (4), (128), (143), (by first | rfl | (simp; done) | (simp [*]; done) | (simp [*, q_isEmpty]; done) | (simp [*]; exact q_gt _ _ (by assumption))), (by first | rfl | (simp; done) | (simp [*]; done) | (simp [*, q_isEmpty]; done) | (simp [*]; exact q_gt _ _ (by assumption))), (by first | rfl | (simp; done) | (simp [*]; done) | (simp [*, q_isEmpty]; done) | (simp [*]; exact q_gt _ _ (by assumption))), H', ⟨by have := HJ4.out; have := HJ7.out; have := HJ13.out; first | omega | exact Nat.le_refl _⟩, by repeat (first | exact Drawn0.refl _ | apply Drawn0.step)⟩
                          · rw [if_neg c19] at H
                            have c19b0 : ((bt a0 0) == 244) = false := beq_eq_false_iff_ne.mpr c19
                            have c19b1 : ((bt a0 0) != 244) = true := bne_iff_ne.mpr c19
                            have H' := Aside0.mk H
                            clear H
                            go_wp2
                            go_meet
                            case rel => exact ⟨_, (4), (128), (191), (by first | rfl | (simp; done) | (simp [*]; done) | (simp [*, q_isEmpty]; done) | (simp [*]; exact q_gt _ _ (by assumption))), (by first | rfl | (simp; done) | (simp [*]; done) | (simp [*, q_isEmpty]; done) | (simp [*]; exact q_gt _ _ (by assumption))), (by first | rfl | (simp; done) | (simp [*]; done) | (simp [*, q_isEmpty]; done) | (simp [*]; exact q_gt _ _ (by assumption))), H', ⟨by have := HJ4.out; have := HJ7.out; have := HJ13.out; first | omega | exact Nat.le_refl _⟩, by repeat (first | exact Drawn0.refl _ | apply Drawn0.step)⟩
                      · replace c16 := Bool.eq_false_iff.mpr c16
                        subst c16
                        have H1 : (spec_runeLen.j3 kj13 a0 1 128 191) = some r := by rw [if_neg (show ¬ (false = true) by decide)] at H; exact H
                        clear H
                        have H := H1
                        clear H1
                        have H' := Aside0.mk H
                        clear H
                        go_wp2
                        go_meet
                        case rel => exact ⟨_, (1), (128), (191), (by first | rfl | (simp; done) | (simp [*]; done) | (simp [*, q_isEmpty]; done) | (simp [*]; exact q_gt _ _ (by assumption))), (by first | rfl | (simp; done) | (simp [*]; done) | (simp [*, q_isEmpty]; done) | (simp [*]; exact q_gt _ _ (by assumption))), (by first | rfl | (simp; done) | (simp [*]; done) | (simp [*, q_isEmpty]; done) | (simp [*]; exact q_gt _ _ (by assumption))), H', ⟨by have := HJ4.out; have := HJ7.out; have := HJ13.out; first | omega | exact Nat.le_refl _⟩, by repeat (first | exact Drawn0.refl _ | apply Drawn0.step)⟩
    case rest =>
      clear HC4
      try clear c1
      try clear c2
      try clear c2b0
      try clear c2b1
      try clear p2
      try clear p3
      try clear q3
      try clear hx3
      try clear qi3
      try clear c4
      try clear c6
      try clear c6b0
      try clear c7
      try clear c9
      try clear c9b0
      try clear c10
      try clear c11
      try clear c11b0
      try clear c11b1
      try clear c12
      try clear c12b0
      try clear c12b1
      try clear c13
      try clear c13b0
      try clear c13b1
      try clear c15
      try clear c15b0
      try clear c16
      try clear c17
      try clear c17b0
      try clear c17b1
      try clear c18
      try clear c18b0
      try clear c18b1
      try clear c19
      try clear c19b0
      try clear c19b1
      try clear p2
      try clear p3
      try clear q3
      obtain ⟨kq, x4_3, x5_3, x6_3, rfl, rfl, rfl, HA, HJ3, ⟨mc3, rfl⟩⟩ := hcut
      cases kq with
      | zero => exact absurd HA.out (by simp [spec_runeLen.j3])
      | succ kj3 =>
        have H := HA.out
        clear HA
        simp only [spec_runeLen.j3] at H
        by_cases c20 : x4_3 > (a0.size : Int)
        · rw [if_pos c20] at H
          have c20b0 : decide ((a0.size : Int) < x4_3) = true := decide_eq_true c20
          clear c20
          obtain rfl := Option.some.inj H
          go_wp2
          go_ret
          exact ⟨by first | rfl | (simp; done) | (simp [*]; done) | (simp [*, q_isEmpty]; done) | (simp [*]; exact q_gt _ _ (by assumption)), by repeat (first | exact Drawn0.refl _ | apply Drawn0.step)⟩
        · rw [if_neg c20] at H
          have c20b0 : decide ((a0.size : Int) < x4_3) = false := decide_eq_false c20
          clear c20
          have H' := Aside0.mk H
          clear H
          go_wp2
          go_loopg [5, 6, 7] kj3 (fun kq v5 v6 v7 w' => ∃ (x5_2 : Int) (x6_2 : Int) (x7_2 : Int), v5 = .int .u8 x5_2 ∧ v6 = .int .u8 x6_2 ∧ v7 = .int .i64 x7_2 ∧ Aside0 (spec_runeLen.l0 kq a0 x4_3 x5_2 x6_2 x7_2 = some r) ∧ Aside0 (kq ≤ kj3) ∧ Drawn0 w w')
          case atStart => exact ⟨(x5_3), (x6_3), (1), (by first | rfl | (simp; done) | (simp [*]; done) | (simp [*, q_isEmpty]; done) | (simp [*]; exact q_gt _ _ (by assumption))), (by first | rfl | (simp; done) | (simp [*]; done) | (simp [*, q_isEmpty]; done) | (simp [*]; exact q_gt _ _ (by assumption))), (by first | rfl | (simp; done) | (simp [*]; done) | (simp [*, q_isEmpty]; done) | (simp [*]; exact q_gt _ _ (by assumption))), H', ⟨Nat.le_refl _⟩, by repeat (first | exact Drawn0.refl _ | apply Drawn0.step)⟩
          case round =>
            clear H'
            try clear c1
            try clear c2
            try clear c2b0
            try clear c2b1
            try clear p2
            try clear c3
            try clear p3
            try clear q3
            try clear hx3
            try clear qi3
            try clear c4
            try clear c6
            try clear c6b0
            try clear c7
            try clear c9
            try clear c9b0
            try clear c10
            try clear c11
            try clear c11b0
            try clear c11b1
            try clear c12
            try clear c12b0
            try clear c12b1
            try clear c13
            try clear c13b0
            try clear c13b1
            try clear c15
            try clear c15b0
            try clear c16
            try clear c17
            try clear c17b0
            try clear c17b1
            try clear c18
            try clear c18b0
            try clear c18b1
            try clear c19
            try clear c19b0
            try clear c19b1
            try clear c20
            try clear c20b0
            try clear p2
            try clear p3
            try clear q3
            obtain ⟨x5_2, x6_2, x7_2, rfl, rfl, rfl, HA, HK2, ⟨m2, rfl⟩⟩ := hrel
            cases gk with
            | zero => exact absurd HA.out (by simp [spec_runeLen.l0])
            | succ k2 =>
              have H := HA.out
              clear HA
              simp only [spec_runeLen.l0] at H
              by_cases c21 : x7_2 < x4_3
              · rw [if_pos c21] at H
                have c21b0 : decide (x7_2 < x4_3) = true := decide_eq_true c21
                clear c21
                by_cases c22 : 0 ≤ x7_2
                · rw [if_pos c22] at H
                  have c22b0 : decide (0 ≤ x7_2) = true := decide_eq_true c22
                  clear c22
                  by_cases c23 : x7_2 < (a0.size : Int)
                  · rw [if_pos c23] at H
                    have c23b0 : decide (x7_2 < (a0.size : Int)) = true := decide_eq_true c23
                    clear c23
                    by_cases c25 : (bt a0 x7_2) < x5_2
                    · rw [if_pos c25] at H
                      have c25b0 : decide ((bt a0 x7_2) < x5_2) = true := decide_eq_true c25
                      clear c25
                      obtain rfl := Option.some.inj H
                      have p24 : 0 ≤ (x7_2 : Int) := of_decide_eq_true (by first | (with_reducible assumption) | assumption)
                      have q24 : x7_2 < (a0.size : Int) := of_decide_eq_true (by first | (with_reducible assumption) | assumption)
                      have hx24 := bt_at a0 x7_2
                      replace p24 := eq_true p24
                      replace q24 := eq_true q24
                      go_wp2
                      go_ret
                      exact ⟨by first | rfl | (simp; done) | (simp [*]; done) | (simp [*, q_isEmpty]; done) | (simp [*]; exact q_gt _ _ (by assumption)), by repeat (first | exact Drawn0.refl _ | apply Drawn0.step)⟩
                    · rw [if_neg c25] at H
                      have c25b0 : decide ((bt a0 x7_2) < x5_2) = false := decide_eq_false c25
                      clear c25
                      by_cases c27 : (bt a0 x7_2) > x6_2
                      · rw [if_pos c27] at H
                        have c27b0 : decide (x6_2 < (bt a0 x7_2)) = true := decide_eq_true c27
                        clear c27
                        obtain rfl := Option.some.inj H
                        have p24 : 0 ≤ (x7_2 : Int) := of_decide_eq_true (by first | (with_reducible assumption) | assumption)
                        have q24 : x7_2 < (a0.size : Int) := of_decide_eq_true (by first | (with_reducible assumption) | assumption)
                        have hx24 := bt_at a0 x7_2
                        replace p24 := eq_true p24
                        replace q24 := eq_true q24
                        have p26 : 0 ≤ (x7_2 : Int) := of_decide_eq_true (by first | (with_reducible assumption) | assumption)
                        have q26 : x7_2 < (a0.size : Int) := of_decide_eq_true (by first | (with_reducible assumption) | assumption)
                        have hx26 := bt_at a0 x7_2
                        replace p26 := eq_true p26
                        replace q26 := eq_true q26
                        go_wp2
                        go_ret
                        exact ⟨by first | rfl | (simp; done) | (simp [*]; done) | (simp [*, q_isEmpty]; done) | (simp [*]; exact q_gt _ _ (by assumption)), by repeat (first | exact Drawn0.refl _ | apply Drawn0.step)⟩
                      · rw [if_neg c27] at H
                        have c27b0 : decide (x6_2 < (bt a0 x7_2)) = false := decide_eq_false c27
                        clear c27
                        have H' := Aside0.mk H
                        clear H
                        have p24 : 0 ≤ (x7_2 : Int) := of_decide_eq_true (by first | (with_reducible assumption) | assumption)
                        have q24 : x7_2 < (a0.size : Int) := of_decide_eq_true (by first | (with_reducible assumption) | assumption)
                        have hx24 := bt_at a0 x7_2
                        replace p24 := eq_true p24
                        replace q24 := eq_true q24
                        have p26 : 0 ≤ (x7_2 : Int) := of_decide_eq_true (by first | (with_reducible assumption) | assumption)
                        have q26 : x7_2 < (a0.size : Int) := of_decide_eq_true (by first | (with_reducible assumption) | assumption)
                        have hx26 := bt_at a0 x7_2
                        replace p26 := eq_true p26
                        replace q26 := eq_true q26
                        go_wp2
                        go_roundg k2
                        case measure => have := HJ3.out; have := HK2.out; omega
                        case rel => exact ⟨(128), (191), (wrap64 (x7_2 + 1)), (by first | rfl | (simp; done) | (simp [*]; done) | (simp [*, q_isEmpty]; done) | (simp [*]; exact q_gt _ _ (by assumption))), (by first | rfl | (simp; done) | (simp [*]; done) | (simp [*, q_isEmpty]; done) | (simp [*]; exact q_gt _ _ (by assumption))), (by first | rfl | (simp; done) | (simp [*]; done) | (simp [*, q_isEmpty]; done) | (simp [*]; exact q_gt _ _ (by assumption))), H', ⟨by have := HJ3.out; have := HK2.out; omega⟩, by repeat (first | exact Drawn0.refl _ | apply Drawn0.step)⟩
                  · rw [if_neg c23] at H
                    exact absurd H (by simp)
                · rw [if_neg c22] at H
                  exact absurd H (by simp)
              · rw [if_neg c21] at H
                have c21b0 : decide (x7_2 < x4_3) = false := decide_eq_false c21
                clear c21
                obtain rfl := Option.some.inj H
                go_wp2
                go_ret
                exact ⟨by first | rfl | (simp; done) | (simp [*]; done) | (simp [*, q_isEmpty]; done) | (simp [*]; exact q_gt _ _ (by assumption)), by repeat (first | exact Drawn0.refl _ | apply Drawn0.step)⟩
  · rw [if_neg c2] at H
    exact absurd H (by simp)

end Go.Proofs.YtnnhehlieakedaaGreatDoor.Q
namespace Go.Proofs.YtnnhehlieakedaaGreatDoor.Q
open Go.RowKit Go.Proofs.YtnnhehlieakedaaGreatDoorW.PrintWords Go.Proofs.YtnnhehlieakedaaGreatDoorW.PrintLast Go.Proofs.YtnnhehlieakedaaGreatDoorW.PrintMore
attribute [local go_sem] max2_int min2_int max_two min_two max_three min_three max_four min_four   -- for this text's walks alone
set_option linter.unusedVariables false
set_option linter.unusedSimpArgs false

/-! ### spec_Runes: function 47 -/
def spec_Runes.l0 : Nat → ByteArray → Int → Option (Int)
  | 0, _, _ => none
  | k + 1, x0, x3 => if (x0.size : Int) > 0 then ((spec_runeLen.f k x0).bind fun t120 => (if 0 ≤ t120 then (if t120 ≤ (x0.size : Int) then (spec_Runes.l0 k (x0.extract (t120 : Int).toNat x0.size) (wrap64 (x3 + 1))) else (none)) else (none))) else (some x3)
def spec_Runes.f (k : Nat) (a0 : ByteArray) : Option (Int) := spec_Runes.l0 k a0 0
theorem spec_Runes.mono_l : ∀ k, (∀ y0 y1, LeO (spec_Runes.l0 k y0 y1) (spec_Runes.l0 (k + 1) y0 y1))
  | 0 => fun _ _ r h => by simp [spec_Runes.l0] at h
  | k + 1 => by
    have ih0 := spec_Runes.mono_l k
    · intro y0 y1
      unfold spec_Runes.l0
      repeat' first
      | (with_reducible exact ih0 _ _)
      | (with_reducible exact spec_runeLen.mono _ _)
      | (with_reducible exact LeO.refl _)
      | (with_reducible exact LeO.none _)
      | (with_reducible refine LeO.ite ?_ ?_)
      | (with_reducible refine LeO.bind ?_ (fun _ => ?_))
      | exact ih0 _ _
      | exact spec_runeLen.mono _ _
      | exact LeO.none _
      | refine LeO.ite ?_ ?_
      | refine LeO.bind ?_ (fun _ => ?_)
theorem spec_Runes.mono : ∀ a0 k, LeO (spec_Runes.f k a0) (spec_Runes.f (k + 1) a0) := by
  intro a0 k
  have ih0 := spec_Runes.mono_l k
  unfold spec_Runes.f
  repeat' first
      | (with_reducible exact ih0 _ _)
      | (with_reducible exact spec_runeLen.mono _ _)
      | (with_reducible exact LeO.refl _)
      | (with_reducible exact LeO.none _)
      | (with_reducible refine LeO.ite ?_ ?_)
      | (with_reducible refine LeO.bind ?_ (fun _ => ?_))
      | exact ih0 _ _
      | exact spec_runeLen.mono _ _
      | exact LeO.none _
      | refine LeO.ite ?_ ?_
      | refine LeO.bind ?_ (fun _ => ?_)
set_option maxHeartbeats 8000000 in
set_option maxRecDepth 100000 in
theorem spec_Runes.calls (k : Nat) (a0 : ByteArray) (r : Int) (w : World) (h : spec_Runes.f k a0 = some r) :
    Calls Tryz.prog 47 #[.string a0] w fun e w' => e = .returned (.int .i64 r) ∧ Drawn0 w w' := by
  have H : (spec_Runes.l0 k a0 0) = some r := h
  clear h
  have H' := Aside0.mk H
  clear H
  go_enter Tryz.func47, Tryz.ntmps47
  go_wp2
  go_loopg [0, 3] k (fun kq v0 v3 w' => ∃ (x0_1 : ByteArray) (x3_1 : Int), v0 = .string x0_1 ∧ v3 = .int .i64 x3_1 ∧ Aside0 (spec_Runes.l0 kq x0_1 x3_1 = some r) ∧ Aside0 (kq ≤ k) ∧ Drawn0 w w')
  case atStart => exact ⟨(a0), (0), (by first | rfl | (simp; done) | (simp [*]; done) | (simp [*, q_isEmpty]; done) | (simp [*]; exact q_gt _ _ (by assumption))), (by first | rfl | (simp; done) | (simp [*]; done) | (simp [*, q_isEmpty]; done) | (simp [*]; exact q_gt _ _ (by assumption))), H', ⟨Nat.le_refl _⟩, by repeat (first | exact Drawn0.refl _ | apply Drawn0.step)⟩
  case round =>
    clear H'
    obtain ⟨x0_1, x3_1, rfl, rfl, HA, HK1, ⟨m1, rfl⟩⟩ := hrel
    cases gk with
    | zero => exact absurd HA.out (by simp [spec_Runes.l0])
    | succ k1 =>
      have H := HA.out
      clear HA
      simp only [spec_Runes.l0] at H
      by_cases c2 : (x0_1.size : Int) > 0
      · rw [if_pos c2] at H
        have c2b0 : decide (0 < (x0_1.size : Int)) = true := decide_eq_true c2
        have c2b1 : decide (0 < x0_1.size) = true := decide_eq_true (by omega)
        clear c2
        replace H := Option.bind_eq_some_iff.mp H
        obtain ⟨t120, A30, H⟩ := H
        replace H : (if 0 ≤ t120 then (if t120 ≤ (x0_1.size : Int) then (spec_Runes.l0 k1 (x0_1.extract (t120 : Int).toNat x0_1.size) (wrap64 (x3_1 + 1))) else (none)) else (none)) = some r := H
        have A3 := Aside0.mk A30
        clear A30
        by_cases c4 : 0 ≤ t120
        · rw [if_pos c4] at H
          have c4b0 := eq_true c4
          have c4b1 : decide (0 ≤ t120) = true := decide_eq_true c4
          clear c4
          by_cases c5 : t120 ≤ (x0_1.size : Int)
          · rw [if_pos c5] at H
            have c5b0 := eq_true c5
            have c5b1 : decide (t120 ≤ (x0_1.size : Int)) = true := decide_eq_true c5
            clear c5
            have H' := Aside0.mk H
            clear H
            go_wp2_with (first | ((with_reducible refine gate_callee (f := 71) rfl ?_); refine goesL_ (some 9) rfl rfl Tryz.func71 (by kernel_rfl) rfl #[.string x0_1] rfl (by (try simp only [List.map_toArray, List.map_cons, List.map_nil]); first | done | rfl | (simp only [List.length_drop, List.length_take]; rfl)) ?_; (with_reducible refine (spec_runeLen.calls k1 x0_1 t120 _ A3.out).mono ?_); rintro e w' ⟨rfl, ⟨nd, rfl⟩⟩; refine ⟨_, rfl, ?_⟩))
            go_roundg k1
            case measure => have := HK1.out; omega
            case rel => exact ⟨(x0_1.extract (t120 : Int).toNat x0_1.size), (wrap64 (x3_1 + 1)), (by first | rfl | (simp; done) | (simp [*]; done) | (simp [*, q_isEmpty]; done) | (simp [*]; exact q_gt _ _ (by assumption))), (by first | rfl | (simp; done) | (simp [*]; done) | (simp [*, q_isEmpty]; done) | (simp [*]; exact q_gt _ _ (by assumption))), H', ⟨by have := HK1.out; omega⟩, by repeat (first | exact Drawn0.refl _ | apply Drawn0.step)⟩
          · rw [if_neg c5] at H
            exact absurd H (by simp)
        · rw [if_neg c4] at H
          exact absurd H (by simp)
      · rw [if_neg c2] at H
        have c2b0 : decide (0 < (x0_1.size : Int)) = false := decide_eq_false c2
        have c2b1 : decide (0 < x0_1.size) = false := decide_eq_false (by omega)
        clear c2
        obtain rfl := Option.some.inj H
        go_wp2
        go_ret
        exact ⟨by first | rfl | (simp; done) | (simp [*]; done) | (simp [*, q_isEmpty]; done) | (simp [*]; exact q_gt _ _ (by assumption)), by repeat (first | exact Drawn0.refl _ | apply Drawn0.step)⟩

end Go.Proofs.YtnnhehlieakedaaGreatDoor.Q
namespace Go.Proofs.YtnnhehlieakedaaGreatDoor.Q
open Go.RowKit Go.Proofs.YtnnhehlieakedaaGreatDoorW.PrintWords Go.Proofs.YtnnhehlieakedaaGreatDoorW.PrintLast Go.Proofs.YtnnhehlieakedaaGreatDoorW.PrintMore
attribute [local go_sem] max2_int min2_int max_two min_two max_three min_three max_four min_four   -- for this text's walks alone
set_option linter.unusedVariables false
set_option linter.unusedSimpArgs false

/-! ### spec_Valid: function 67 -/
def spec_Valid.l0 : Nat → ByteArray → Option (Bool)
  | 0, _ => none
  | k + 1, x0 => if (x0.size : Int) > 0 then ((spec_runeLen.f k x0).bind fun t108 => (if t108 = 1 then (if 0 < (x0.size : Int) then (if (bt x0 0) ≥ 128 then (some false) else (if 0 ≤ t108 then (if t108 ≤ (x0.size : Int) then (spec_Valid.l0 k (x0.extract (t108 : Int).toNat x0.size)) else (none)) else (none))) else (none)) else (if 0 ≤ t108 then (if t108 ≤ (x0.size : Int) then (spec_Valid.l0 k (x0.extract (t108 : Int).toNat x0.size)) else (none)) else (none)))) else (some true)
def spec_Valid.f (k : Nat) (a0 : ByteArray) : Option (Bool) := spec_Valid.l0 k a0
theorem spec_Valid.mono_l : ∀ k, (∀ y0, LeO (spec_Valid.l0 k y0) (spec_Valid.l0 (k + 1) y0))
  | 0 => fun _ r h => by simp [spec_Valid.l0] at h
  | k + 1 => by
    have ih0 := spec_Valid.mono_l k
    · intro y0
      unfold spec_Valid.l0
      repeat' first
      | (with_reducible exact ih0 _)
      | (with_reducible exact spec_runeLen.mono _ _)
      | (with_reducible exact LeO.refl _)
      | (with_reducible exact LeO.none _)
      | (with_reducible refine LeO.ite ?_ ?_)
      | (with_reducible refine LeO.bind ?_ (fun _ => ?_))
      | exact ih0 _
      | exact spec_runeLen.mono _ _
      | exact LeO.none _
      | refine LeO.ite ?_ ?_
      | refine LeO.bind ?_ (fun _ => ?_)
theorem spec_Valid.mono : ∀ a0 k, LeO (spec_Valid.f k a0) (spec_Valid.f (k + 1) a0) := by
  intro a0 k
  have ih0 := spec_Valid.mono_l k
  unfold spec_Valid.f
  repeat' first
      | (with_reducible exact ih0 _)
      | (with_reducible exact spec_runeLen.mono _ _)
      | (with_reducible exact LeO.refl _)
      | (with_reducible exact LeO.none _)
      | (with_reducible refine LeO.ite ?_ ?_)
      | (with_reducible refine LeO.bind ?_ (fun _ => ?_))
      | exact ih0 _
      | exact spec_runeLen.mono _ _
      | exact LeO.none _
      | refine LeO.ite ?_ ?_
      | refine LeO.bind ?_ (fun _ => ?_)
set_option maxHeartbeats 8000000 in
set_option maxRecDepth 100000 in
theorem spec_Valid.calls (k : Nat) (a0 : ByteArray) (r : Bool) (w : World) (h : spec_Valid.f k a0 = some r) :
    Calls Tryz.prog 67 #[.string a0] w fun e w' => e = .returned (.bool r) ∧ Drawn0 w w' := by
  have H : (spec_Valid.l0 k a0) = some r := h
  clear h
  have H' := Aside0.mk H
  clear H
  go_enter Tryz.func67, Tryz.ntmps67
  go_wp2
  go_loopg [0] k (fun kq v0 w' => ∃ (x0_1 : ByteArray), v0 = .string x0_1 ∧ Aside0 (spec_Valid.l0 kq x0_1 = some r) ∧ Aside0 (kq ≤ k) ∧ Drawn0 w w')
  case atStart => exact ⟨(a0), (by first | rfl | (simp; done) | (simp [*]; done) | (simp [*, q_isEmpty]; done) | (simp [*]; exact q_gt _ _ (by assumption))), H', ⟨Nat.le_refl _⟩, by repeat (first | exact Drawn0.refl _ | apply Drawn0.step)⟩
  case round =>
    clear H'
    obtain ⟨x0_1, rfl, HA, HK1, ⟨m1, rfl⟩⟩ := hrel
    cases gk with
    | zero => exact absurd HA.out (by simp [spec_Valid.l0])
    | succ k1 =>
      have H := HA.out
      clear HA
      simp only [spec_Valid.l0] at H
      by_cases c2 : (x0_1.size : Int) > 0
      · rw [if_pos c2] at H
        have c2b0 : decide (0 < (x0_1.size : Int)) = true := decide_eq_true c2
        have c2b1 : decide (0 < x0_1.size) = true := decide_eq_true (by omega)
        clear c2
        replace H := Option.bind_eq_some_iff.mp H
        obtain ⟨t108, A30, H⟩ := H
        replace H : (if t108 = 1 then (if 0 < (x0_1.size : Int) then (if (bt x0_1 0) ≥ 128 then (some false) else (if 0 ≤ t108 then (if t108 ≤ (x0_1.size : Int) then (spec_Valid.l0 k1 (x0_1.extract (t108 : Int).toNat x0_1.size)) else (none)) else (none))) else (none)) else (if 0 ≤ t108 then (if t108 ≤ (x0_1.size : Int) then (spec_Valid.l0 k1 (x0_1.extract (t108 : Int).toNat x0_1.size)) else (none)) else (none))) = some r := H
        have A3 := Aside0.mk A30
        clear A30
        by_cases c4 : t108 = 1
        · rw [if_pos c4] at H
          have c4b0 : (t108 == 1) = true := beq_iff_eq.mpr c4
          have c4b1 : (t108 != 1) = false := bne_eq_false_iff_eq.mpr c4
          clear c4
          by_cases c5 : 0 < (x0_1.size : Int)
          · rw [if_pos c5] at H
            have c5b0 : decide (0 < (x0_1.size : Int)) = true := decide_eq_true c5
            have c5b1 : decide (0 < x0_1.size) = true := decide_eq_true (by omega)
            clear c5
            by_cases c7 : (bt x0_1 0) ≥ 128
            · rw [if_pos c7] at H
              have c7b0 : decide (128 ≤ (bt x0_1 0)) = true := decide_eq_true c7
              clear c7
              obtain rfl := Option.some.inj H
              go_wp2_with (first | ((with_reducible refine gate_callee (f := 71) rfl ?_); refine goesL_ (some 8) rfl rfl Tryz.func71 (by kernel_rfl) rfl #[.string x0_1] rfl (by (try simp only [List.map_toArray, List.map_cons, List.map_nil]); first | done | rfl | (simp only [List.length_drop, List.length_take]; rfl)) ?_; (with_reducible refine (spec_runeLen.calls k1 x0_1 t108 _ A3.out).mono ?_); rintro e w' ⟨rfl, ⟨nd, rfl⟩⟩; refine ⟨_, rfl, ?_⟩; have p6 : 0 ≤ (0 : Int) := (by omega); have q6 : 0 < x0_1.size := (by have : (0 : Int) < (x0_1.size : Int) := of_decide_eq_true (by first | (with_reducible assumption) | assumption); omega); have hx6 : ∀ h : 0 < x0_1.size, ((x0_1[0]'h).toNat : Int) = bt x0_1 0 := bt_at x0_1 0; clear p6; have qi6 : (0 < (x0_1.size : Int)) = True := eq_true (of_decide_eq_true (by first | (with_reducible assumption) | assumption)); replace q6 := eq_true q6))
              go_ret
              exact ⟨by first | rfl | (simp; done) | (simp [*]; done) | (simp [*, q_isEmpty]; done) | (simp [*]; exact q_gt _ _ (by assumption)), by repeat (first | exact Drawn0.refl _ | apply Drawn0.step)⟩
            · rw [if_neg c7] at H
              have c7b0 : decide (128 ≤ (bt x0_1 0)) = false := decide_eq_false c7
              clear c7
              by_cases c8 : 0 ≤ t108
              · rw [if_pos c8] at H
                have c8b0 := eq_true c8
                have c8b1 : decide (0 ≤ t108) = true := decide_eq_true c8
                clear c8
                by_cases c9 : t108 ≤ (x0_1.size : Int)
                · rw [if_pos c9] at H
                  have c9b0 := eq_true c9
                  have c9b1 : decide (t108 ≤ (x0_1.size : Int)) = true := decide_eq_true c9
                  clear c9
                  have H' := Aside0.mk H
                  clear H
                  go_wp2_with (first | ((with_reducible refine gate_callee (f := 71) rfl ?_); refine goesL_ (some 8) rfl rfl Tryz.func71 (by kernel_rfl) rfl #[.string x0_1] rfl (by (try simp only [List.map_toArray, List.map_cons, List.map_nil]); first | done | rfl | (simp only [List.length_drop, List.length_take]; rfl)) ?_; (with_reducible refine (spec_runeLen.calls k1 x0_1 t108 _ A3.out).mono ?_); rintro e w' ⟨rfl, ⟨nd, rfl⟩⟩; refine ⟨_, rfl, ?_⟩; have p6 : 0 ≤ (0 : Int) := (by omega); have q6 : 0 < x0_1.size := (by have : (0 : Int) < (x0_1.size : Int) := of_decide_eq_true (by first | (with_reducible assumption) | assumption); omega); have hx6 : ∀ h : 0 < x0_1.size, ((x0_1[0]'h).toNat : Int) = bt x0_1 0 := bt_at x0_1 0; clear p6; have qi6 : (0 < (x0_1.size : Int)) = True := eq_true (of_decide_eq_true (by first | (with_reducible assumption) | assumption)); replace q6 := eq_true q6))
                  go_roundg k1
                  case measure => have := HK1.out; omega
                  case rel => exact ⟨(x0_1.extract (t108 : Int).toNat x0_1.size), (by first | rfl | (simp; done) | (simp [*]; done) | (simp [*, q_isEmpty]; done) | (simp [*]; exact q_gt _ _ (by assumption))), H', ⟨by have := HK1.out; omega⟩, by repeat (first | exact Drawn0.refl _ | apply Drawn0.step)⟩
                · rw [if_neg c9] at H
                  exact absurd H (by simp)
              · rw [if_neg c8] at H
                exact absurd H (by simp)
          · rw [if_neg c5] at H
            exact absurd H (by simp)
        · rw [if_neg c4] at H
          have c4b0 : (t108 == 1) = false := beq_eq_false_iff_ne.mpr c4
          have c4b1 : (t108 != 1) = true := bne_iff_ne.mpr c4
          by_cases c10 : 0 ≤ t108
          · rw [if_pos c10] at H
            have c10b0 := eq_true c10
            have c10b1 : decide (0 ≤ t108) = true := decide_eq_true c10
            clear c10
            by_cases c11 : t108 ≤ (x0_1.size : Int)
            · rw [if_pos c11] at H
              have c11b0 := eq_true c11
              have c11b1 : decide (t108 ≤ (x0_1.size : Int)) = true := decide_eq_true c11
              clear c11
              have H' := Aside0.mk H
              clear H
              go_wp2_with (first | ((with_reducible refine gate_callee (f := 71) rfl ?_); refine goesL_ (some 8) rfl rfl Tryz.func71 (by kernel_rfl) rfl #[.string x0_1] rfl (by (try simp only [List.map_toArray, List.map_cons, List.map_nil]); first | done | rfl | (simp only [List.length_drop, List.length_take]; rfl)) ?_; (with_reducible refine (spec_runeLen.calls k1 x0_1 t108 _ A3.out).mono ?_); rintro e w' ⟨rfl, ⟨nd, rfl⟩⟩; refine ⟨_, rfl, ?_⟩))
              go_roundg k1
              case measure => have := HK1.out; omega
              case rel => exact ⟨(x0_1.extract (t108 : Int).toNat x0_1.size), (by first | rfl | (simp; done) | (simp [*]; done) | (simp [*, q_isEmpty]; done) | (simp [*]; exact q_gt _ _ (by assumption))), H', ⟨by have := HK1.out; omega⟩, by repeat (first | exact Drawn0.refl _ | apply Drawn0.step)⟩
            · rw [if_neg c11] at H
              exact absurd H (by simp)
          · rw [if_neg c10] at H
            exact absurd H (by simp)
      · rw [if_neg c2] at H
        have c2b0 : decide (0 < (x0_1.size : Int)) = false := decide_eq_false c2
        have c2b1 : decide (0 < x0_1.size) = false := decide_eq_false (by omega)
        clear c2
        obtain rfl := Option.some.inj H
        go_wp2
        go_ret
        exact ⟨by first | rfl | (simp; done) | (simp [*]; done) | (simp [*, q_isEmpty]; done) | (simp [*]; exact q_gt _ _ (by assumption)), by repeat (first | exact Drawn0.refl _ | apply Drawn0.step)⟩

end Go.Proofs.YtnnhehlieakedaaGreatDoor.Q
namespace Go.Proofs.YtnnhehlieakedaaGreatDoor.Q
open Go.RowKit Go.Proofs.YtnnhehlieakedaaGreatDoorW.PrintWords Go.Proofs.YtnnhehlieakedaaGreatDoorW.PrintLast Go.Proofs.YtnnhehlieakedaaGreatDoorW.PrintMore
attribute [local go_sem] max2_int min2_int max_two min_two max_three min_three max_four min_four   -- for this text's walks alone
set_option linter.unusedVariables false
set_option linter.unusedSimpArgs false

/-! ### spec_wideBlank: function 68 -/
def spec_wideBlank.l0 : Nat → ByteArray → List ByteArray → Int → Int → Option (Bool)
  | 0, _, _, _, _ => none
  | k + 1, x0, x5, x6, x7 => if x7 < x6 then (if 0 ≤ x7 then (if x7 < (x5.length : Int) then ((spec_Begins.f x0 (rdOf ByteArray.empty x5 x7)).bind fun t113 => (if t113 = true then (some true) else (spec_wideBlank.l0 k x0 x5 x6 (wrap64 (x7 + 1))))) else (none)) else (none)) else (if (x0.size : Int) > 2 then (if 0 < (x0.size : Int) then (if (bt x0 0) = 226 then (if 1 < (x0.size : Int) then (if (bt x0 1) = 128 then (if 2 < (x0.size : Int) then (if (bt x0 2) ≥ 128 then (some (decide ((bt x0 2) ≤ 138))) else (some false)) else (none)) else (some false)) else (none)) else (some false)) else (none)) else (some false))
def spec_wideBlank.f (k : Nat) (a0 : ByteArray) : Option (Bool) := (some (([(⟨#[194, 133]⟩ : ByteArray), (⟨#[194, 160]⟩ : ByteArray), (⟨#[225, 154, 128]⟩ : ByteArray), (⟨#[226, 128, 168]⟩ : ByteArray), (⟨#[226, 128, 169]⟩ : ByteArray), (⟨#[226, 128, 175]⟩ : ByteArray), (⟨#[226, 129, 159]⟩ : ByteArray), (⟨#[227, 128, 128]⟩ : ByteArray)] : List ByteArray) : List ByteArray)).bind fun y109 => (spec_wideBlank.l0 k a0 y109 (y109.length : Int) 0)
theorem spec_wideBlank.mono_l : ∀ k, (∀ y0 y1 y2 y3, LeO (spec_wideBlank.l0 k y0 y1 y2 y3) (spec_wideBlank.l0 (k + 1) y0 y1 y2 y3))
  | 0 => fun _ _ _ _ r h => by simp [spec_wideBlank.l0] at h
  | k + 1 => by
    have ih0 := spec_wideBlank.mono_l k
    · intro y0 y1 y2 y3
      unfold spec_wideBlank.l0
      repeat' first
      | (with_reducible exact ih0 _ _ _ _)
      | (with_reducible exact LeO.refl _)
      | (with_reducible exact LeO.none _)
      | (with_reducible refine LeO.ite ?_ ?_)
      | (with_reducible refine LeO.bind ?_ (fun _ => ?_))
      | exact ih0 _ _ _ _
      | exact LeO.none _
      | refine LeO.ite ?_ ?_
      | refine LeO.bind ?_ (fun _ => ?_)
theorem spec_wideBlank.mono : ∀ a0 k, LeO (spec_wideBlank.f k a0) (spec_wideBlank.f (k + 1) a0) := by
  intro a0 k
  have ih0 := spec_wideBlank.mono_l k
  unfold spec_wideBlank.f
  repeat' first
      | (with_reducible exact ih0 _ _ _ _)
      | (with_reducible exact LeO.refl _)
      | (with_reducible exact LeO.none _)
      | (with_reducible refine LeO.ite ?_ ?_)
      | (with_reducible refine LeO.bind ?_ (fun _ => ?_))
      | exact ih0 _ _ _ _
      | exact LeO.none _
      | refine LeO.ite ?_ ?_
      | refine LeO.bind ?_ (fun _ => ?_)
set_option maxHeartbeats 8000000 in
set_option maxRecDepth 100000 in
theorem spec_wideBlank.calls (k : Nat) (a0 : ByteArray) (r : Bool) (w : World) (h : spec_wideBlank.f k a0 = some r) :
    Calls Tryz.prog 68 #[.string a0] w fun e w' => e = .returned (.bool r) ∧ Below w.heap.size w w' := by
  have HB := Aside0.mk (Below.refl w.heap.size w)
  have H : ((some (([(⟨#[194, 133]⟩ : ByteArray), (⟨#[194, 160]⟩ : ByteArray), (⟨#[225, 154, 128]⟩ : ByteArray), (⟨#[226, 128, 168]⟩ : ByteArray), (⟨#[226, 128, 169]⟩ : ByteArray), (⟨#[226, 128, 175]⟩ : ByteArray), (⟨#[226, 129, 159]⟩ : ByteArray), (⟨#[227, 128, 128]⟩ : ByteArray)] : List ByteArray) : List ByteArray)).bind fun y109 => (spec_wideBlank.l0 k a0 y109 (y109.length : Int) 0)) = some r := h
  clear h
  obtain ⟨y109, hy109⟩ : ∃ y_ : List ByteArray, y_ = (([(⟨#[194, 133]⟩ : ByteArray), (⟨#[194, 160]⟩ : ByteArray), (⟨#[225, 154, 128]⟩ : ByteArray), (⟨#[226, 128, 168]⟩ : ByteArray), (⟨#[226, 128, 169]⟩ : ByteArray), (⟨#[226, 128, 175]⟩ : ByteArray), (⟨#[226, 129, 159]⟩ : ByteArray), (⟨#[227, 128, 128]⟩ : ByteArray)] : List ByteArray)) := ⟨_, rfl⟩
  replace H : (spec_wideBlank.l0 k a0 y109 (y109.length : Int) 0) = some r := by first | (rw [hy109]; with_reducible exact H) | (have H2_ := (Option.bind_some _ _).symm.trans H; rw [hy109]; with_reducible exact H2_) | (have H2_ := (Option.bind_some _ _).symm.trans H; with_reducible exact H2_) | with_reducible exact H | (rw [hy109]; exact H) | exact H
  have Ny109 := Aside0.mk hy109
  clear hy109
  have H' := Aside0.mk H
  clear H
  go_enter Tryz.func68, Tryz.ntmps68
  go_wp2_with (first | ((with_reducible refine gate_dst (N := 5) rfl ?_); refine Kd.R_lit Kd.string _ 9 ?hg (N := 5) ?hd (xs := ([(⟨#[194, 133]⟩ : ByteArray), (⟨#[194, 160]⟩ : ByteArray), (⟨#[225, 154, 128]⟩ : ByteArray), (⟨#[226, 128, 168]⟩ : ByteArray), (⟨#[226, 128, 169]⟩ : ByteArray), (⟨#[226, 128, 175]⟩ : ByteArray), (⟨#[226, 129, 159]⟩ : ByteArray), (⟨#[227, 128, 128]⟩ : ByteArray)] : List ByteArray)) (inner := [.string (⟨#[194, 133]⟩ : ByteArray), .string (⟨#[194, 160]⟩ : ByteArray), .string (⟨#[225, 154, 128]⟩ : ByteArray), .string (⟨#[226, 128, 168]⟩ : ByteArray), .string (⟨#[226, 128, 169]⟩ : ByteArray), .string (⟨#[226, 128, 175]⟩ : ByteArray), .string (⟨#[226, 129, 159]⟩ : ByteArray), .string (⟨#[227, 128, 128]⟩ : ByteArray)]) (ok := fun _ => True) (okp := fun _ => True) ?hr ?hp (fun _ hk => hk) trivial (Below.refl _ _) (Nat.le_refl _) (by simp) ?_; (case hd => rfl); (case hg => rfl); (case hr => first | (go_simp; done) | (go_simp; rfl)); (case hp => exact (Reps.one (show Kd.M Kd.string _ _ _ (⟨#[194, 133]⟩ : ByteArray) [.string (⟨#[194, 133]⟩ : ByteArray)] from rfl) (Reps.one (show Kd.M Kd.string _ _ _ (⟨#[194, 160]⟩ : ByteArray) [.string (⟨#[194, 160]⟩ : ByteArray)] from rfl) (Reps.one (show Kd.M Kd.string _ _ _ (⟨#[225, 154, 128]⟩ : ByteArray) [.string (⟨#[225, 154, 128]⟩ : ByteArray)] from rfl) (Reps.one (show Kd.M Kd.string _ _ _ (⟨#[226, 128, 168]⟩ : ByteArray) [.string (⟨#[226, 128, 168]⟩ : ByteArray)] from rfl) (Reps.one (show Kd.M Kd.string _ _ _ (⟨#[226, 128, 169]⟩ : ByteArray) [.string (⟨#[226, 128, 169]⟩ : ByteArray)] from rfl) (Reps.one (show Kd.M Kd.string _ _ _ (⟨#[226, 128, 175]⟩ : ByteArray) [.string (⟨#[226, 128, 175]⟩ : ByteArray)] from rfl) (Reps.one (show Kd.M Kd.string _ _ _ (⟨#[226, 129, 159]⟩ : ByteArray) [.string (⟨#[226, 129, 159]⟩ : ByteArray)] from rfl) (Reps.one (show Kd.M Kd.string _ _ _ (⟨#[227, 128, 128]⟩ : ByteArray) [.string (⟨#[227, 128, 128]⟩ : ByteArray)] from rfl) (Reps.none _ _)))))))))); intro v110 w2 ho3 hb hg_ hnew_; clear hg_ hnew_; (first | rw [← Ny109.out] at ho3 | (simp only [Int.reduceToNat] at ho3; rw [← Ny109.out] at ho3)); have n0_ := Aside0.mk (Kd.R_lower ho3 (below_size (by repeat (first | (with_reducible first | exact HB.out | apply below_alloc | apply pw_below_drewN | apply below_drew1) | exact HB.out)))); have n1_ := Aside0.mk (below_step (by repeat (first | (with_reducible first | exact HB.out | apply below_alloc | apply pw_below_drewN | apply below_drew1) | exact HB.out)) hb); clear HB; have HO111 := n0_; have HB := n1_; clear n0_ n1_; clear hb ho3; obtain ⟨Ao4, co4, eo4⟩ := Kd.R_slice HO111.out; subst eo4))
  go_loopg [7] k (fun kq v7 w' => ∃ (x7_1 : Int), v7 = .int .i64 x7_1 ∧ Aside0 (spec_wideBlank.l0 kq a0 y109 (y109.length : Int) x7_1 = some r) ∧ Aside0 (kq ≤ k) ∧ Aside0 (Kd.R Kd.string 9 w' w.heap.size (fun _ => True) (.slice Ao4 y109.length co4) y109) ∧ Aside0 (Below w.heap.size w w'))
  case atStart => exact ⟨(0), (by first | rfl | (simp; done) | (simp [*]; done) | (simp [*, q_isEmpty]; done) | (simp [*]; exact q_gt _ _ (by assumption))), H', ⟨Nat.le_refl _⟩, ⟨by (with_reducible repeat (first | apply Kd.R_alloc | apply Kd.R_drewN | apply Kd.R_drew)); exact HO111.out⟩, ⟨by repeat (first | (with_reducible first | exact HB.out | apply below_alloc | apply pw_below_drewN | apply below_drew1) | exact HB.out)⟩⟩
  case round =>
    clear H'
    try clear p2
    obtain ⟨x7_1, rfl, HA, HK1, HO_5, HB⟩ := hrel
    cases gk with
    | zero => exact absurd HA.out (by simp [spec_wideBlank.l0])
    | succ k1 =>
      have H := HA.out
      clear HA
      simp only [spec_wideBlank.l0] at H
      by_cases c5 : x7_1 < (y109.length : Int)
      · rw [if_pos c5] at H
        have c5b0 : decide (x7_1 < (y109.length : Int)) = true := decide_eq_true c5
        clear c5
        by_cases c6 : 0 ≤ x7_1
        · rw [if_pos c6] at H
          have c6b0 : decide (0 ≤ x7_1) = true := decide_eq_true c6
          clear c6
          by_cases c7 : x7_1 < (y109.length : Int)
          · rw [if_pos c7] at H
            have c7b0 : decide (x7_1 < (y109.length : Int)) = true := decide_eq_true c7
            clear c7
            replace H := Option.bind_eq_some_iff.mp H
            obtain ⟨t113, A80, H⟩ := H
            replace H : (if t113 = true then (some true) else (spec_wideBlank.l0 k1 a0 y109 (y109.length : Int) (wrap64 (x7_1 + 1)))) = some r := H
            have A8 := Aside0.mk A80
            clear A80
            by_cases c9 : t113 = true
            · subst c9
              have H1 : (some true) = some r := by rw [if_pos rfl] at H; exact H
              clear H
              have H := H1
              clear H1
              obtain rfl := Option.some.inj H
              have p112 : 0 ≤ (x7_1 : Int) := of_decide_eq_true (by first | (with_reducible assumption) | assumption)
              have q112 : x7_1 < (y109.length : Int) := of_decide_eq_true (by first | (with_reducible assumption) | assumption)
              obtain ⟨ad112, e112, hx112_0⟩ := Kd.at_string (Kd.R_reads' HO_5.out).2.2 x7_1 p112 q112
              cases e112
              replace p112 := eq_true p112
              replace q112 := eq_true q112
              go_wp2_with (first | ((with_reducible refine gate_callee (f := 83) rfl ?_); refine goesL_ (some 13) rfl rfl Tryz.func83 (by kernel_rfl) rfl #[.string a0, .string (rdOf ByteArray.empty y109 x7_1)] rfl (by (try simp only [List.map_toArray, List.map_cons, List.map_nil]); first | done | rfl | (simp only [List.length_drop, List.length_take]; rfl)) ?_; (with_reducible refine (spec_Begins.calls a0 (rdOf ByteArray.empty y109 x7_1) true _ A8.out).mono ?_); rintro e w' ⟨rfl, ⟨nd, rfl⟩⟩; refine ⟨_, rfl, ?_⟩))
              go_ret
              exact ⟨by first | rfl | (simp [errW_none, errW_some] <;> rfl) | (simp [*, errW_none, errW_some] <;> rfl) | (simp [*, q_isEmpty]; done) | (simp [*]; exact q_gt _ _ (by assumption)), by repeat (first | (with_reducible first | exact HB.out | apply below_alloc | apply pw_below_drewN | apply below_drew1) | exact HB.out)⟩
            · replace c9 := Bool.eq_false_iff.mpr c9
              subst c9
              have H1 : (spec_wideBlank.l0 k1 a0 y109 (y109.length : Int) (wrap64 (x7_1 + 1))) = some r := by rw [if_neg (show ¬ (false = true) by decide)] at H; exact H
              clear H
              have H := H1
              clear H1
              have H' := Aside0.mk H
              clear H
              have p112 : 0 ≤ (x7_1 : Int) := of_decide_eq_true (by first | (with_reducible assumption) | assumption)
              have q112 : x7_1 < (y109.length : Int) := of_decide_eq_true (by first | (with_reducible assumption) | assumption)
              obtain ⟨ad112, e112, hx112_0⟩ := Kd.at_string (Kd.R_reads' HO_5.out).2.2 x7_1 p112 q112
              cases e112
              replace p112 := eq_true p112
              replace q112 := eq_true q112
              go_wp2_with (first | ((with_reducible refine gate_callee (f := 83) rfl ?_); refine goesL_ (some 13) rfl rfl Tryz.func83 (by kernel_rfl) rfl #[.string a0, .string (rdOf ByteArray.empty y109 x7_1)] rfl (by (try simp only [List.map_toArray, List.map_cons, List.map_nil]); first | done | rfl | (simp only [List.length_drop, List.length_take]; rfl)) ?_; (with_reducible refine (spec_Begins.calls a0 (rdOf ByteArray.empty y109 x7_1) false _ A8.out).mono ?_); rintro e w' ⟨rfl, ⟨nd, rfl⟩⟩; refine ⟨_, rfl, ?_⟩))
              go_roundg k1
              case measure => have := HK1.out; omega
              case rel => exact ⟨(wrap64 (x7_1 + 1)), (by first | rfl | (simp; done) | (simp [*]; done) | (simp [*, q_isEmpty]; done) | (simp [*]; exact q_gt _ _ (by assumption))), H', ⟨by have := HK1.out; omega⟩, ⟨by (with_reducible repeat (first | apply Kd.R_alloc | apply Kd.R_drewN | apply Kd.R_drew)); exact HO_5.out⟩, ⟨by repeat (first | (with_reducible first | exact HB.out | apply below_alloc | apply pw_below_drewN | apply below_drew1) | exact HB.out)⟩⟩
          · rw [if_neg c7] at H
            exact absurd H (by simp)
        · rw [if_neg c6] at H
          exact absurd H (by simp)
      · rw [if_neg c5] at H
        have c5b0 : decide (x7_1 < (y109.length : Int)) = false := decide_eq_false c5
        clear c5
        by_cases c10 : (a0.size : Int) > 2
        · rw [if_pos c10] at H
          have c10b0 : decide (2 < (a0.size : Int)) = true := decide_eq_true c10
          have c10b1 : decide (2 < a0.size) = true := decide_eq_true (by omega)
          clear c10
          by_cases c11 : 0 < (a0.size : Int)
          · rw [if_pos c11] at H
            have c11b0 : decide (0 < (a0.size : Int)) = true := decide_eq_true c11
            have c11b1 : decide (0 < a0.size) = true := decide_eq_true (by omega)
            clear c11
            by_cases c13 : (bt a0 0) = 226
            · rw [if_pos c13] at H
              have c13b0 : ((bt a0 0) == 226) = true := beq_iff_eq.mpr c13
              have c13b1 : ((bt a0 0) != 226) = false := bne_eq_false_iff_eq.mpr c13
              clear c13
              by_cases c14 : 1 < (a0.size : Int)
              · rw [if_pos c14] at H
                have c14b0 : decide (1 < (a0.size : Int)) = true := decide_eq_true c14
                have c14b1 : decide (1 < a0.size) = true := decide_eq_true (by omega)
                clear c14
                by_cases c16 : (bt a0 1) = 128
                · rw [if_pos c16] at H
                  have c16b0 : ((bt a0 1) == 128) = true := beq_iff_eq.mpr c16
                  have c16b1 : ((bt a0 1) != 128) = false := bne_eq_false_iff_eq.mpr c16
                  clear c16
                  by_cases c17 : 2 < (a0.size : Int)
                  · rw [if_pos c17] at H
                    have c17b0 : decide (2 < (a0.size : Int)) = true := decide_eq_true c17
                    have c17b1 : decide (2 < a0.size) = true := decide_eq_true (by omega)
                    clear c17
                    by_cases c19 : (bt a0 2) ≥ 128
                    · rw [if_pos c19] at H
                      have c19b0 : decide (128 ≤ (bt a0 2)) = true := decide_eq_true c19
                      clear c19
                      obtain rfl := Option.some.inj H
                      have p12 : 0 ≤ (0 : Int) := (by omega)
                      have q12 : 0 < a0.size := (by have : (0 : Int) < (a0.size : Int) := of_decide_eq_true (by first | (with_reducible assumption) | assumption); omega)
                      have hx12 : ∀ h : 0 < a0.size, ((a0[0]'h).toNat : Int) = bt a0 0 := bt_at a0 0
                      clear p12
                      have qi12 : (0 < (a0.size : Int)) = True := eq_true (of_decide_eq_true (by first | (with_reducible assumption) | assumption))
                      replace q12 := eq_true q12
                      have p15 : 0 ≤ (1 : Int) := (by omega)
                      have q15 : 1 < a0.size := (by have : (1 : Int) < (a0.size : Int) := of_decide_eq_true (by first | (with_reducible assumption) | assumption); omega)
                      have hx15 : ∀ h : 1 < a0.size, ((a0[1]'h).toNat : Int) = bt a0 1 := bt_at a0 1
                      clear p15
                      have qi15 : (1 < (a0.size : Int)) = True := eq_true (of_decide_eq_true (by first | (with_reducible assumption) | assumption))
                      replace q15 := eq_true q15
                      have p18 : 0 ≤ (2 : Int) := (by omega)
                      have q18 : 2 < a0.size := (by have : (2 : Int) < (a0.size : Int) := of_decide_eq_true (by first | (with_reducible assumption) | assumption); omega)
                      have hx18 : ∀ h : 2 < a0.size, ((a0[2]'h).toNat : Int) = bt a0 2 := bt_at a0 2
                      clear p18
                      have qi18 : (2 < (a0.size : Int)) = True := eq_true (of_decide_eq_true (by first | (with_reducible assumption) | assumption))
                      replace q18 := eq_true q18
                      have p20 : 0 ≤ (2 : Int) := (by omega)
                      have q20 : 2 < a0.size := (by have : (2 : Int) < (a0.size : Int) := of_decide_eq_true (by first | (with_reducible assumption) | assumption); omega)
                      have hx20 : ∀ h : 2 < a0.size, ((a0[2]'h).toNat : Int) = bt a0 2 := bt_at a0 2
                      clear p20
                      have qi20 : (2 < (a0.size : Int)) = True := eq_true (of_decide_eq_true (by first | (with_reducible assumption) | assumption))
                      replace q20 := eq_true q20
                      go_wp2
                      go_ret
                      exact ⟨by first | rfl | (simp [errW_none, errW_some] <;> rfl) | (simp [*, errW_none, errW_some] <;> rfl) | (simp [*, q_isEmpty]; done) | (simp [*]; exact q_gt _ _ (by assumption)), by repeat (first | (with_reducible first | exact HB.out | apply below_alloc | apply pw_below_drewN | apply below_drew1) | exact HB.out)⟩
                    · rw [if_neg c19] at H
                      have c19b0 : decide (128 ≤ (bt a0 2)) = false := decide_eq_false c19
                      clear c19
                      obtain rfl := Option.some.inj H
                      have p12 : 0 ≤ (0 : Int) := (by omega)
                      have q12 : 0 < a0.size := (by have : (0 : Int) < (a0.size : Int) := of_decide_eq_true (by first | (with_reducible assumption) | assumption); omega)
                      have hx12 : ∀ h : 0 < a0.size, ((a0[0]'h).toNat : Int) = bt a0 0 := bt_at a0 0
                      clear p12
                      have qi12 : (0 < (a0.size : Int)) = True := eq_true (of_decide_eq_true (by first | (with_reducible assumption) | assumption))
                      replace q12 := eq_true q12
                      have p15 : 0 ≤ (1 : Int) := (by omega)
                      have q15 : 1 < a0.size := (by have : (1 : Int) < (a0.size : Int) := of_decide_eq_true (by first | (with_reducible assumption) | assumption); omega)
                      have hx15 : ∀ h : 1 < a0.size, ((a0[1]'h).toNat : Int) = bt a0 1 := bt_at a0 1
                      clear p15
                      have qi15 : (1 < (a0.size : Int)) = True := eq_true (of_decide_eq_true (by first | (with_reducible assumption) | assumption))
                      replace q15 := eq_true q15
                      have p18 : 0 ≤ (2 : Int) := (by omega)
                      have q18 : 2 < a0.size := (by have : (2 : Int) < (a0.size : Int) := of_decide_eq_true (by first | (with_reducible assumption) | assumption); omega)
                      have hx18 : ∀ h : 2 < a0.size, ((a0[2]'h).toNat : Int) = bt a0 2 := bt_at a0 2
                      clear p18
                      have qi18 : (2 < (a0.size : Int)) = True := eq_true (of_decide_eq_true (by first | (with_reducible assumption) | assumption))
                      replace q18 := eq_true q18
                      go_wp2
                      go_ret
                      exact ⟨by first | rfl | (simp [errW_none, errW_some] <;> rfl) | (simp [*, errW_none, errW_some] <;> rfl) | (simp [*, q_isEmpty]; done) | (simp [*]; exact q_gt _ _ (by assumption)), by repeat (first | (with_reducible first | exact HB.out | apply below_alloc | apply pw_below_drewN | apply below_drew1) | exact HB.out)⟩
                  · rw [if_neg c17] at H
                    exact absurd H (by simp)
                · rw [if_neg c16] at H
                  have c16b0 : ((bt a0 1) == 128) = false := beq_eq_false_iff_ne.mpr c16
                  have c16b1 : ((bt a0 1) != 128) = true := bne_iff_ne.mpr c16
                  obtain rfl := Option.some.inj H
                  have p12 : 0 ≤ (0 : Int) := (by omega)
                  have q12 : 0 < a0.size := (by have : (0 : Int) < (a0.size : Int) := of_decide_eq_true (by first | (with_reducible assumption) | assumption); omega)
                  have hx12 : ∀ h : 0 < a0.size, ((a0[0]'h).toNat : Int) = bt a0 0 := bt_at a0 0
                  clear p12
                  have qi12 : (0 < (a0.size : Int)) = True := eq_true (of_decide_eq_true (by first | (with_reducible assumption) | assumption))
                  replace q12 := eq_true q12
                  have p15 : 0 ≤ (1 : Int) := (by omega)
                  have q15 : 1 < a0.size := (by have : (1 : Int) < (a0.size : Int) := of_decide_eq_true (by first | (with_reducible assumption) | assumption); omega)
                  have hx15 : ∀ h : 1 < a0.size, ((a0[1]'h).toNat : Int) = bt a0 1 := bt_at a0 1
                  clear p15
                  have qi15 : (1 < (a0.size : Int)) = True := eq_true (of_decide_eq_true (by first | (with_reducible assumption) | assumption))
                  replace q15 := eq_true q15
                  go_wp2
                  go_ret
                  exact ⟨by first | rfl | (simp [errW_none, errW_some] <;> rfl) | (simp [*, errW_none, errW_some] <;> rfl) | (simp [*, q_isEmpty]; done) | (simp [*]; exact q_gt _ _ (by assumption)), by repeat (first | (with_reducible first | exact HB.out | apply below_alloc | apply pw_below_drewN | apply below_drew1) | exact HB.out)⟩
              · rw [if_neg c14] at H
                exact absurd H (by simp)
            · rw [if_neg c13] at H
              have c13b0 : ((bt a0 0) == 226) = false := beq_eq_false_iff_ne.mpr c13
              have c13b1 : ((bt a0 0) != 226) = true := bne_iff_ne.mpr c13
              obtain rfl := Option.some.inj H
              have p12 : 0 ≤ (0 : Int) := (by omega)
              have q12 : 0 < a0.size := (by have : (0 : Int) < (a0.size : Int) := of_decide_eq_true (by first | (with_reducible assumption) | assumption); omega)
              have hx12 : ∀ h : 0 < a0.size, ((a0[0]'h).toNat : Int) = bt a0 0 := bt_at a0 0
              clear p12
              have qi12 : (0 < (a0.size : Int)) = True := eq_true (of_decide_eq_true (by first | (with_reducible assumption) | assumption))
              replace q12 := eq_true q12
              go_wp2
              go_ret
              exact ⟨by first | rfl | (simp [errW_none, errW_some] <;> rfl) | (simp [*, errW_none, errW_some] <;> rfl) | (simp [*, q_isEmpty]; done) | (simp [*]; exact q_gt _ _ (by assumption)), by repeat (first | (with_reducible first | exact HB.out | apply below_alloc | apply pw_below_drewN | apply below_drew1) | exact HB.out)⟩
          · rw [if_neg c11] at H
            exact absurd H (by simp)
        · rw [if_neg c10] at H
          have c10b0 : decide (2 < (a0.size : Int)) = false := decide_eq_false c10
          have c10b1 : decide (2 < a0.size) = false := decide_eq_false (by omega)
          clear c10
          obtain rfl := Option.some.inj H
          go_wp2
          go_ret
          exact ⟨by first | rfl | (simp [errW_none, errW_some] <;> rfl) | (simp [*, errW_none, errW_some] <;> rfl) | (simp [*, q_isEmpty]; done) | (simp [*]; exact q_gt _ _ (by assumption)), by repeat (first | (with_reducible first | exact HB.out | apply below_alloc | apply pw_below_drewN | apply below_drew1) | exact HB.out)⟩

end Go.Proofs.YtnnhehlieakedaaGreatDoor.Q
namespace Go.Proofs.YtnnhehlieakedaaGreatDoor.Q
open Go.RowKit Go.Proofs.YtnnhehlieakedaaGreatDoorW.PrintWords Go.Proofs.YtnnhehlieakedaaGreatDoorW.PrintLast Go.Proofs.YtnnhehlieakedaaGreatDoorW.PrintMore
attribute [local go_sem] max2_int min2_int max_two min_two max_three min_three max_four min_four   -- for this text's walks alone
set_option linter.unusedVariables false
set_option linter.unusedSimpArgs false

/-! ### spec_Settled: function 44 -/
def spec_Settled.l0 : Nat → ByteArray → Int → Int → Option (Bool)
  | 0, _, _, _ => none
  | k + 1, x0, x8, x9 => if x9 < x8 then (if 0 ≤ x9 then (if x9 ≤ (x0.size : Int) then ((spec_wideBlank.f k (x0.extract (x9 : Int).toNat x0.size)).bind fun t115 => (if t115 = true then (some false) else (spec_Settled.l0 k x0 x8 (wrap64 (x9 + 1))))) else (none)) else (none)) else (some true)
def spec_Settled.f (k : Nat) (a0 : ByteArray) : Option (Bool) := (spec_Valid.f k a0).bind fun t114 => (if t114 = true then (spec_Settled.l0 k a0 (a0.size : Int) 0) else (some false))
theorem spec_Settled.mono_l : ∀ k, (∀ y0 y1 y2, LeO (spec_Settled.l0 k y0 y1 y2) (spec_Settled.l0 (k + 1) y0 y1 y2))
  | 0 => fun _ _ _ r h => by simp [spec_Settled.l0] at h
  | k + 1 => by
    have ih0 := spec_Settled.mono_l k
    · intro y0 y1 y2
      unfold spec_Settled.l0
      repeat' first
      | (with_reducible exact ih0 _ _ _)
      | (with_reducible exact spec_Valid.mono _ _)
      | (with_reducible exact spec_wideBlank.mono _ _)
      | (with_reducible exact LeO.refl _)
      | (with_reducible exact LeO.none _)
      | (with_reducible refine LeO.ite ?_ ?_)
      | (with_reducible refine LeO.bind ?_ (fun _ => ?_))
      | exact ih0 _ _ _
      | exact spec_Valid.mono _ _
      | exact spec_wideBlank.mono _ _
      | exact LeO.none _
      | refine LeO.ite ?_ ?_
      | refine LeO.bind ?_ (fun _ => ?_)
theorem spec_Settled.mono : ∀ a0 k, LeO (spec_Settled.f k a0) (spec_Settled.f (k + 1) a0) := by
  intro a0 k
  have ih0 := spec_Settled.mono_l k
  unfold spec_Settled.f
  repeat' first
      | (with_reducible exact ih0 _ _ _)
      | (with_reducible exact spec_Valid.mono _ _)
      | (with_reducible exact spec_wideBlank.mono _ _)
      | (with_reducible exact LeO.refl _)
      | (with_reducible exact LeO.none _)
      | (with_reducible refine LeO.ite ?_ ?_)
      | (with_reducible refine LeO.bind ?_ (fun _ => ?_))
      | exact ih0 _ _ _
      | exact spec_Valid.mono _ _
      | exact spec_wideBlank.mono _ _
      | exact LeO.none _
      | refine LeO.ite ?_ ?_
      | refine LeO.bind ?_ (fun _ => ?_)
set_option maxHeartbeats 8000000 in
set_option maxRecDepth 100000 in
theorem spec_Settled.calls (k : Nat) (a0 : ByteArray) (r : Bool) (w : World) (h : spec_Settled.f k a0 = some r) :
    Calls Tryz.prog 44 #[.string a0] w fun e w' => e = .returned (.bool r) ∧ Below w.heap.size w w' := by
  have HB := Aside0.mk (Below.refl w.heap.size w)
  have H : ((spec_Valid.f k a0).bind fun t114 => (if t114 = true then (spec_Settled.l0 k a0 (a0.size : Int) 0) else (some false))) = some r := h
  clear h
  replace H := Option.bind_eq_some_iff.mp H
  obtain ⟨t114, A20, H⟩ := H
  replace H : (if t114 = true then (spec_Settled.l0 k a0 (a0.size : Int) 0) else (some false)) = some r := H
  have A2 := Aside0.mk A20
  clear A20
  by_cases c3 : t114 = true
  · subst c3
    have H1 : (spec_Settled.l0 k a0 (a0.size : Int) 0) = some r := by rw [if_pos rfl] at H; exact H
    clear H
    have H := H1
    clear H1
    have H' := Aside0.mk H
    clear H
    go_enter Tryz.func44, Tryz.ntmps44
    go_wp2_with (first | ((with_reducible refine gate_callee (f := 67) rfl ?_); refine goesL_ (some 5) rfl rfl Tryz.func67 (by kernel_rfl) rfl #[.string a0] rfl (by (try simp only [List.map_toArray, List.map_cons, List.map_nil]); first | done | rfl | (simp only [List.length_drop, List.length_take]; rfl)) ?_; (with_reducible refine (spec_Valid.calls k a0 true _ A2.out).mono ?_); rintro e w' ⟨rfl, ⟨nd, rfl⟩⟩; refine ⟨_, rfl, ?_⟩))
    go_loopg [9] k (fun kq v9 w' => ∃ (x9_1 : Int), v9 = .int .i64 x9_1 ∧ Aside0 (spec_Settled.l0 kq a0 (a0.size : Int) x9_1 = some r) ∧ Aside0 (kq ≤ k) ∧ Aside0 (Below w.heap.size w w'))
    case atStart => exact ⟨(0), (by first | rfl | (simp; done) | (simp [*]; done) | (simp [*, q_isEmpty]; done) | (simp [*]; exact q_gt _ _ (by assumption))), H', ⟨Nat.le_refl _⟩, ⟨by repeat (first | (with_reducible first | exact HB.out | apply below_alloc | apply pw_below_drewN | apply below_drew1) | exact HB.out)⟩⟩
    case round =>
      clear H'
      try clear p2
      try clear c3
      obtain ⟨x9_1, rfl, HA, HK1, HB⟩ := hrel
      cases gk with
      | zero => exact absurd HA.out (by simp [spec_Settled.l0])
      | succ k1 =>
        have H := HA.out
        clear HA
        simp only [spec_Settled.l0] at H
        by_cases c4 : x9_1 < (a0.size : Int)
        · rw [if_pos c4] at H
          have c4b0 : decide (x9_1 < (a0.size : Int)) = true := decide_eq_true c4
          clear c4
          by_cases c5 : 0 ≤ x9_1
          · rw [if_pos c5] at H
            have c5b0 := eq_true c5
            have c5b1 : decide (0 ≤ x9_1) = true := decide_eq_true c5
            clear c5
            by_cases c6 : x9_1 ≤ (a0.size : Int)
            · rw [if_pos c6] at H
              have c6b0 := eq_true c6
              have c6b1 : decide (x9_1 ≤ (a0.size : Int)) = true := decide_eq_true c6
              clear c6
              replace H := Option.bind_eq_some_iff.mp H
              obtain ⟨t115, A70, H⟩ := H
              replace H : (if t115 = true then (some false) else (spec_Settled.l0 k1 a0 (a0.size : Int) (wrap64 (x9_1 + 1)))) = some r := H
              have A7 := Aside0.mk A70
              clear A70
              by_cases c8 : t115 = true
              · subst c8
                have H1 : (some false) = some r := by rw [if_pos rfl] at H; exact H
                clear H
                have H := H1
                clear H1
                obtain rfl := Option.some.inj H
                go_wp2_with (first | ((with_reducible refine gate_callee (f := 68) rfl ?_); refine goesL_ (some 15) rfl rfl Tryz.func68 (by kernel_rfl) rfl #[.string (a0.extract (x9_1 : Int).toNat a0.size)] rfl (by (try simp only [List.map_toArray, List.map_cons, List.map_nil]); first | done | rfl | (simp only [List.length_drop, List.length_take]; rfl)) ?_; (with_reducible refine (spec_wideBlank.calls k1 (a0.extract (x9_1 : Int).toNat a0.size) true _ A7.out).mono ?_); rintro e w9 ⟨rfl, hb⟩; refine ⟨_, rfl, ?_⟩; have n0_ := Aside0.mk (below_step (by repeat (first | (with_reducible first | exact HB.out | apply below_alloc | apply pw_below_drewN | apply below_drew1) | exact HB.out)) hb); clear HB; have HB := n0_; clear n0_; (try clear hb); (try clear hb2); (try clear hk); (try clear hi)))
                go_ret
                exact ⟨by first | rfl | (simp [errW_none, errW_some] <;> rfl) | (simp [*, errW_none, errW_some] <;> rfl) | (simp [*, q_isEmpty]; done) | (simp [*]; exact q_gt _ _ (by assumption)), by repeat (first | (with_reducible first | exact HB.out | apply below_alloc | apply pw_below_drewN | apply below_drew1) | exact HB.out)⟩
              · replace c8 := Bool.eq_false_iff.mpr c8
                subst c8
                have H1 : (spec_Settled.l0 k1 a0 (a0.size : Int) (wrap64 (x9_1 + 1))) = some r := by rw [if_neg (show ¬ (false = true) by decide)] at H; exact H
                clear H
                have H := H1
                clear H1
                have H' := Aside0.mk H
                clear H
                go_wp2_with (first | ((with_reducible refine gate_callee (f := 68) rfl ?_); refine goesL_ (some 15) rfl rfl Tryz.func68 (by kernel_rfl) rfl #[.string (a0.extract (x9_1 : Int).toNat a0.size)] rfl (by (try simp only [List.map_toArray, List.map_cons, List.map_nil]); first | done | rfl | (simp only [List.length_drop, List.length_take]; rfl)) ?_; (with_reducible refine (spec_wideBlank.calls k1 (a0.extract (x9_1 : Int).toNat a0.size) false _ A7.out).mono ?_); rintro e w10 ⟨rfl, hb⟩; refine ⟨_, rfl, ?_⟩; have n0_ := Aside0.mk (below_step (by repeat (first | (with_reducible first | exact HB.out | apply below_alloc | apply pw_below_drewN | apply below_drew1) | exact HB.out)) hb); clear HB; have HB := n0_; clear n0_; (try clear hb); (try clear hb2); (try clear hk); (try clear hi)))
                go_roundg k1
                case measure => have := HK1.out; omega
                case rel => exact ⟨(wrap64 (x9_1 + 1)), (by first | rfl | (simp; done) | (simp [*]; done) | (simp [*, q_isEmpty]; done) | (simp [*]; exact q_gt _ _ (by assumption))), H', ⟨by have := HK1.out; omega⟩, ⟨by repeat (first | (with_reducible first | exact HB.out | apply below_alloc | apply pw_below_drewN | apply below_drew1) | exact HB.out)⟩⟩
            · rw [if_neg c6] at H
              exact absurd H (by simp)
          · rw [if_neg c5] at H
            exact absurd H (by simp)
        · rw [if_neg c4] at H
          have c4b0 : decide (x9_1 < (a0.size : Int)) = false := decide_eq_false c4
          clear c4
          obtain rfl := Option.some.inj H
          go_wp2
          go_ret
          exact ⟨by first | rfl | (simp [errW_none, errW_some] <;> rfl) | (simp [*, errW_none, errW_some] <;> rfl) | (simp [*, q_isEmpty]; done) | (simp [*]; exact q_gt _ _ (by assumption)), by repeat (first | (with_reducible first | exact HB.out | apply below_alloc | apply pw_below_drewN | apply below_drew1) | exact HB.out)⟩
  · replace c3 := Bool.eq_false_iff.mpr c3
    subst c3
    have H1 : (some false) = some r := by rw [if_neg (show ¬ (false = true) by decide)] at H; exact H
    clear H
    have H := H1
    clear H1
    obtain rfl := Option.some.inj H
    go_enter Tryz.func44, Tryz.ntmps44
    go_wp2_with (first | ((with_reducible refine gate_callee (f := 67) rfl ?_); refine goesL_ (some 5) rfl rfl Tryz.func67 (by kernel_rfl) rfl #[.string a0] rfl (by (try simp only [List.map_toArray, List.map_cons, List.map_nil]); first | done | rfl | (simp only [List.length_drop, List.length_take]; rfl)) ?_; (with_reducible refine (spec_Valid.calls k a0 false _ A2.out).mono ?_); rintro e w' ⟨rfl, ⟨nd, rfl⟩⟩; refine ⟨_, rfl, ?_⟩))
    go_ret
    exact ⟨by first | rfl | (simp [errW_none, errW_some] <;> rfl) | (simp [*, errW_none, errW_some] <;> rfl) | (simp [*, q_isEmpty]; done) | (simp [*]; exact q_gt _ _ (by assumption)), by repeat (first | (with_reducible first | exact HB.out | apply below_alloc | apply pw_below_drewN | apply below_drew1) | exact HB.out)⟩

end Go.Proofs.YtnnhehlieakedaaGreatDoor.Q
