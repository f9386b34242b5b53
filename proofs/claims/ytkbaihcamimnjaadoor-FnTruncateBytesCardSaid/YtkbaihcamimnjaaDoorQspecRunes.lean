-- Printed for this seat by wip/pp.py of this repo; nothing here is trusted: Lean checks it.
import Derived.Test.YtkbaihcamimnjaaDoorQ0
import Derived.Test.YtkbaihcamimnjaaDoorQspecruneLen
namespace Go.Proofs.YtkbaihcamimnjaaDoor.Q
open Go.RowKit Go.Proofs.YtkbaihcamimnjaaDoorW.PrintWords Go.Proofs.YtkbaihcamimnjaaDoorW.PrintLast Go.Proofs.YtkbaihcamimnjaaDoorW.PrintMore
attribute [local go_sem] max2_int min2_int max_two min_two max_three min_three max_four min_four   -- for this text's walks alone
set_option linter.unusedVariables false
set_option linter.unusedSimpArgs false

/-! ### spec_Runes: function 20 -/
def spec_Runes.l0 : Nat → ByteArray → Int → Option (Int)
  | 0, _, _ => none
  | k + 1, x0, x3 => if (x0.size : Int) > 0 then ((spec_runeLen.f k x0).bind fun t179 => (if 0 ≤ t179 then (if t179 ≤ (x0.size : Int) then (spec_Runes.l0 k (x0.extract (t179 : Int).toNat x0.size) (wrap64 (x3 + 1))) else (none)) else (none))) else (some x3)
def spec_Runes.f (k : Nat) (a0 : ByteArray) : Option (Int) := spec_Runes.l0 k a0 0
theorem spec_Runes.mono_l : ∀ k, (∀ y0 y1, LeO (spec_Runes.l0 k y0 y1) (spec_Runes.l0 (k + 1) y0 y1))
  | 0 => fun _ _ r h => by simp [spec_Runes.l0] at h
  | k + 1 => by
    have ih0 := spec_Runes.mono_l k
    · intro y0 y1
      unfold spec_Runes.l0
      repeat' first
      | (with_reducible exact ih0 _ _)
      | (with_reducible exact spec_runeLen.mono _ _)
      | (with_reducible exact LeO.refl _)
      | (with_reducible exact LeO.none _)
      | (with_reducible refine LeO.ite ?_ ?_)
      | (with_reducible refine LeO.bind ?_ (fun _ => ?_))
      | exact ih0 _ _
      | exact spec_runeLen.mono _ _
      | exact LeO.none _
      | refine LeO.ite ?_ ?_
      | refine LeO.bind ?_ (fun _ => ?_)
theorem spec_Runes.mono : ∀ a0 k, LeO (spec_Runes.f k a0) (spec_Runes.f (k + 1) a0) := by
  intro a0 k
  have ih0 := spec_Runes.mono_l k
  unfold spec_Runes.f
  repeat' first
      | (with_reducible exact ih0 _ _)
      | (with_reducible exact spec_runeLen.mono _ _)
      | (with_reducible exact LeO.refl _)
      | (with_reducible exact LeO.none _)
      | (with_reducible refine LeO.ite ?_ ?_)
      | (with_reducible refine LeO.bind ?_ (fun _ => ?_))
      | exact ih0 _ _
      | exact spec_runeLen.mono _ _
      | exact LeO.none _
      | refine LeO.ite ?_ ?_
      | refine LeO.bind ?_ (fun _ => ?_)
set_option maxHeartbeats 8000000 in
set_option maxRecDepth 100000 in
theorem spec_Runes.calls (k : Nat) (a0 : ByteArray) (r : Int) (w : World) (h : spec_Runes.f k a0 = some r) :
    Calls Tryd.prog 20 #[.string a0] w fun e w' => e = .returned (.int .i64 r) ∧ Drawn0 w w' := by
  have H : (spec_Runes.l0 k a0 0) = some r := h
  clear h
  have H' := Aside0.mk H
  clear H
  go_enter Tryd.func20, Tryd.ntmps20
  go_wp2
  go_loopg [0, 3] k (fun kq v0 v3 w' => ∃ (x0_1 : ByteArray) (x3_1 : Int), v0 = .string x0_1 ∧ v3 = .int .i64 x3_1 ∧ Aside0 (spec_Runes.l0 kq x0_1 x3_1 = some r) ∧ Aside0 (kq ≤ k) ∧ Drawn0 w w')
  case atStart => exact ⟨(a0), (0), (by first | rfl | (simp; done) | (simp [*]; done) | (simp [*, q_isEmpty]; done) | (simp [*]; exact q_gt _ _ (by assumption))), (by first | rfl | (simp; done) | (simp [*]; done) | (simp [*, q_isEmpty]; done) | (simp [*]; exact q_gt _ _ (by assumption))), H', ⟨Nat.le_refl _⟩, by repeat (first | exact Drawn0.refl _ | apply Drawn0.step)⟩
  case round =>
    clear H'
    obtain ⟨x0_1, x3_1, rfl, rfl, HA, HK1, ⟨m1, rfl⟩⟩ := hrel
    cases gk with
    | zero => exact absurd HA.out (by simp [spec_Runes.l0])
    | succ k1 =>
      have H := HA.out
      clear HA
      simp only [spec_Runes.l0] at H
      by_cases c2 : (x0_1.size : Int) > 0
      · rw [if_pos c2] at H
        have c2b0 : decide (0 < (x0_1.size : Int)) = true := decide_eq_true c2
        have c2b1 : decide (0 < x0_1.size) = true := decide_eq_true (by omega)
        clear c2
        replace H := Option.bind_eq_some_iff.mp H
        obtain ⟨t179, A30, H⟩ := H
        replace H : (if 0 ≤ t179 then (if t179 ≤ (x0_1.size : Int) then (spec_Runes.l0 k1 (x0_1.extract (t179 : Int).toNat x0_1.size) (wrap64 (x3_1 + 1))) else (none)) else (none)) = some r := H
        have A3 := Aside0.mk A30
        clear A30
        by_cases c4 : 0 ≤ t179
        · rw [if_pos c4] at H
          have c4b0 := eq_true c4
          have c4b1 : decide (0 ≤ t179) = true := decide_eq_true c4
          clear c4
          by_cases c5 : t179 ≤ (x0_1.size : Int)
          · rw [if_pos c5] at H
            have c5b0 := eq_true c5
            have c5b1 : decide (t179 ≤ (x0_1.size : Int)) = true := decide_eq_true c5
            clear c5
            have H' := Aside0.mk H
            clear H
            go_wp2_with (first | ((with_reducible refine gate_callee (f := 33) rfl ?_); refine goesL_ (some 9) rfl rfl Tryd.func33 (by kernel_rfl) rfl #[.string x0_1] rfl (by (try simp only [List.map_toArray, List.map_cons, List.map_nil]); first | done | rfl | (simp only [List.length_drop, List.length_take]; rfl)) ?_; (with_reducible refine (spec_runeLen.calls k1 x0_1 t179 _ A3.out).mono ?_); rintro e w' ⟨rfl, ⟨nd, rfl⟩⟩; refine ⟨_, rfl, ?_⟩))
            go_roundg k1
            case measure => have := HK1.out; omega
            case rel => exact ⟨(x0_1.extract (t179 : Int).toNat x0_1.size), (wrap64 (x3_1 + 1)), (by first | rfl | (simp; done) | (simp [*]; done) | (simp [*, q_isEmpty]; done) | (simp [*]; exact q_gt _ _ (by assumption))), (by first | rfl | (simp; done) | (simp [*]; done) | (simp [*, q_isEmpty]; done) | (simp [*]; exact q_gt _ _ (by assumption))), H', ⟨by have := HK1.out; omega⟩, by repeat (first | exact Drawn0.refl _ | apply Drawn0.step)⟩
          · rw [if_neg c5] at H
            exact absurd H (by simp)
        · rw [if_neg c4] at H
          exact absurd H (by simp)
      · rw [if_neg c2] at H
        have c2b0 : decide (0 < (x0_1.size : Int)) = false := decide_eq_false c2
        have c2b1 : decide (0 < x0_1.size) = false := decide_eq_false (by omega)
        clear c2
        obtain rfl := Option.some.inj H
        go_wp2
        go_ret
        exact ⟨by first | rfl | (simp; done) | (simp [*]; done) | (simp [*, q_isEmpty]; done) | (simp [*]; exact q_gt _ _ (by assumption)), by repeat (first | exact Drawn0.refl _ | apply Drawn0.step)⟩

end Go.Proofs.YtkbaihcamimnjaaDoor.Q
