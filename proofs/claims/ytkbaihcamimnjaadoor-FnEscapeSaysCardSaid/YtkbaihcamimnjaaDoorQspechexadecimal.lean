-- Printed for this seat by wip/pp.py of this repo; nothing here is trusted: Lean checks it.
import Derived.Test.YtkbaihcamimnjaaDoorQ0
namespace Go.Proofs.YtkbaihcamimnjaaDoor.Q
open Go.RowKit Go.Proofs.YtkbaihcamimnjaaDoorW.PrintWords Go.Proofs.YtkbaihcamimnjaaDoorW.PrintLast Go.Proofs.YtkbaihcamimnjaaDoorW.PrintMore
attribute [local go_sem] max2_int min2_int max_two min_two max_three min_three max_four min_four   -- for this text's walks alone
set_option linter.unusedVariables false
set_option linter.unusedSimpArgs false

/-! ### spec_hexadecimal: function 35 -/
def spec_hexadecimal.f : Nat → Int → Option (ByteArray)
  | 0, _ => none
  | k + 1, a0 => if 0 ≤ (Go.bits .and .i64 a0 15) then (if (Go.bits .and .i64 a0 15) ≤ (wrap64 ((Go.bits .and .i64 a0 15) + 1)) then (if (wrap64 ((Go.bits .and .i64 a0 15) + 1)) ≤ 16 then (if a0 < 16 then (some ((⟨#[48, 49, 50, 51, 52, 53, 54, 55, 56, 57, 97, 98, 99, 100, 101, 102]⟩ : ByteArray).extract ((Go.bits .and .i64 a0 15) : Int).toNat ((wrap64 ((Go.bits .and .i64 a0 15) + 1)) : Int).toNat)) else ((spec_hexadecimal.f k (a0 / 16)).bind fun t168 => (if t168.size + ((⟨#[48, 49, 50, 51, 52, 53, 54, 55, 56, 57, 97, 98, 99, 100, 101, 102]⟩ : ByteArray).extract ((Go.bits .and .i64 a0 15) : Int).toNat ((wrap64 ((Go.bits .and .i64 a0 15) + 1)) : Int).toNat).size ≤ 9223372036854775807 then (some (t168 ++ ((⟨#[48, 49, 50, 51, 52, 53, 54, 55, 56, 57, 97, 98, 99, 100, 101, 102]⟩ : ByteArray).extract ((Go.bits .and .i64 a0 15) : Int).toNat ((wrap64 ((Go.bits .and .i64 a0 15) + 1)) : Int).toNat))) else (none)))) else (none)) else (none)) else (none)
theorem spec_hexadecimal.mono_l : ∀ k, (∀ y0, LeO (spec_hexadecimal.f k y0) (spec_hexadecimal.f (k + 1) y0))
  | 0 => fun _ r h => by simp [spec_hexadecimal.f] at h
  | k + 1 => by
    have ih0 := spec_hexadecimal.mono_l k
    · intro y0
      unfold spec_hexadecimal.f
      repeat' first
      | (with_reducible exact ih0 _)
      | (with_reducible exact LeO.refl _)
      | (with_reducible exact LeO.none _)
      | (with_reducible refine LeO.ite ?_ ?_)
      | (with_reducible refine LeO.bind ?_ (fun _ => ?_))
      | exact ih0 _
      | exact LeO.none _
      | refine LeO.ite ?_ ?_
      | refine LeO.bind ?_ (fun _ => ?_)
theorem spec_hexadecimal.mono : ∀ a0 k, LeO (spec_hexadecimal.f k a0) (spec_hexadecimal.f (k + 1) a0) := by
  intro a0 k
  have ih0 := spec_hexadecimal.mono_l k
  exact ih0 a0
set_option maxHeartbeats 8000000 in
set_option maxRecDepth 100000 in
theorem spec_hexadecimal.calls (k : Nat) : ∀ (a0 : Int) (r : ByteArray) (w : World) (h : spec_hexadecimal.f k a0 = some r),
    Calls Tryd.prog 35 #[.int .i64 a0] w fun e w' => e = .returned (.string r) ∧ Drawn0 w w' := by
  induction k using Nat.strongRecOn with
  | _ k ih =>
  intro a0 r w h
  cases k with
  | zero => exact absurd h (by simp [spec_hexadecimal.f])
  | succ k =>
  simp only [spec_hexadecimal.f] at h
  have H : (if 0 ≤ (Go.bits .and .i64 a0 15) then (if (Go.bits .and .i64 a0 15) ≤ (wrap64 ((Go.bits .and .i64 a0 15) + 1)) then (if (wrap64 ((Go.bits .and .i64 a0 15) + 1)) ≤ 16 then (if a0 < 16 then (some ((⟨#[48, 49, 50, 51, 52, 53, 54, 55, 56, 57, 97, 98, 99, 100, 101, 102]⟩ : ByteArray).extract ((Go.bits .and .i64 a0 15) : Int).toNat ((wrap64 ((Go.bits .and .i64 a0 15) + 1)) : Int).toNat)) else ((spec_hexadecimal.f k (a0 / 16)).bind fun t168 => (if t168.size + ((⟨#[48, 49, 50, 51, 52, 53, 54, 55, 56, 57, 97, 98, 99, 100, 101, 102]⟩ : ByteArray).extract ((Go.bits .and .i64 a0 15) : Int).toNat ((wrap64 ((Go.bits .and .i64 a0 15) + 1)) : Int).toNat).size ≤ 9223372036854775807 then (some (t168 ++ ((⟨#[48, 49, 50, 51, 52, 53, 54, 55, 56, 57, 97, 98, 99, 100, 101, 102]⟩ : ByteArray).extract ((Go.bits .and .i64 a0 15) : Int).toNat ((wrap64 ((Go.bits .and .i64 a0 15) + 1)) : Int).toNat))) else (none)))) else (none)) else (none)) else (none)) = some r := h
  clear h
  by_cases c2 : 0 ≤ (Go.bits .and .i64 a0 15)
  · rw [if_pos c2] at H
    have c2b0 := eq_true c2
    have c2b1 : decide (0 ≤ (Go.bits .and .i64 a0 15)) = true := decide_eq_true c2
    clear c2
    by_cases c3 : (Go.bits .and .i64 a0 15) ≤ (wrap64 ((Go.bits .and .i64 a0 15) + 1))
    · rw [if_pos c3] at H
      have c3b0 := eq_true c3
      have c3b1 : decide ((Go.bits .and .i64 a0 15) ≤ (wrap64 ((Go.bits .and .i64 a0 15) + 1))) = true := decide_eq_true c3
      by_cases c4 : (wrap64 ((Go.bits .and .i64 a0 15) + 1)) ≤ 16
      · rw [if_pos c4] at H
        have c4b0 := eq_true c4
        have c4b1 : decide ((wrap64 ((Go.bits .and .i64 a0 15) + 1)) ≤ 16) = true := decide_eq_true c4
        by_cases c5 : a0 < 16
        · rw [if_pos c5] at H
          have c5b0 : decide (a0 < 16) = true := decide_eq_true c5
          clear c5
          obtain rfl := Option.some.inj H
          go_enter Tryd.func35, Tryd.ntmps35
          go_wp2
          go_ret
          exact ⟨by first | rfl | (simp; done) | (simp [*]; done) | (simp [*, q_isEmpty]; done) | (simp [*]; exact q_gt _ _ (by assumption)), by repeat (first | exact Drawn0.refl _ | apply Drawn0.step)⟩
        · rw [if_neg c5] at H
          have c5b0 : decide (a0 < 16) = false := decide_eq_false c5
          clear c5
          replace H := Option.bind_eq_some_iff.mp H
          obtain ⟨t168, A60, H⟩ := H
          replace H : (if t168.size + ((⟨#[48, 49, 50, 51, 52, 53, 54, 55, 56, 57, 97, 98, 99, 100, 101, 102]⟩ : ByteArray).extract ((Go.bits .and .i64 a0 15) : Int).toNat ((wrap64 ((Go.bits .and .i64 a0 15) + 1)) : Int).toNat).size ≤ 9223372036854775807 then (some (t168 ++ ((⟨#[48, 49, 50, 51, 52, 53, 54, 55, 56, 57, 97, 98, 99, 100, 101, 102]⟩ : ByteArray).extract ((Go.bits .and .i64 a0 15) : Int).toNat ((wrap64 ((Go.bits .and .i64 a0 15) + 1)) : Int).toNat))) else (none)) = some r := H
          have A6 := Aside0.mk A60
          clear A60
          by_cases c7 : t168.size + ((⟨#[48, 49, 50, 51, 52, 53, 54, 55, 56, 57, 97, 98, 99, 100, 101, 102]⟩ : ByteArray).extract ((Go.bits .and .i64 a0 15) : Int).toNat ((wrap64 ((Go.bits .and .i64 a0 15) + 1)) : Int).toNat).size ≤ 9223372036854775807
          · rw [if_pos c7] at H
            have c7b0 := eq_true c7
            have c7b1 : decide (t168.size + ((⟨#[48, 49, 50, 51, 52, 53, 54, 55, 56, 57, 97, 98, 99, 100, 101, 102]⟩ : ByteArray).extract ((Go.bits .and .i64 a0 15) : Int).toNat ((wrap64 ((Go.bits .and .i64 a0 15) + 1)) : Int).toNat).size ≤ 9223372036854775807) = true := decide_eq_true c7
            try have c7b2 : (9223372036854775807 < t168.size + ((⟨#[48, 49, 50, 51, 52, 53, 54, 55, 56, 57, 97, 98, 99, 100, 101, 102]⟩ : ByteArray).extract ((Go.bits .and .i64 a0 15) : Int).toNat ((wrap64 ((Go.bits .and .i64 a0 15) + 1)) : Int).toNat).size) = False := eq_false (Nat.not_lt.2 c7)
            obtain rfl := Option.some.inj H
            go_enter Tryd.func35, Tryd.ntmps35
            go_wp2_with (first | ((with_reducible refine gate_callee (f := 35) rfl ?_); refine goesL_ (some 15) rfl rfl Tryd.func35 (by kernel_rfl) rfl #[.int .i64 (a0 / 16)] rfl (by (try simp only [List.map_toArray, List.map_cons, List.map_nil]); first | done | rfl | (simp only [List.length_drop, List.length_take]; rfl)) ?_; (with_reducible refine (ih k (by omega) (a0 / 16) t168 _ A6.out).mono ?_); rintro e w' ⟨rfl, ⟨nd, rfl⟩⟩; refine ⟨_, rfl, ?_⟩))
            go_ret
            exact ⟨by first | rfl | (simp; done) | (simp [*]; done) | (simp [*, q_isEmpty]; done) | (simp [*]; exact q_gt _ _ (by assumption)), by repeat (first | exact Drawn0.refl _ | apply Drawn0.step)⟩
          · rw [if_neg c7] at H
            exact absurd H (by simp)
      · rw [if_neg c4] at H
        exact absurd H (by simp)
    · rw [if_neg c3] at H
      exact absurd H (by simp)
  · rw [if_neg c2] at H
    exact absurd H (by simp)

end Go.Proofs.YtkbaihcamimnjaaDoor.Q
