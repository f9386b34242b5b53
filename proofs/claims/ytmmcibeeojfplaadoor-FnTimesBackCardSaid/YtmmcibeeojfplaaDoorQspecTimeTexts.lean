-- Printed for this seat by wip/pp.py of this repo; nothing here is trusted: Lean checks it.
import Derived.Test.YtmmcibeeojfplaaDoorQ0
import Derived.Test.YtmmcibeeojfplaaDoorQspectwo
namespace Go.Proofs.YtmmcibeeojfplaaDoor.Q
open Go.RowKit Go.Proofs.YtmmcibeeojfplaaDoorW.PrintWords Go.Proofs.YtmmcibeeojfplaaDoorW.PrintLast Go.Proofs.YtmmcibeeojfplaaDoorW.PrintMore
attribute [local go_sem] max2_int min2_int max_two min_two max_three min_three max_four min_four   -- for this text's walks alone
set_option linter.unusedVariables false
set_option linter.unusedSimpArgs false

/-! ### spec_TimeTexts: function 32 -/
def spec_TimeTexts.f (a0 : Int) (a1 : Int) : Option (ByteArray × ByteArray) := (spec_two.f (wrap64 (Int.tdiv a0 60))).bind fun t164 => (if t164.size + 1 ≤ 9223372036854775807 then ((spec_two.f (Int.tmod a0 60)).bind fun t165 => (if (t164 ++ (⟨#[58]⟩ : ByteArray)).size + t165.size ≤ 9223372036854775807 then ((spec_two.f (wrap64 (Int.tdiv a1 60))).bind fun t166 => (if t166.size + 1 ≤ 9223372036854775807 then ((spec_two.f (Int.tmod a1 60)).bind fun t167 => (if (t166 ++ (⟨#[58]⟩ : ByteArray)).size + t167.size ≤ 9223372036854775807 then (some ((t164 ++ (⟨#[58]⟩ : ByteArray)) ++ t165, (t166 ++ (⟨#[58]⟩ : ByteArray)) ++ t167)) else (none))) else (none))) else (none))) else (none))
set_option maxHeartbeats 8000000 in
set_option maxRecDepth 100000 in
theorem spec_TimeTexts.calls (a0 : Int) (a1 : Int) (r1 : ByteArray) (r2 : ByteArray) (w : World) (h : spec_TimeTexts.f a0 a1 = some (r1, r2)) :
    Calls Tryd.prog 32 #[.int .i64 a0, .int .i64 a1] w fun e w' => e = .returned (.tuple #[.string r1, .string r2]) ∧ Below w.heap.size w w' := by
  have HB := Aside0.mk (Below.refl w.heap.size w)
  have H : ((spec_two.f (wrap64 (Int.tdiv a0 60))).bind fun t164 => (if t164.size + 1 ≤ 9223372036854775807 then ((spec_two.f (Int.tmod a0 60)).bind fun t165 => (if (t164 ++ (⟨#[58]⟩ : ByteArray)).size + t165.size ≤ 9223372036854775807 then ((spec_two.f (wrap64 (Int.tdiv a1 60))).bind fun t166 => (if t166.size + 1 ≤ 9223372036854775807 then ((spec_two.f (Int.tmod a1 60)).bind fun t167 => (if (t166 ++ (⟨#[58]⟩ : ByteArray)).size + t167.size ≤ 9223372036854775807 then (some ((t164 ++ (⟨#[58]⟩ : ByteArray)) ++ t165, (t166 ++ (⟨#[58]⟩ : ByteArray)) ++ t167)) else (none))) else (none))) else (none))) else (none))) = some (r1, r2) := h
  clear h
  replace H := Option.bind_eq_some_iff.mp H
  obtain ⟨t164, A30, H⟩ := H
  replace H : (if t164.size + 1 ≤ 9223372036854775807 then ((spec_two.f (Int.tmod a0 60)).bind fun t165 => (if (t164 ++ (⟨#[58]⟩ : ByteArray)).size + t165.size ≤ 9223372036854775807 then ((spec_two.f (wrap64 (Int.tdiv a1 60))).bind fun t166 => (if t166.size + 1 ≤ 9223372036854775807 then ((spec_two.f (Int.tmod a1 60)).bind fun t167 => (if (t166 ++ (⟨#[58]⟩ : ByteArray)).size + t167.size ≤ 9223372036854775807 then (some ((t164 ++ (⟨#[58]⟩ : ByteArray)) ++ t165, (t166 ++ (⟨#[58]⟩ : ByteArray)) ++ t167)) else (none))) else (none))) else (none))) else (none)) = some (r1, r2) := H
  have A3 := Aside0.mk A30
  clear A30
  by_cases c4 : t164.size + 1 ≤ 9223372036854775807
  · rw [if_pos c4] at H
    have c4b0 := eq_true c4
    have c4b1 : decide (t164.size + 1 ≤ 9223372036854775807) = true := decide_eq_true c4
    try have c4b2 : (9223372036854775807 < t164.size + 1) = False := eq_false (Nat.not_lt.2 c4)
    replace H := Option.bind_eq_some_iff.mp H
    obtain ⟨t165, A50, H⟩ := H
    replace H : (if (t164 ++ (⟨#[58]⟩ : ByteArray)).size + t165.size ≤ 9223372036854775807 then ((spec_two.f (wrap64 (Int.tdiv a1 60))).bind fun t166 => (if t166.size + 1 ≤ 9223372036854775807 then ((spec_two.f (Int.tmod a1 60)).bind fun t167 => (if (t166 ++ (⟨#[58]⟩ : ByteArray)).size + t167.size ≤ 9223372036854775807 then (some ((t164 ++ (⟨#[58]⟩ : ByteArray)) ++ t165, (t166 ++ (⟨#[58]⟩ : ByteArray)) ++ t167)) else (none))) else (none))) else (none)) = some (r1, r2) := H
    have A5 := Aside0.mk A50
    clear A50
    by_cases c6 : (t164 ++ (⟨#[58]⟩ : ByteArray)).size + t165.size ≤ 9223372036854775807
    · rw [if_pos c6] at H
      have c6b0 := eq_true c6
      have c6b1 : decide ((t164 ++ (⟨#[58]⟩ : ByteArray)).size + t165.size ≤ 9223372036854775807) = true := decide_eq_true c6
      try have c6b2 : (9223372036854775807 < (t164 ++ (⟨#[58]⟩ : ByteArray)).size + t165.size) = False := eq_false (Nat.not_lt.2 c6)
      try have c6b3 : (9223372036854775807 < t164.size + 1 + t165.size) = False := eq_false (by have z := Nat.not_lt.2 c6; (repeat rw [ByteArray.size_append] at z); exact z)
      replace H := Option.bind_eq_some_iff.mp H
      obtain ⟨t166, A70, H⟩ := H
      replace H : (if t166.size + 1 ≤ 9223372036854775807 then ((spec_two.f (Int.tmod a1 60)).bind fun t167 => (if (t166 ++ (⟨#[58]⟩ : ByteArray)).size + t167.size ≤ 9223372036854775807 then (some ((t164 ++ (⟨#[58]⟩ : ByteArray)) ++ t165, (t166 ++ (⟨#[58]⟩ : ByteArray)) ++ t167)) else (none))) else (none)) = some (r1, r2) := H
      have A7 := Aside0.mk A70
      clear A70
      by_cases c8 : t166.size + 1 ≤ 9223372036854775807
      · rw [if_pos c8] at H
        have c8b0 := eq_true c8
        have c8b1 : decide (t166.size + 1 ≤ 9223372036854775807) = true := decide_eq_true c8
        try have c8b2 : (9223372036854775807 < t166.size + 1) = False := eq_false (Nat.not_lt.2 c8)
        replace H := Option.bind_eq_some_iff.mp H
        obtain ⟨t167, A90, H⟩ := H
        replace H : (if (t166 ++ (⟨#[58]⟩ : ByteArray)).size + t167.size ≤ 9223372036854775807 then (some ((t164 ++ (⟨#[58]⟩ : ByteArray)) ++ t165, (t166 ++ (⟨#[58]⟩ : ByteArray)) ++ t167)) else (none)) = some (r1, r2) := H
        have A9 := Aside0.mk A90
        clear A90
        by_cases c10 : (t166 ++ (⟨#[58]⟩ : ByteArray)).size + t167.size ≤ 9223372036854775807
        · rw [if_pos c10] at H
          have c10b0 := eq_true c10
          have c10b1 : decide ((t166 ++ (⟨#[58]⟩ : ByteArray)).size + t167.size ≤ 9223372036854775807) = true := decide_eq_true c10
          try have c10b2 : (9223372036854775807 < (t166 ++ (⟨#[58]⟩ : ByteArray)).size + t167.size) = False := eq_false (Nat.not_lt.2 c10)
          try have c10b3 : (9223372036854775807 < t166.size + 1 + t167.size) = False := eq_false (by have z := Nat.not_lt.2 c10; (repeat rw [ByteArray.size_append] at z); exact z)
          simp only [Option.some.injEq, Prod.mk.injEq] at H
          obtain ⟨rfl, rfl⟩ := H
          go_enter Tryd.func32, Tryd.ntmps32
          go_wp2_with (first | ((with_reducible refine gate_callee (f := 60) rfl ?_); refine goesL_ (some 8) rfl rfl Tryd.func60 (by kernel_rfl) rfl #[.int .i64 (wrap64 (Int.tdiv a0 60))] rfl (by (try simp only [List.map_toArray, List.map_cons, List.map_nil]); first | done | rfl | (simp only [List.length_drop, List.length_take]; rfl)) ?_; (with_reducible refine (spec_two.calls (wrap64 (Int.tdiv a0 60)) t164 _ A3.out).mono ?_); rintro e w11 ⟨rfl, hb⟩; refine ⟨_, rfl, ?_⟩; have n0_ := Aside0.mk (below_step (by repeat (first | (with_reducible first | exact HB.out | apply below_alloc | apply pw_below_drewN | apply below_drew1) | exact HB.out)) hb); clear HB; have HB := n0_; clear n0_; (try clear hb); (try clear hb2); (try clear hk); (try clear hi)) | ((with_reducible refine gate_callee (f := 60) rfl ?_); refine goesL_ (some 12) rfl rfl Tryd.func60 (by kernel_rfl) rfl #[.int .i64 (Int.tmod a0 60)] rfl (by (try simp only [List.map_toArray, List.map_cons, List.map_nil]); first | done | rfl | (simp only [List.length_drop, List.length_take]; rfl)) ?_; (with_reducible refine (spec_two.calls (Int.tmod a0 60) t165 _ A5.out).mono ?_); rintro e w12 ⟨rfl, hb⟩; refine ⟨_, rfl, ?_⟩; have n0_ := Aside0.mk (below_step (by repeat (first | (with_reducible first | exact HB.out | apply below_alloc | apply pw_below_drewN | apply below_drew1) | exact HB.out)) hb); clear HB; have HB := n0_; clear n0_; (try clear hb); (try clear hb2); (try clear hk); (try clear hi)) | ((with_reducible refine gate_callee (f := 60) rfl ?_); refine goesL_ (some 16) rfl rfl Tryd.func60 (by kernel_rfl) rfl #[.int .i64 (wrap64 (Int.tdiv a1 60))] rfl (by (try simp only [List.map_toArray, List.map_cons, List.map_nil]); first | done | rfl | (simp only [List.length_drop, List.length_take]; rfl)) ?_; (with_reducible refine (spec_two.calls (wrap64 (Int.tdiv a1 60)) t166 _ A7.out).mono ?_); rintro e w13 ⟨rfl, hb⟩; refine ⟨_, rfl, ?_⟩; have n0_ := Aside0.mk (below_step (by repeat (first | (with_reducible first | exact HB.out | apply below_alloc | apply pw_below_drewN | apply below_drew1) | exact HB.out)) hb); clear HB; have HB := n0_; clear n0_; (try clear hb); (try clear hb2); (try clear hk); (try clear hi)) | ((with_reducible refine gate_callee (f := 60) rfl ?_); refine goesL_ (some 20) rfl rfl Tryd.func60 (by kernel_rfl) rfl #[.int .i64 (Int.tmod a1 60)] rfl (by (try simp only [List.map_toArray, List.map_cons, List.map_nil]); first | done | rfl | (simp only [List.length_drop, List.length_take]; rfl)) ?_; (with_reducible refine (spec_two.calls (Int.tmod a1 60) t167 _ A9.out).mono ?_); rintro e w14 ⟨rfl, hb⟩; refine ⟨_, rfl, ?_⟩; have n0_ := Aside0.mk (below_step (by repeat (first | (with_reducible first | exact HB.out | apply below_alloc | apply pw_below_drewN | apply below_drew1) | exact HB.out)) hb); clear HB; have HB := n0_; clear n0_; (try clear hb); (try clear hb2); (try clear hk); (try clear hi)))
          go_ret2
          exact ⟨by first | rfl | (simp [errW_none, errW_some] <;> rfl) | (simp [*, errW_none, errW_some] <;> rfl) | (simp [*, q_isEmpty]; done) | (simp [*]; exact q_gt _ _ (by assumption)), by repeat (first | (with_reducible first | exact HB.out | apply below_alloc | apply pw_below_drewN | apply below_drew1) | exact HB.out)⟩
        · rw [if_neg c10] at H
          exact absurd H (by simp)
      · rw [if_neg c8] at H
        exact absurd H (by simp)
    · rw [if_neg c6] at H
      exact absurd H (by simp)
  · rw [if_neg c4] at H
    exact absurd H (by simp)

end Go.Proofs.YtmmcibeeojfplaaDoor.Q
