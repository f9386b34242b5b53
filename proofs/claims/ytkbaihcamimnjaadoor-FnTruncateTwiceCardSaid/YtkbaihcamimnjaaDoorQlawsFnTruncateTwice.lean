-- Printed for this seat by wip/pp.py of this repo; nothing here is trusted: Lean checks it.
import Derived.Test.YtkbaihcamimnjaaDoorHTabU
import Derived.Test.YtkbaihcamimnjaaDoorQ0
import Derived.Test.YtkbaihcamimnjaaDoorHTrunc
import Derived.Test.YtkbaihcamimnjaaDoorHValid
import Derived.Test.YtkbaihcamimnjaaDoorQlawslong
import Derived.Test.YtkbaihcamimnjaaDoorQspecRunes
namespace Go.Proofs.YtkbaihcamimnjaaDoor.Q
open Go.RowKit Go.Proofs.YtkbaihcamimnjaaDoorW.PrintWords Go.Proofs.YtkbaihcamimnjaaDoorW.PrintLast Go.Proofs.YtkbaihcamimnjaaDoorW.PrintMore
attribute [local go_sem] max2_int min2_int max_two min_two max_three min_three max_four min_four   -- for this text's walks alone
set_option linter.unusedVariables false
set_option linter.unusedSimpArgs false

/-! ### laws_FnTruncateTwice: function 9 -/
mutual
def laws_FnTruncateTwice.j0 : Nat → ByteArray → Int → Int → Bool → Option (Bool)
  | 0, _, _, _, _ => none
  | k + 1, x0, x1, x2, x39 => if x39 = true then (some false) else ((laws_long.f x0).bind fun t185 => (if t185 = true then (laws_FnTruncateTwice.j1 k x0 x1 x2 true) else (if x1 < 0 then (laws_FnTruncateTwice.j1 k x0 x1 x2 true) else (if x1 > 1048576 then (laws_FnTruncateTwice.j1 k x0 x1 x2 true) else (if x2 < 0 then (laws_FnTruncateTwice.j1 k x0 x1 x2 true) else (if x2 > x1 then (laws_FnTruncateTwice.j1 k x0 x1 x2 true) else ((utf8_ValidString.f x0).bind fun t186 => (laws_FnTruncateTwice.j1 k x0 x1 x2 (!t186)))))))))
def laws_FnTruncateTwice.j1 : Nat → ByteArray → Int → Int → Bool → Option (Bool)
  | 0, _, _, _, _ => none
  | k + 1, x0, x1, x2, x63 => if x63 = true then (some true) else ((impl_TruncateRunes.f x0 x1).bind fun bt187 => ((impl_TruncateRunes.f bt187.1 x1).bind fun bt189 => ((impl_TruncateRunes.f bt187.1 x2).bind fun bt191 => (if bt187.1.toList = bt189.1.toList then (if bt189.2 = true then (laws_FnTruncateTwice.j2 k x0 x1 x2 true) else ((spec_Runes.f k bt191.1).bind fun t193 => (laws_FnTruncateTwice.j2 k x0 x1 x2 (decide (t193 > x2))))) else (laws_FnTruncateTwice.j2 k x0 x1 x2 true)))))
def laws_FnTruncateTwice.j2 : Nat → ByteArray → Int → Int → Bool → Option (Bool)
  | 0, _, _, _, _ => none
  | k + 1, x0, x1, x2, x93 => if x93 = true then (some false) else ((spec_Runes.f k x0).bind fun t194 => (if t194 < (wrap64 (x1 - 3)) then (some true) else ((impl_TruncateBytes.f x0 x1).bind fun bt195 => ((spec_Runes.f k bt195.1).bind fun t197 => (if t197 < (wrap64 (x1 - 3)) then (laws_FnTruncateTwice.j3 k x1 x2 bt195.1 true) else (laws_FnTruncateTwice.j3 k x1 x2 bt195.1 (decide (t197 < (wrap64 (x2 - 3))))))))))
def laws_FnTruncateTwice.j3 : Nat → Int → Int → ByteArray → Bool → Option (Bool)
  | 0, _, _, _, _ => none
  | k + 1, x1, x2, x15, x116 => if x116 = true then (some true) else ((impl_TruncateBytes.f x15 x1).bind fun bt198 => ((impl_TruncateBytes.f x15 x2).bind fun bt200 => (if x15.toList = bt198.1.toList then (if bt198.2 = true then (some false) else (some (decide ((bt200.1.size : Int) ≤ x2)))) else (some false))))
end
def laws_FnTruncateTwice.f (k : Nat) (a0 : ByteArray) (a1 : Int) (a2 : Int) : Option (Bool) := if (a0.size : Int) > 2147483647 then (some true) else ((impl_TruncateBytes.f (⟨#[97, 98, 99, 100, 101, 102]⟩ : ByteArray) 5).bind fun bt183 => (if bt183.2 = true then (if (bt183.1.size : Int) > 5 then (laws_FnTruncateTwice.j0 k a0 a1 a2 true) else (laws_FnTruncateTwice.j0 k a0 a1 a2 ((bt183.1.size : Int) == 0))) else (laws_FnTruncateTwice.j0 k a0 a1 a2 true)))
theorem laws_FnTruncateTwice.mono_l : ∀ k, (∀ y0 y1 y2 y3, LeO (laws_FnTruncateTwice.j0 k y0 y1 y2 y3) (laws_FnTruncateTwice.j0 (k + 1) y0 y1 y2 y3)) ∧ (∀ y0 y1 y2 y3, LeO (laws_FnTruncateTwice.j1 k y0 y1 y2 y3) (laws_FnTruncateTwice.j1 (k + 1) y0 y1 y2 y3)) ∧ (∀ y0 y1 y2 y3, LeO (laws_FnTruncateTwice.j2 k y0 y1 y2 y3) (laws_FnTruncateTwice.j2 (k + 1) y0 y1 y2 y3)) ∧ (∀ y0 y1 y2 y3, LeO (laws_FnTruncateTwice.j3 k y0 y1 y2 y3) (laws_FnTruncateTwice.j3 (k + 1) y0 y1 y2 y3))
  | 0 => ⟨fun _ _ _ _ r h => by simp [laws_FnTruncateTwice.j0] at h, fun _ _ _ _ r h => by simp [laws_FnTruncateTwice.j1] at h, fun _ _ _ _ r h => by simp [laws_FnTruncateTwice.j2] at h, fun _ _ _ _ r h => by simp [laws_FnTruncateTwice.j3] at h⟩
  | k + 1 => by
    obtain ⟨ih0, ih1, ih2, ih3⟩ := laws_FnTruncateTwice.mono_l k
    refine ⟨?_, ?_, ?_, ?_⟩
    · intro y0 y1 y2 y3
      unfold laws_FnTruncateTwice.j0
      repeat' first
      | (with_reducible exact ih0 _ _ _ _)
      | (with_reducible exact ih1 _ _ _ _)
      | (with_reducible exact ih2 _ _ _ _)
      | (with_reducible exact ih3 _ _ _ _)
      | (with_reducible exact spec_Runes.mono _ _)
      | (with_reducible exact LeO.refl _)
      | (with_reducible exact LeO.none _)
      | (with_reducible refine LeO.ite ?_ ?_)
      | (with_reducible refine LeO.bind ?_ (fun _ => ?_))
      | exact ih0 _ _ _ _
      | exact ih1 _ _ _ _
      | exact ih2 _ _ _ _
      | exact ih3 _ _ _ _
      | exact spec_Runes.mono _ _
      | exact LeO.none _
      | refine LeO.ite ?_ ?_
      | refine LeO.bind ?_ (fun _ => ?_)
    · intro y0 y1 y2 y3
      unfold laws_FnTruncateTwice.j1
      repeat' first
      | (with_reducible exact ih0 _ _ _ _)
      | (with_reducible exact ih1 _ _ _ _)
      | (with_reducible exact ih2 _ _ _ _)
      | (with_reducible exact ih3 _ _ _ _)
      | (with_reducible exact spec_Runes.mono _ _)
      | (with_reducible exact LeO.refl _)
      | (with_reducible exact LeO.none _)
      | (with_reducible refine LeO.ite ?_ ?_)
      | (with_reducible refine LeO.bind ?_ (fun _ => ?_))
      | exact ih0 _ _ _ _
      | exact ih1 _ _ _ _
      | exact ih2 _ _ _ _
      | exact ih3 _ _ _ _
      | exact spec_Runes.mono _ _
      | exact LeO.none _
      | refine LeO.ite ?_ ?_
      | refine LeO.bind ?_ (fun _ => ?_)
    · intro y0 y1 y2 y3
      unfold laws_FnTruncateTwice.j2
      repeat' first
      | (with_reducible exact ih0 _ _ _ _)
      | (with_reducible exact ih1 _ _ _ _)
      | (with_reducible exact ih2 _ _ _ _)
      | (with_reducible exact ih3 _ _ _ _)
      | (with_reducible exact spec_Runes.mono _ _)
      | (with_reducible exact LeO.refl _)
      | (with_reducible exact LeO.none _)
      | (with_reducible refine LeO.ite ?_ ?_)
      | (with_reducible refine LeO.bind ?_ (fun _ => ?_))
      | exact ih0 _ _ _ _
      | exact ih1 _ _ _ _
      | exact ih2 _ _ _ _
      | exact ih3 _ _ _ _
      | exact spec_Runes.mono _ _
      | exact LeO.none _
      | refine LeO.ite ?_ ?_
      | refine LeO.bind ?_ (fun _ => ?_)
    · intro y0 y1 y2 y3
      unfold laws_FnTruncateTwice.j3
      repeat' first
      | (with_reducible exact ih0 _ _ _ _)
      | (with_reducible exact ih1 _ _ _ _)
      | (with_reducible exact ih2 _ _ _ _)
      | (with_reducible exact ih3 _ _ _ _)
      | (with_reducible exact spec_Runes.mono _ _)
      | (with_reducible exact LeO.refl _)
      | (with_reducible exact LeO.none _)
      | (with_reducible refine LeO.ite ?_ ?_)
      | (with_reducible refine LeO.bind ?_ (fun _ => ?_))
      | exact ih0 _ _ _ _
      | exact ih1 _ _ _ _
      | exact ih2 _ _ _ _
      | exact ih3 _ _ _ _
      | exact spec_Runes.mono _ _
      | exact LeO.none _
      | refine LeO.ite ?_ ?_
      | refine LeO.bind ?_ (fun _ => ?_)
theorem laws_FnTruncateTwice.mono : ∀ a0 a1 a2 k, LeO (laws_FnTruncateTwice.f k a0 a1 a2) (laws_FnTruncateTwice.f (k + 1) a0 a1 a2) := by
  intro a0 a1 a2 k
  obtain ⟨ih0, ih1, ih2, ih3⟩ := laws_FnTruncateTwice.mono_l k
  unfold laws_FnTruncateTwice.f
  repeat' first
      | (with_reducible exact ih0 _ _ _ _)
      | (with_reducible exact ih1 _ _ _ _)
      | (with_reducible exact ih2 _ _ _ _)
      | (with_reducible exact ih3 _ _ _ _)
      | (with_reducible exact spec_Runes.mono _ _)
      | (with_reducible exact LeO.refl _)
      | (with_reducible exact LeO.none _)
      | (with_reducible refine LeO.ite ?_ ?_)
      | (with_reducible refine LeO.bind ?_ (fun _ => ?_))
      | exact ih0 _ _ _ _
      | exact ih1 _ _ _ _
      | exact ih2 _ _ _ _
      | exact ih3 _ _ _ _
      | exact spec_Runes.mono _ _
      | exact LeO.none _
      | refine LeO.ite ?_ ?_
      | refine LeO.bind ?_ (fun _ => ?_)
set_option maxHeartbeats 8000000 in
set_option maxRecDepth 100000 in
theorem laws_FnTruncateTwice.calls (k : Nat) (a0 : ByteArray) (a1 : Int) (a2 : Int) (r : Bool) (w : World) (tb : TBu w) (h : laws_FnTruncateTwice.f k a0 a1 a2 = some r) :
    Calls Tryd.prog 9 #[.string a0, .int .i64 a1, .int .i64 a2] w fun e w' => e = .returned (.bool r) ∧ Below w.heap.size w w' := by
  have HB := Aside0.mk (Below.refl w.heap.size w)
  have TB0 := Aside0.mk tb
  clear tb
  have H : (if (a0.size : Int) > 2147483647 then (some true) else ((impl_TruncateBytes.f (⟨#[97, 98, 99, 100, 101, 102]⟩ : ByteArray) 5).bind fun bt183 => (if bt183.2 = true then (if (bt183.1.size : Int) > 5 then (laws_FnTruncateTwice.j0 k a0 a1 a2 true) else (laws_FnTruncateTwice.j0 k a0 a1 a2 ((bt183.1.size : Int) == 0))) else (laws_FnTruncateTwice.j0 k a0 a1 a2 true)))) = some r := h
  clear h
  by_cases c4 : (a0.size : Int) > 2147483647
  · rw [if_pos c4] at H
    have c4b0 : decide (2147483647 < (a0.size : Int)) = true := decide_eq_true c4
    have c4b1 : decide (2147483647 < a0.size) = true := decide_eq_true (by omega)
    clear c4
    obtain rfl := Option.some.inj H
    go_enter Tryd.func9, Tryd.ntmps9
    go_wp2
    go_ret
    exact ⟨by first | rfl | (simp [errW_none, errW_some] <;> rfl) | (simp [*, errW_none, errW_some] <;> rfl) | (simp [*, q_isEmpty]; done) | (simp [*]; exact q_gt _ _ (by assumption)), by repeat (first | (with_reducible first | exact HB.out | apply below_alloc | apply pw_below_drewN | apply below_drew1) | exact HB.out)⟩
  · rw [if_neg c4] at H
    have c4b0 : decide (2147483647 < (a0.size : Int)) = false := decide_eq_false c4
    have c4b1 : decide (2147483647 < a0.size) = false := decide_eq_false (by omega)
    clear c4
    replace H := Option.bind_eq_some_iff.mp H
    obtain ⟨⟨t183, t184⟩, A50, H⟩ := H
    replace H : (if t184 = true then (if (t183.size : Int) > 5 then (laws_FnTruncateTwice.j0 k a0 a1 a2 true) else (laws_FnTruncateTwice.j0 k a0 a1 a2 ((t183.size : Int) == 0))) else (laws_FnTruncateTwice.j0 k a0 a1 a2 true)) = some r := H
    have A5 := Aside0.mk A50
    clear A50
    have HC6 := Aside0.mk H
    clear H
    go_enter Tryd.func9, Tryd.ntmps9
    go_upto_region 4 with (first | ((with_reducible refine gate_callee (f := 21) rfl ?_); refine goesL_ (some 25) rfl rfl Tryd.func21 (by kernel_rfl) rfl #[.string (⟨#[97, 98, 99, 100, 101, 102]⟩ : ByteArray), .int .i64 5] rfl (by (try simp only [List.map_toArray, List.map_cons, List.map_nil]); first | done | rfl | (simp only [List.length_drop, List.length_take]; rfl)) ?_; (with_reducible refine (impl_TruncateBytes.calls (⟨#[97, 98, 99, 100, 101, 102]⟩ : ByteArray) 5 t183 t184 _ A5.out).mono ?_); rintro e w7 ⟨rfl, hb⟩; refine ⟨_, rfl, ?_⟩; have n0_ := Aside0.mk (below_step (by repeat (first | (with_reducible first | exact HB.out | apply below_alloc | apply pw_below_drewN | apply below_drew1) | exact HB.out)) hb); clear HB; have HB := n0_; clear n0_; (try clear hb); (try clear hb2); (try clear hk); (try clear hi)))
    (try simp only [Act.put, List.setIfInBounds_toArray, List.set_cons_zero, List.set_cons_succ])
    go_cut [39] (fun v39 wc => ∃ (kq : Nat) (x39_5 : Bool), v39 = .bool x39_5 ∧ Aside0 (laws_FnTruncateTwice.j0 kq a0 a1 a2 x39_5 = some r) ∧ Aside0 (kq ≤ k) ∧ Aside0 (Below w.heap.size w wc))
    case first =>
      have H := HC6.out
      clear HC6
      by_cases c8 : t184 = true
      · subst c8
        have H1 : (if (t183.size : Int) > 5 then (laws_FnTruncateTwice.j0 k a0 a1 a2 true) else (laws_FnTruncateTwice.j0 k a0 a1 a2 ((t183.size : Int) == 0))) = some r := by rw [if_pos rfl] at H; exact H
        clear H
        have H := H1
        clear H1
        by_cases c9 : (t183.size : Int) > 5
        · rw [if_pos c9] at H
          have c9b0 : decide (5 < (t183.size : Int)) = true := decide_eq_true c9
          have c9b1 : decide (5 < t183.size) = true := decide_eq_true (by omega)
          clear c9
          (first | rw [c9b0] | (simp only [i64_w, i32_w]; rw [c9b0]) | skip)
          have H' := Aside0.mk H
          clear H
          go_wp2
          go_meet
          case rel => exact ⟨_, (true), (by first | rfl | (simp; done) | (simp [*]; done) | (simp [*, q_isEmpty]; done) | (simp [*]; exact q_gt _ _ (by assumption))), H', ⟨by first | omega | exact Nat.le_refl _⟩, ⟨by repeat (first | (with_reducible first | exact HB.out | apply below_alloc | apply pw_below_drewN | apply below_drew1) | exact HB.out)⟩⟩
        · rw [if_neg c9] at H
          have c9b0 : decide (5 < (t183.size : Int)) = false := decide_eq_false c9
          have c9b1 : decide (5 < t183.size) = false := decide_eq_false (by omega)
          clear c9
          (first | rw [c9b0] | (simp only [i64_w, i32_w]; rw [c9b0]) | skip)
          have H' := Aside0.mk H
          clear H
          go_wp2
          go_meet
          case rel => exact ⟨_, (((t183.size : Int) == 0)), (by first | rfl | (simp; done) | (simp [*]; done) | (simp [*, q_isEmpty]; done) | (simp [*]; exact q_gt _ _ (by assumption))), H', ⟨by first | omega | exact Nat.le_refl _⟩, ⟨by repeat (first | (with_reducible first | exact HB.out | apply below_alloc | apply pw_below_drewN | apply below_drew1) | exact HB.out)⟩⟩
      · replace c8 := Bool.eq_false_iff.mpr c8
        subst c8
        have H1 : (laws_FnTruncateTwice.j0 k a0 a1 a2 true) = some r := by rw [if_neg (show ¬ (false = true) by decide)] at H; exact H
        clear H
        have H := H1
        clear H1
        have H' := Aside0.mk H
        clear H
        go_wp2
        go_meet
        case rel => exact ⟨_, (true), (by first | rfl | (simp; done) | (simp [*]; done) | (simp [*, q_isEmpty]; done) | (simp [*]; exact q_gt _ _ (by assumption))), H', ⟨by first | omega | exact Nat.le_refl _⟩, ⟨by repeat (first | (with_reducible first | exact HB.out | apply below_alloc | apply pw_below_drewN | apply below_drew1) | exact HB.out)⟩⟩
    case rest =>
      clear HC6
      try clear c2
      try clear p2
      try clear c4
      try clear c4b0
      try clear c4b1
      try clear c8
      try clear c9
      try clear c9b0
      try clear c9b1
      obtain ⟨kq, x39_5, rfl, HA, HJ5, HB⟩ := hcut
      cases kq with
      | zero => exact absurd HA.out (by simp [laws_FnTruncateTwice.j0])
      | succ kj5 =>
        have H := HA.out
        clear HA
        simp only [laws_FnTruncateTwice.j0] at H
        by_cases c10 : x39_5 = true
        · subst c10
          have H1 : (some false) = some r := by rw [if_pos rfl] at H; exact H
          clear H
          have H := H1
          clear H1
          obtain rfl := Option.some.inj H
          go_wp2
          go_ret
          exact ⟨by first | rfl | (simp [errW_none, errW_some] <;> rfl) | (simp [*, errW_none, errW_some] <;> rfl) | (simp [*, q_isEmpty]; done) | (simp [*]; exact q_gt _ _ (by assumption)), by repeat (first | (with_reducible first | exact HB.out | apply below_alloc | apply pw_below_drewN | apply below_drew1) | exact HB.out)⟩
        · replace c10 := Bool.eq_false_iff.mpr c10
          subst c10
          have H1 : ((laws_long.f a0).bind fun t185 => (if t185 = true then (laws_FnTruncateTwice.j1 kj5 a0 a1 a2 true) else (if a1 < 0 then (laws_FnTruncateTwice.j1 kj5 a0 a1 a2 true) else (if a1 > 1048576 then (laws_FnTruncateTwice.j1 kj5 a0 a1 a2 true) else (if a2 < 0 then (laws_FnTruncateTwice.j1 kj5 a0 a1 a2 true) else (if a2 > a1 then (laws_FnTruncateTwice.j1 kj5 a0 a1 a2 true) else ((utf8_ValidString.f a0).bind fun t186 => (laws_FnTruncateTwice.j1 kj5 a0 a1 a2 (!t186))))))))) = some r := by rw [if_neg (show ¬ (false = true) by decide)] at H; exact H
          clear H
          have H := H1
          clear H1
          have HC11 := Aside0.mk H
          clear H
          go_upto_region 6 with (fail)
          go_cut [63] (fun v63 wc => ∃ (kq : Nat) (x63_10 : Bool), v63 = .bool x63_10 ∧ Aside0 (laws_FnTruncateTwice.j1 kq a0 a1 a2 x63_10 = some r) ∧ Aside0 (kq ≤ kj5) ∧ Aside0 (Below w.heap.size w wc))
          case first =>
            have H := HC11.out
            clear HC11
            replace H := Option.bind_eq_some_iff.mp H
            obtain ⟨t185, A120, H⟩ := H
            replace H : (if t185 = true then (laws_FnTruncateTwice.j1 kj5 a0 a1 a2 true) else (if a1 < 0 then (laws_FnTruncateTwice.j1 kj5 a0 a1 a2 true) else (if a1 > 1048576 then (laws_FnTruncateTwice.j1 kj5 a0 a1 a2 true) else (if a2 < 0 then (laws_FnTruncateTwice.j1 kj5 a0 a1 a2 true) else (if a2 > a1 then (laws_FnTruncateTwice.j1 kj5 a0 a1 a2 true) else ((utf8_ValidString.f a0).bind fun t186 => (laws_FnTruncateTwice.j1 kj5 a0 a1 a2 (!t186)))))))) = some r := H
            have A12 := Aside0.mk A120
            clear A120
            by_cases c13 : t185 = true
            · subst c13
              have H1 : (laws_FnTruncateTwice.j1 kj5 a0 a1 a2 true) = some r := by rw [if_pos rfl] at H; exact H
              clear H
              have H := H1
              clear H1
              have H' := Aside0.mk H
              clear H
              go_wp2_with (first | ((with_reducible refine gate_callee (f := 19) rfl ?_); refine goesL_ (some 41) rfl rfl Tryd.func19 (by kernel_rfl) rfl #[.string a0] rfl (by (try simp only [List.map_toArray, List.map_cons, List.map_nil]); first | done | rfl | (simp only [List.length_drop, List.length_take]; rfl)) ?_; (with_reducible refine (laws_long.calls a0 true _ A12.out).mono ?_); rintro e w' ⟨rfl, ⟨nd, rfl⟩⟩; refine ⟨_, rfl, ?_⟩))
              go_meet
              case rel => exact ⟨_, (true), (by first | rfl | (simp; done) | (simp [*]; done) | (simp [*, q_isEmpty]; done) | (simp [*]; exact q_gt _ _ (by assumption))), H', ⟨by have := HJ5.out; first | omega | exact Nat.le_refl _⟩, ⟨by repeat (first | (with_reducible first | exact HB.out | apply below_alloc | apply pw_below_drewN | apply below_drew1) | exact HB.out)⟩⟩
            · replace c13 := Bool.eq_false_iff.mpr c13
              subst c13
              have H1 : (if a1 < 0 then (laws_FnTruncateTwice.j1 kj5 a0 a1 a2 true) else (if a1 > 1048576 then (laws_FnTruncateTwice.j1 kj5 a0 a1 a2 true) else (if a2 < 0 then (laws_FnTruncateTwice.j1 kj5 a0 a1 a2 true) else (if a2 > a1 then (laws_FnTruncateTwice.j1 kj5 a0 a1 a2 true) else ((utf8_ValidString.f a0).bind fun t186 => (laws_FnTruncateTwice.j1 kj5 a0 a1 a2 (!t186))))))) = some r := by rw [if_neg (show ¬ (false = true) by decide)] at H; exact H
              clear H
              have H := H1
              clear H1
              by_cases c14 : a1 < 0
              · rw [if_pos c14] at H
                have c14b0 : decide (a1 < 0) = true := decide_eq_true c14
                clear c14
                (first | rw [c14b0] | (simp only [i64_w, i32_w]; rw [c14b0]) | skip)
                have H' := Aside0.mk H
                clear H
                go_wp2_with (first | ((with_reducible refine gate_callee (f := 19) rfl ?_); refine goesL_ (some 41) rfl rfl Tryd.func19 (by kernel_rfl) rfl #[.string a0] rfl (by (try simp only [List.map_toArray, List.map_cons, List.map_nil]); first | done | rfl | (simp only [List.length_drop, List.length_take]; rfl)) ?_; (with_reducible refine (laws_long.calls a0 false _ A12.out).mono ?_); rintro e w' ⟨rfl, ⟨nd, rfl⟩⟩; refine ⟨_, rfl, ?_⟩))
                go_meet
                case rel => exact ⟨_, (true), (by first | rfl | (simp; done) | (simp [*]; done) | (simp [*, q_isEmpty]; done) | (simp [*]; exact q_gt _ _ (by assumption))), H', ⟨by have := HJ5.out; first | omega | exact Nat.le_refl _⟩, ⟨by repeat (first | (with_reducible first | exact HB.out | apply below_alloc | apply pw_below_drewN | apply below_drew1) | exact HB.out)⟩⟩
              · rw [if_neg c14] at H
                have c14b0 : decide (a1 < 0) = false := decide_eq_false c14
                clear c14
                (first | rw [c14b0] | (simp only [i64_w, i32_w]; rw [c14b0]) | skip)
                by_cases c15 : a1 > 1048576
                · rw [if_pos c15] at H
                  have c15b0 : decide (1048576 < a1) = true := decide_eq_true c15
                  clear c15
                  have H' := Aside0.mk H
                  clear H
                  go_wp2_with (first | ((with_reducible refine gate_callee (f := 19) rfl ?_); refine goesL_ (some 41) rfl rfl Tryd.func19 (by kernel_rfl) rfl #[.string a0] rfl (by (try simp only [List.map_toArray, List.map_cons, List.map_nil]); first | done | rfl | (simp only [List.length_drop, List.length_take]; rfl)) ?_; (with_reducible refine (laws_long.calls a0 false _ A12.out).mono ?_); rintro e w' ⟨rfl, ⟨nd, rfl⟩⟩; refine ⟨_, rfl, ?_⟩))
                  go_meet
                  case rel => exact ⟨_, (true), (by first | rfl | (simp; done) | (simp [*]; done) | (simp [*, q_isEmpty]; done) | (simp [*]; exact q_gt _ _ (by assumption))), H', ⟨by have := HJ5.out; first | omega | exact Nat.le_refl _⟩, ⟨by repeat (first | (with_reducible first | exact HB.out | apply below_alloc | apply pw_below_drewN | apply below_drew1) | exact HB.out)⟩⟩
                · rw [if_neg c15] at H
                  have c15b0 : decide (1048576 < a1) = false := decide_eq_false c15
                  clear c15
                  by_cases c16 : a2 < 0
                  · rw [if_pos c16] at H
                    have c16b0 : decide (a2 < 0) = true := decide_eq_true c16
                    clear c16
                    have H' := Aside0.mk H
                    clear H
                    go_wp2_with (first | ((with_reducible refine gate_callee (f := 19) rfl ?_); refine goesL_ (some 41) rfl rfl Tryd.func19 (by kernel_rfl) rfl #[.string a0] rfl (by (try simp only [List.map_toArray, List.map_cons, List.map_nil]); first | done | rfl | (simp only [List.length_drop, List.length_take]; rfl)) ?_; (with_reducible refine (laws_long.calls a0 false _ A12.out).mono ?_); rintro e w' ⟨rfl, ⟨nd, rfl⟩⟩; refine ⟨_, rfl, ?_⟩))
                    go_meet
                    case rel => exact ⟨_, (true), (by first | rfl | (simp; done) | (simp [*]; done) | (simp [*, q_isEmpty]; done) | (simp [*]; exact q_gt _ _ (by assumption))), H', ⟨by have := HJ5.out; first | omega | exact Nat.le_refl _⟩, ⟨by repeat (first | (with_reducible first | exact HB.out | apply below_alloc | apply pw_below_drewN | apply below_drew1) | exact HB.out)⟩⟩
                  · rw [if_neg c16] at H
                    have c16b0 : decide (a2 < 0) = false := decide_eq_false c16
                    clear c16
                    by_cases c17 : a2 > a1
                    · rw [if_pos c17] at H
                      have c17b0 : decide (a1 < a2) = true := decide_eq_true c17
                      clear c17
                      have H' := Aside0.mk H
                      clear H
                      go_wp2_with (first | ((with_reducible refine gate_callee (f := 19) rfl ?_); refine goesL_ (some 41) rfl rfl Tryd.func19 (by kernel_rfl) rfl #[.string a0] rfl (by (try simp only [List.map_toArray, List.map_cons, List.map_nil]); first | done | rfl | (simp only [List.length_drop, List.length_take]; rfl)) ?_; (with_reducible refine (laws_long.calls a0 false _ A12.out).mono ?_); rintro e w' ⟨rfl, ⟨nd, rfl⟩⟩; refine ⟨_, rfl, ?_⟩))
                      go_meet
                      case rel => exact ⟨_, (true), (by first | rfl | (simp; done) | (simp [*]; done) | (simp [*, q_isEmpty]; done) | (simp [*]; exact q_gt _ _ (by assumption))), H', ⟨by have := HJ5.out; first | omega | exact Nat.le_refl _⟩, ⟨by repeat (first | (with_reducible first | exact HB.out | apply below_alloc | apply pw_below_drewN | apply below_drew1) | exact HB.out)⟩⟩
                    · rw [if_neg c17] at H
                      have c17b0 : decide (a1 < a2) = false := decide_eq_false c17
                      clear c17
                      replace H := Option.bind_eq_some_iff.mp H
                      obtain ⟨t186, A180, H⟩ := H
                      replace H : (laws_FnTruncateTwice.j1 kj5 a0 a1 a2 (!t186)) = some r := H
                      have A18 := Aside0.mk A180
                      clear A180
                      have H' := Aside0.mk H
                      clear H
                      go_wp2_with (first | ((with_reducible refine gate_callee (f := 19) rfl ?_); refine goesL_ (some 41) rfl rfl Tryd.func19 (by kernel_rfl) rfl #[.string a0] rfl (by (try simp only [List.map_toArray, List.map_cons, List.map_nil]); first | done | rfl | (simp only [List.length_drop, List.length_take]; rfl)) ?_; (with_reducible refine (laws_long.calls a0 false _ A12.out).mono ?_); rintro e w' ⟨rfl, ⟨nd, rfl⟩⟩; refine ⟨_, rfl, ?_⟩) | (go_at_call 15; (with_reducible refine (utf8_ValidString.calls a0 t186 _ (TBu.below TB0.out (by repeat (first | (with_reducible first | exact HB.out | apply below_alloc | apply pw_below_drewN | apply below_drew1) | exact HB.out))) A18.out).mono ?_); rintro e w19 ⟨rfl, hb⟩; have n0_ := Aside0.mk (below_step (by repeat (first | (with_reducible first | exact HB.out | apply below_alloc | apply pw_below_drewN | apply below_drew1) | exact HB.out)) hb); clear HB; have HB := n0_; clear n0_; (try clear hb); (try clear hb2); (try clear hk); (try clear hi)))
                      go_meet
                      case rel => exact ⟨_, (!t186), (by first | rfl | (simp; done) | (simp [*]; done) | (simp [*, q_isEmpty]; done) | (simp [*]; exact q_gt _ _ (by assumption))), H', ⟨by have := HJ5.out; first | omega | exact Nat.le_refl _⟩, ⟨by repeat (first | (with_reducible first | exact HB.out | apply below_alloc | apply pw_below_drewN | apply below_drew1) | exact HB.out)⟩⟩
          case rest =>
            clear HC11
            try clear c1
            try clear c2
            try clear p2
            try clear c4
            try clear c4b0
            try clear c4b1
            try clear c8
            try clear c9
            try clear c9b0
            try clear c9b1
            try clear c10
            try clear c13
            try clear c14
            try clear c14b0
            try clear c15
            try clear c15b0
            try clear c16
            try clear c16b0
            try clear c17
            try clear c17b0
            try clear c19
            try clear p2
            obtain ⟨kq, x63_10, rfl, HA, HJ10, HB⟩ := hcut
            cases kq with
            | zero => exact absurd HA.out (by simp [laws_FnTruncateTwice.j1])
            | succ kj10 =>
              have H := HA.out
              clear HA
              simp only [laws_FnTruncateTwice.j1] at H
              by_cases c20 : x63_10 = true
              · subst c20
                have H1 : (some true) = some r := by rw [if_pos rfl] at H; exact H
                clear H
                have H := H1
                clear H1
                obtain rfl := Option.some.inj H
                go_wp2
                go_ret
                exact ⟨by first | rfl | (simp [errW_none, errW_some] <;> rfl) | (simp [*, errW_none, errW_some] <;> rfl) | (simp [*, q_isEmpty]; done) | (simp [*]; exact q_gt _ _ (by assumption)), by repeat (first | (with_reducible first | exact HB.out | apply below_alloc | apply pw_below_drewN | apply below_drew1) | exact HB.out)⟩
              · replace c20 := Bool.eq_false_iff.mpr c20
                subst c20
                have H1 : ((impl_TruncateRunes.f a0 a1).bind fun bt187 => ((impl_TruncateRunes.f bt187.1 a1).bind fun bt189 => ((impl_TruncateRunes.f bt187.1 a2).bind fun bt191 => (if bt187.1.toList = bt189.1.toList then (if bt189.2 = true then (laws_FnTruncateTwice.j2 kj10 a0 a1 a2 true) else ((spec_Runes.f kj10 bt191.1).bind fun t193 => (laws_FnTruncateTwice.j2 kj10 a0 a1 a2 (decide (t193 > a2))))) else (laws_FnTruncateTwice.j2 kj10 a0 a1 a2 true))))) = some r := by rw [if_neg (show ¬ (false = true) by decide)] at H; exact H
                clear H
                have H := H1
                clear H1
                replace H := Option.bind_eq_some_iff.mp H
                obtain ⟨⟨t187, t188⟩, A210, H⟩ := H
                replace H : ((impl_TruncateRunes.f t187 a1).bind fun bt189 => ((impl_TruncateRunes.f t187 a2).bind fun bt191 => (if t187.toList = bt189.1.toList then (if bt189.2 = true then (laws_FnTruncateTwice.j2 kj10 a0 a1 a2 true) else ((spec_Runes.f kj10 bt191.1).bind fun t193 => (laws_FnTruncateTwice.j2 kj10 a0 a1 a2 (decide (t193 > a2))))) else (laws_FnTruncateTwice.j2 kj10 a0 a1 a2 true)))) = some r := H
                have A21 := Aside0.mk A210
                clear A210
                replace H := Option.bind_eq_some_iff.mp H
                obtain ⟨⟨t189, t190⟩, A220, H⟩ := H
                replace H : ((impl_TruncateRunes.f t187 a2).bind fun bt191 => (if t187.toList = t189.toList then (if t190 = true then (laws_FnTruncateTwice.j2 kj10 a0 a1 a2 true) else ((spec_Runes.f kj10 bt191.1).bind fun t193 => (laws_FnTruncateTwice.j2 kj10 a0 a1 a2 (decide (t193 > a2))))) else (laws_FnTruncateTwice.j2 kj10 a0 a1 a2 true))) = some r := H
                have A22 := Aside0.mk A220
                clear A220
                replace H := Option.bind_eq_some_iff.mp H
                obtain ⟨⟨t191, t192⟩, A230, H⟩ := H
                replace H : (if t187.toList = t189.toList then (if t190 = true then (laws_FnTruncateTwice.j2 kj10 a0 a1 a2 true) else ((spec_Runes.f kj10 t191).bind fun t193 => (laws_FnTruncateTwice.j2 kj10 a0 a1 a2 (decide (t193 > a2))))) else (laws_FnTruncateTwice.j2 kj10 a0 a1 a2 true)) = some r := H
                have A23 := Aside0.mk A230
                clear A230
                have HC24 := Aside0.mk H
                clear H
                go_upto_region 11 with (first | ((with_reducible refine gate_callee (f := 24) rfl ?_); refine goesL_ (some 67) rfl rfl Tryd.func24 (by kernel_rfl) rfl #[.string a0, .int .i64 a1] rfl (by (try simp only [List.map_toArray, List.map_cons, List.map_nil]); first | done | rfl | (simp only [List.length_drop, List.length_take]; rfl)) ?_; (with_reducible refine (impl_TruncateRunes.calls a0 a1 t187 t188 _ A21.out).mono ?_); rintro e w25 ⟨rfl, hb⟩; refine ⟨_, rfl, ?_⟩; have n0_ := Aside0.mk (below_step (by repeat (first | (with_reducible first | exact HB.out | apply below_alloc | apply pw_below_drewN | apply below_drew1) | exact HB.out)) hb); clear HB; have HB := n0_; clear n0_; (try clear hb); (try clear hb2); (try clear hk); (try clear hi)) | ((with_reducible refine gate_callee (f := 24) rfl ?_); refine goesL_ (some 73) rfl rfl Tryd.func24 (by kernel_rfl) rfl #[.string t187, .int .i64 a1] rfl (by (try simp only [List.map_toArray, List.map_cons, List.map_nil]); first | done | rfl | (simp only [List.length_drop, List.length_take]; rfl)) ?_; (with_reducible refine (impl_TruncateRunes.calls t187 a1 t189 t190 _ A22.out).mono ?_); rintro e w26 ⟨rfl, hb⟩; refine ⟨_, rfl, ?_⟩; have n0_ := Aside0.mk (below_step (by repeat (first | (with_reducible first | exact HB.out | apply below_alloc | apply pw_below_drewN | apply below_drew1) | exact HB.out)) hb); clear HB; have HB := n0_; clear n0_; (try clear hb); (try clear hb2); (try clear hk); (try clear hi)) | ((with_reducible refine gate_callee (f := 24) rfl ?_); refine goesL_ (some 79) rfl rfl Tryd.func24 (by kernel_rfl) rfl #[.string t187, .int .i64 a2] rfl (by (try simp only [List.map_toArray, List.map_cons, List.map_nil]); first | done | rfl | (simp only [List.length_drop, List.length_take]; rfl)) ?_; (with_reducible refine (impl_TruncateRunes.calls t187 a2 t191 t192 _ A23.out).mono ?_); rintro e w27 ⟨rfl, hb⟩; refine ⟨_, rfl, ?_⟩; have n0_ := Aside0.mk (below_step (by repeat (first | (with_reducible first | exact HB.out | apply below_alloc | apply pw_below_drewN | apply below_drew1) | exact HB.out)) hb); clear HB; have HB := n0_; clear n0_; (try clear hb); (try clear hb2); (try clear hk); (try clear hi)))
                (try simp only [Act.put, List.setIfInBounds_toArray, List.set_cons_zero, List.set_cons_succ])
                go_cut [93] (fun v93 wc => ∃ (kq : Nat) (x93_23 : Bool), v93 = .bool x93_23 ∧ Aside0 (laws_FnTruncateTwice.j2 kq a0 a1 a2 x93_23 = some r) ∧ Aside0 (kq ≤ kj10) ∧ Aside0 (Below w.heap.size w wc))
                case first =>
                  have H := HC24.out
                  clear HC24
                  by_cases c28 : t187.toList = t189.toList
                  · rw [if_pos c28] at H
                    have c28b0 : (t187.toList == t189.toList) = true := beq_iff_eq.mpr c28
                    have c28b1 : (t187.toList != t189.toList) = false := bne_eq_false_iff_eq.mpr c28
                    clear c28
                    (first | rw [c28b0] | (simp only [i64_w, i32_w]; rw [c28b0]) | skip)
                    by_cases c29 : t190 = true
                    · subst c29
                      have H1 : (laws_FnTruncateTwice.j2 kj10 a0 a1 a2 true) = some r := by rw [if_pos rfl] at H; exact H
                      clear H
                      have H := H1
                      clear H1
                      have H' := Aside0.mk H
                      clear H
                      go_wp2
                      go_meet
                      case rel => exact ⟨_, (true), (by first | rfl | (simp; done) | (simp [*]; done) | (simp [*, q_isEmpty]; done) | (simp [*]; exact q_gt _ _ (by assumption))), H', ⟨by have := HJ5.out; have := HJ10.out; first | omega | exact Nat.le_refl _⟩, ⟨by repeat (first | (with_reducible first | exact HB.out | apply below_alloc | apply pw_below_drewN | apply below_drew1) | exact HB.out)⟩⟩
                    · replace c29 := Bool.eq_false_iff.mpr c29
                      subst c29
                      have H1 : ((spec_Runes.f kj10 t191).bind fun t193 => (laws_FnTruncateTwice.j2 kj10 a0 a1 a2 (decide (t193 > a2)))) = some r := by rw [if_neg (show ¬ (false = true) by decide)] at H; exact H
                      clear H
                      have H := H1
                      clear H1
                      replace H := Option.bind_eq_some_iff.mp H
                      obtain ⟨t193, A300, H⟩ := H
                      replace H : (laws_FnTruncateTwice.j2 kj10 a0 a1 a2 (decide (t193 > a2))) = some r := H
                      have A30 := Aside0.mk A300
                      clear A300
                      have H' := Aside0.mk H
                      clear H
                      go_wp2_with (first | (go_at_call 20; (with_reducible refine (spec_Runes.calls kj10 t191 t193 _ A30.out).mono ?_); rintro e w' ⟨rfl, ⟨nd, rfl⟩⟩))
                      go_meet
                      case rel => exact ⟨_, (decide (t193 > a2)), (by first | rfl | (simp; done) | (simp [*]; done) | (simp [*, q_isEmpty]; done) | (simp [*]; exact q_gt _ _ (by assumption))), H', ⟨by have := HJ5.out; have := HJ10.out; first | omega | exact Nat.le_refl _⟩, ⟨by repeat (first | (with_reducible first | exact HB.out | apply below_alloc | apply pw_below_drewN | apply below_drew1) | exact HB.out)⟩⟩
                  · rw [if_neg c28] at H
                    have c28b0 : (t187.toList == t189.toList) = false := beq_eq_false_iff_ne.mpr c28
                    have c28b1 : (t187.toList != t189.toList) = true := bne_iff_ne.mpr c28
                    (first | rw [c28b0] | (simp only [i64_w, i32_w]; rw [c28b0]) | skip)
                    have H' := Aside0.mk H
                    clear H
                    go_wp2
                    go_meet
                    case rel => exact ⟨_, (true), (by first | rfl | (simp; done) | (simp [*]; done) | (simp [*, q_isEmpty]; done) | (simp [*]; exact q_gt _ _ (by assumption))), H', ⟨by have := HJ5.out; have := HJ10.out; first | omega | exact Nat.le_refl _⟩, ⟨by repeat (first | (with_reducible first | exact HB.out | apply below_alloc | apply pw_below_drewN | apply below_drew1) | exact HB.out)⟩⟩
                case rest =>
                  clear HC24
                  try clear c1
                  try clear c2
                  try clear p2
                  try clear c4
                  try clear c4b0
                  try clear c4b1
                  try clear c8
                  try clear c9
                  try clear c9b0
                  try clear c9b1
                  try clear c10
                  try clear c13
                  try clear c14
                  try clear c14b0
                  try clear c15
                  try clear c15b0
                  try clear c16
                  try clear c16b0
                  try clear c17
                  try clear c17b0
                  try clear c19
                  try clear c20
                  try clear c21
                  try clear c24
                  try clear c28
                  try clear c28b0
                  try clear c28b1
                  try clear c29
                  try clear p2
                  obtain ⟨kq, x93_23, rfl, HA, HJ23, HB⟩ := hcut
                  cases kq with
                  | zero => exact absurd HA.out (by simp [laws_FnTruncateTwice.j2])
                  | succ kj23 =>
                    have H := HA.out
                    clear HA
                    simp only [laws_FnTruncateTwice.j2] at H
                    by_cases c31 : x93_23 = true
                    · subst c31
                      have H1 : (some false) = some r := by rw [if_pos rfl] at H; exact H
                      clear H
                      have H := H1
                      clear H1
                      obtain rfl := Option.some.inj H
                      go_wp2
                      go_ret
                      exact ⟨by first | rfl | (simp [errW_none, errW_some] <;> rfl) | (simp [*, errW_none, errW_some] <;> rfl) | (simp [*, q_isEmpty]; done) | (simp [*]; exact q_gt _ _ (by assumption)), by repeat (first | (with_reducible first | exact HB.out | apply below_alloc | apply pw_below_drewN | apply below_drew1) | exact HB.out)⟩
                    · replace c31 := Bool.eq_false_iff.mpr c31
                      subst c31
                      have H1 : ((spec_Runes.f kj23 a0).bind fun t194 => (if t194 < (wrap64 (a1 - 3)) then (some true) else ((impl_TruncateBytes.f a0 a1).bind fun bt195 => ((spec_Runes.f kj23 bt195.1).bind fun t197 => (if t197 < (wrap64 (a1 - 3)) then (laws_FnTruncateTwice.j3 kj23 a1 a2 bt195.1 true) else (laws_FnTruncateTwice.j3 kj23 a1 a2 bt195.1 (decide (t197 < (wrap64 (a2 - 3)))))))))) = some r := by rw [if_neg (show ¬ (false = true) by decide)] at H; exact H
                      clear H
                      have H := H1
                      clear H1
                      replace H := Option.bind_eq_some_iff.mp H
                      obtain ⟨t194, A320, H⟩ := H
                      replace H : (if t194 < (wrap64 (a1 - 3)) then (some true) else ((impl_TruncateBytes.f a0 a1).bind fun bt195 => ((spec_Runes.f kj23 bt195.1).bind fun t197 => (if t197 < (wrap64 (a1 - 3)) then (laws_FnTruncateTwice.j3 kj23 a1 a2 bt195.1 true) else (laws_FnTruncateTwice.j3 kj23 a1 a2 bt195.1 (decide (t197 < (wrap64 (a2 - 3))))))))) = some r := H
                      have A32 := Aside0.mk A320
                      clear A320
                      by_cases c33 : t194 < (wrap64 (a1 - 3))
                      · rw [if_pos c33] at H
                        have c33b0 : decide (t194 < (wrap64 (a1 - 3))) = true := decide_eq_true c33
                        clear c33
                        obtain rfl := Option.some.inj H
                        go_wp2_with (first | ((with_reducible refine gate_callee (f := 20) rfl ?_); refine goesL_ (some 95) rfl rfl Tryd.func20 (by kernel_rfl) rfl #[.string a0] rfl (by (try simp only [List.map_toArray, List.map_cons, List.map_nil]); first | done | rfl | (simp only [List.length_drop, List.length_take]; rfl)) ?_; (with_reducible refine (spec_Runes.calls kj23 a0 t194 _ A32.out).mono ?_); rintro e w' ⟨rfl, ⟨nd, rfl⟩⟩; refine ⟨_, rfl, ?_⟩))
                        go_ret
                        exact ⟨by first | rfl | (simp [errW_none, errW_some] <;> rfl) | (simp [*, errW_none, errW_some] <;> rfl) | (simp [*, q_isEmpty]; done) | (simp [*]; exact q_gt _ _ (by assumption)), by repeat (first | (with_reducible first | exact HB.out | apply below_alloc | apply pw_below_drewN | apply below_drew1) | exact HB.out)⟩
                      · rw [if_neg c33] at H
                        have c33b0 : decide (t194 < (wrap64 (a1 - 3))) = false := decide_eq_false c33
                        clear c33
                        replace H := Option.bind_eq_some_iff.mp H
                        obtain ⟨⟨t195, t196⟩, A340, H⟩ := H
                        replace H : ((spec_Runes.f kj23 t195).bind fun t197 => (if t197 < (wrap64 (a1 - 3)) then (laws_FnTruncateTwice.j3 kj23 a1 a2 t195 true) else (laws_FnTruncateTwice.j3 kj23 a1 a2 t195 (decide (t197 < (wrap64 (a2 - 3))))))) = some r := H
                        have A34 := Aside0.mk A340
                        clear A340
                        have HC35 := Aside0.mk H
                        clear H
                        go_upto_region 16 with (first | ((with_reducible refine gate_callee (f := 20) rfl ?_); refine goesL_ (some 95) rfl rfl Tryd.func20 (by kernel_rfl) rfl #[.string a0] rfl (by (try simp only [List.map_toArray, List.map_cons, List.map_nil]); first | done | rfl | (simp only [List.length_drop, List.length_take]; rfl)) ?_; (with_reducible refine (spec_Runes.calls kj23 a0 t194 _ A32.out).mono ?_); rintro e w' ⟨rfl, ⟨nd, rfl⟩⟩; refine ⟨_, rfl, ?_⟩) | ((with_reducible refine gate_callee (f := 21) rfl ?_); refine goesL_ (some 102) rfl rfl Tryd.func21 (by kernel_rfl) rfl #[.string a0, .int .i64 a1] rfl (by (try simp only [List.map_toArray, List.map_cons, List.map_nil]); first | done | rfl | (simp only [List.length_drop, List.length_take]; rfl)) ?_; (with_reducible refine (impl_TruncateBytes.calls a0 a1 t195 t196 _ A34.out).mono ?_); rintro e w36 ⟨rfl, hb⟩; refine ⟨_, rfl, ?_⟩; have n0_ := Aside0.mk (below_step (by repeat (first | (with_reducible first | exact HB.out | apply below_alloc | apply pw_below_drewN | apply below_drew1) | exact HB.out)) hb); clear HB; have HB := n0_; clear n0_; (try clear hb); (try clear hb2); (try clear hk); (try clear hi)))
                        (try simp only [Act.put, List.setIfInBounds_toArray, List.set_cons_zero, List.set_cons_succ])
                        go_cut [116] (fun v116 wc => ∃ (kq : Nat) (x116_34 : Bool), v116 = .bool x116_34 ∧ Aside0 (laws_FnTruncateTwice.j3 kq a1 a2 t195 x116_34 = some r) ∧ Aside0 (kq ≤ kj23) ∧ Aside0 (Below w.heap.size w wc))
                        case first =>
                          have H := HC35.out
                          clear HC35
                          replace H := Option.bind_eq_some_iff.mp H
                          obtain ⟨t197, A370, H⟩ := H
                          replace H : (if t197 < (wrap64 (a1 - 3)) then (laws_FnTruncateTwice.j3 kj23 a1 a2 t195 true) else (laws_FnTruncateTwice.j3 kj23 a1 a2 t195 (decide (t197 < (wrap64 (a2 - 3)))))) = some r := H
                          have A37 := Aside0.mk A370
                          clear A370
                          by_cases c38 : t197 < (wrap64 (a1 - 3))
                          · rw [if_pos c38] at H
                            have c38b0 : decide (t197 < (wrap64 (a1 - 3))) = true := decide_eq_true c38
                            clear c38
                            (first | rw [c38b0] | (simp only [i64_w, i32_w]; rw [c38b0]) | skip)
                            have H' := Aside0.mk H
                            clear H
                            go_wp2_with (first | ((with_reducible refine gate_callee (f := 20) rfl ?_); refine goesL_ _ rfl rfl Tryd.func20 (by kernel_rfl) rfl #[.string t195] rfl (by (try simp only [List.map_toArray, List.map_cons, List.map_nil]); first | done | rfl | (simp only [List.length_drop, List.length_take]; rfl)) ?_; (with_reducible refine (spec_Runes.calls kj23 t195 t197 _ A37.out).mono ?_); rintro e w' ⟨rfl, ⟨nd, rfl⟩⟩; refine ⟨_, rfl, ?_⟩))
                            go_meet
                            case rel => exact ⟨_, (true), (by first | rfl | (simp; done) | (simp [*]; done) | (simp [*, q_isEmpty]; done) | (simp [*]; exact q_gt _ _ (by assumption))), H', ⟨by have := HJ5.out; have := HJ10.out; have := HJ23.out; first | omega | exact Nat.le_refl _⟩, ⟨by repeat (first | (with_reducible first | exact HB.out | apply below_alloc | apply pw_below_drewN | apply below_drew1) | exact HB.out)⟩⟩
                          · rw [if_neg c38] at H
                            have c38b0 : decide (t197 < (wrap64 (a1 - 3))) = false := decide_eq_false c38
                            clear c38
                            (first | rw [c38b0] | (simp only [i64_w, i32_w]; rw [c38b0]) | skip)
                            have H' := Aside0.mk H
                            clear H
                            go_wp2_with (first | ((with_reducible refine gate_callee (f := 20) rfl ?_); refine goesL_ _ rfl rfl Tryd.func20 (by kernel_rfl) rfl #[.string t195] rfl (by (try simp only [List.map_toArray, List.map_cons, List.map_nil]); first | done | rfl | (simp only [List.length_drop, List.length_take]; rfl)) ?_; (with_reducible refine (spec_Runes.calls kj23 t195 t197 _ A37.out).mono ?_); rintro e w' ⟨rfl, ⟨nd, rfl⟩⟩; refine ⟨_, rfl, ?_⟩) | (go_at_call 20; (with_reducible refine (spec_Runes.calls kj23 t195 t197 _ A37.out).mono ?_); rintro e w' ⟨rfl, ⟨nd, rfl⟩⟩))
                            go_meet
                            case rel => exact ⟨_, (decide (t197 < (wrap64 (a2 - 3)))), (by first | rfl | (simp; done) | (simp [*]; done) | (simp [*, q_isEmpty]; done) | (simp [*]; exact q_gt _ _ (by assumption))), H', ⟨by have := HJ5.out; have := HJ10.out; have := HJ23.out; first | omega | exact Nat.le_refl _⟩, ⟨by repeat (first | (with_reducible first | exact HB.out | apply below_alloc | apply pw_below_drewN | apply below_drew1) | exact HB.out)⟩⟩
                        case rest =>
                          clear HC35
                          try clear c1
                          try clear c2
                          try clear p2
                          try clear c3
                          try clear c4
                          try clear c4b0
                          try clear c4b1
                          try clear p6
                          try clear c8
                          try clear c9
                          try clear c9b0
                          try clear c9b1
                          try clear c10
                          try clear c13
                          try clear c14
                          try clear c14b0
                          try clear c15
                          try clear c15b0
                          try clear c16
                          try clear c16b0
                          try clear c17
                          try clear c17b0
                          try clear c19
                          try clear c20
                          try clear c21
                          try clear c24
                          try clear c28
                          try clear c28b0
                          try clear c28b1
                          try clear c29
                          try clear c31
                          try clear c33
                          try clear c33b0
                          try clear c38
                          try clear c38b0
                          try clear p2
                          obtain ⟨kq, x116_34, rfl, HA, HJ34, HB⟩ := hcut
                          cases kq with
                          | zero => exact absurd HA.out (by simp [laws_FnTruncateTwice.j3])
                          | succ kj34 =>
                            have H := HA.out
                            clear HA
                            simp only [laws_FnTruncateTwice.j3] at H
                            by_cases c39 : x116_34 = true
                            · subst c39
                              have H1 : (some true) = some r := by rw [if_pos rfl] at H; exact H
                              clear H
                              have H := H1
                              clear H1
                              obtain rfl := Option.some.inj H
                              go_wp2
                              go_ret
                              exact ⟨by first | rfl | (simp [errW_none, errW_some] <;> rfl) | (simp [*, errW_none, errW_some] <;> rfl) | (simp [*, q_isEmpty]; done) | (simp [*]; exact q_gt _ _ (by assumption)), by repeat (first | (with_reducible first | exact HB.out | apply below_alloc | apply pw_below_drewN | apply below_drew1) | exact HB.out)⟩
                            · replace c39 := Bool.eq_false_iff.mpr c39
                              subst c39
                              have H1 : ((impl_TruncateBytes.f t195 a1).bind fun bt198 => ((impl_TruncateBytes.f t195 a2).bind fun bt200 => (if t195.toList = bt198.1.toList then (if bt198.2 = true then (some false) else (some (decide ((bt200.1.size : Int) ≤ a2)))) else (some false)))) = some r := by rw [if_neg (show ¬ (false = true) by decide)] at H; exact H
                              clear H
                              have H := H1
                              clear H1
                              replace H := Option.bind_eq_some_iff.mp H
                              obtain ⟨⟨t198, t199⟩, A400, H⟩ := H
                              replace H : ((impl_TruncateBytes.f t195 a2).bind fun bt200 => (if t195.toList = t198.toList then (if t199 = true then (some false) else (some (decide ((bt200.1.size : Int) ≤ a2)))) else (some false))) = some r := H
                              have A40 := Aside0.mk A400
                              clear A400
                              replace H := Option.bind_eq_some_iff.mp H
                              obtain ⟨⟨t200, t201⟩, A410, H⟩ := H
                              replace H : (if t195.toList = t198.toList then (if t199 = true then (some false) else (some (decide ((t200.size : Int) ≤ a2)))) else (some false)) = some r := H
                              have A41 := Aside0.mk A410
                              clear A410
                              by_cases c42 : t195.toList = t198.toList
                              · rw [if_pos c42] at H
                                have c42b0 : (t195.toList == t198.toList) = true := beq_iff_eq.mpr c42
                                have c42b1 : (t195.toList != t198.toList) = false := bne_eq_false_iff_eq.mpr c42
                                clear c42
                                by_cases c43 : t199 = true
                                · subst c43
                                  have H1 : (some false) = some r := by rw [if_pos rfl] at H; exact H
                                  clear H
                                  have H := H1
                                  clear H1
                                  obtain rfl := Option.some.inj H
                                  go_wp2_with (first | ((with_reducible refine gate_callee (f := 21) rfl ?_); refine goesL_ (some 120) rfl rfl Tryd.func21 (by kernel_rfl) rfl #[.string t195, .int .i64 a1] rfl (by (try simp only [List.map_toArray, List.map_cons, List.map_nil]); first | done | rfl | (simp only [List.length_drop, List.length_take]; rfl)) ?_; (with_reducible refine (impl_TruncateBytes.calls t195 a1 t198 true _ A40.out).mono ?_); rintro e w44 ⟨rfl, hb⟩; refine ⟨_, rfl, ?_⟩; have n0_ := Aside0.mk (below_step (by repeat (first | (with_reducible first | exact HB.out | apply below_alloc | apply pw_below_drewN | apply below_drew1) | exact HB.out)) hb); clear HB; have HB := n0_; clear n0_; (try clear hb); (try clear hb2); (try clear hk); (try clear hi)) | ((with_reducible refine gate_callee (f := 21) rfl ?_); refine goesL_ (some 126) rfl rfl Tryd.func21 (by kernel_rfl) rfl #[.string t195, .int .i64 a2] rfl (by (try simp only [List.map_toArray, List.map_cons, List.map_nil]); first | done | rfl | (simp only [List.length_drop, List.length_take]; rfl)) ?_; (with_reducible refine (impl_TruncateBytes.calls t195 a2 t200 t201 _ A41.out).mono ?_); rintro e w45 ⟨rfl, hb⟩; refine ⟨_, rfl, ?_⟩; have n0_ := Aside0.mk (below_step (by repeat (first | (with_reducible first | exact HB.out | apply below_alloc | apply pw_below_drewN | apply below_drew1) | exact HB.out)) hb); clear HB; have HB := n0_; clear n0_; (try clear hb); (try clear hb2); (try clear hk); (try clear hi)))
                                  go_ret
                                  exact ⟨by first | rfl | (simp [errW_none, errW_some] <;> rfl) | (simp [*, errW_none, errW_some] <;> rfl) | (simp [*, q_isEmpty]; done) | (simp [*]; exact q_gt _ _ (by assumption)), by repeat (first | (with_reducible first | exact HB.out | apply below_alloc | apply pw_below_drewN | apply below_drew1) | exact HB.out)⟩
                                · replace c43 := Bool.eq_false_iff.mpr c43
                                  subst c43
                                  have H1 : (some (decide ((t200.size : Int) ≤ a2))) = some r := by rw [if_neg (show ¬ (false = true) by decide)] at H; exact H
                                  clear H
                                  have H := H1
                                  clear H1
                                  obtain rfl := Option.some.inj H
                                  go_wp2_with (first | ((with_reducible refine gate_callee (f := 21) rfl ?_); refine goesL_ (some 120) rfl rfl Tryd.func21 (by kernel_rfl) rfl #[.string t195, .int .i64 a1] rfl (by (try simp only [List.map_toArray, List.map_cons, List.map_nil]); first | done | rfl | (simp only [List.length_drop, List.length_take]; rfl)) ?_; (with_reducible refine (impl_TruncateBytes.calls t195 a1 t198 false _ A40.out).mono ?_); rintro e w46 ⟨rfl, hb⟩; refine ⟨_, rfl, ?_⟩; have n0_ := Aside0.mk (below_step (by repeat (first | (with_reducible first | exact HB.out | apply below_alloc | apply pw_below_drewN | apply below_drew1) | exact HB.out)) hb); clear HB; have HB := n0_; clear n0_; (try clear hb); (try clear hb2); (try clear hk); (try clear hi)) | ((with_reducible refine gate_callee (f := 21) rfl ?_); refine goesL_ (some 126) rfl rfl Tryd.func21 (by kernel_rfl) rfl #[.string t195, .int .i64 a2] rfl (by (try simp only [List.map_toArray, List.map_cons, List.map_nil]); first | done | rfl | (simp only [List.length_drop, List.length_take]; rfl)) ?_; (with_reducible refine (impl_TruncateBytes.calls t195 a2 t200 t201 _ A41.out).mono ?_); rintro e w47 ⟨rfl, hb⟩; refine ⟨_, rfl, ?_⟩; have n0_ := Aside0.mk (below_step (by repeat (first | (with_reducible first | exact HB.out | apply below_alloc | apply pw_below_drewN | apply below_drew1) | exact HB.out)) hb); clear HB; have HB := n0_; clear n0_; (try clear hb); (try clear hb2); (try clear hk); (try clear hi)))
                                  go_ret
                                  exact ⟨by first | rfl | (simp [errW_none, errW_some] <;> rfl) | (simp [*, errW_none, errW_some] <;> rfl) | (simp [*, q_isEmpty]; done) | (simp [*]; exact q_gt _ _ (by assumption)), by repeat (first | (with_reducible first | exact HB.out | apply below_alloc | apply pw_below_drewN | apply below_drew1) | exact HB.out)⟩
                              · rw [if_neg c42] at H
                                have c42b0 : (t195.toList == t198.toList) = false := beq_eq_false_iff_ne.mpr c42
                                have c42b1 : (t195.toList != t198.toList) = true := bne_iff_ne.mpr c42
                                obtain rfl := Option.some.inj H
                                go_wp2_with (first | ((with_reducible refine gate_callee (f := 21) rfl ?_); refine goesL_ (some 120) rfl rfl Tryd.func21 (by kernel_rfl) rfl #[.string t195, .int .i64 a1] rfl (by (try simp only [List.map_toArray, List.map_cons, List.map_nil]); first | done | rfl | (simp only [List.length_drop, List.length_take]; rfl)) ?_; (with_reducible refine (impl_TruncateBytes.calls t195 a1 t198 t199 _ A40.out).mono ?_); rintro e w48 ⟨rfl, hb⟩; refine ⟨_, rfl, ?_⟩; have n0_ := Aside0.mk (below_step (by repeat (first | (with_reducible first | exact HB.out | apply below_alloc | apply pw_below_drewN | apply below_drew1) | exact HB.out)) hb); clear HB; have HB := n0_; clear n0_; (try clear hb); (try clear hb2); (try clear hk); (try clear hi)) | ((with_reducible refine gate_callee (f := 21) rfl ?_); refine goesL_ (some 126) rfl rfl Tryd.func21 (by kernel_rfl) rfl #[.string t195, .int .i64 a2] rfl (by (try simp only [List.map_toArray, List.map_cons, List.map_nil]); first | done | rfl | (simp only [List.length_drop, List.length_take]; rfl)) ?_; (with_reducible refine (impl_TruncateBytes.calls t195 a2 t200 t201 _ A41.out).mono ?_); rintro e w49 ⟨rfl, hb⟩; refine ⟨_, rfl, ?_⟩; have n0_ := Aside0.mk (below_step (by repeat (first | (with_reducible first | exact HB.out | apply below_alloc | apply pw_below_drewN | apply below_drew1) | exact HB.out)) hb); clear HB; have HB := n0_; clear n0_; (try clear hb); (try clear hb2); (try clear hk); (try clear hi)))
                                go_ret
                                exact ⟨by first | rfl | (simp [errW_none, errW_some] <;> rfl) | (simp [*, errW_none, errW_some] <;> rfl) | (simp [*, q_isEmpty]; done) | (simp [*]; exact q_gt _ _ (by assumption)), by repeat (first | (with_reducible first | exact HB.out | apply below_alloc | apply pw_below_drewN | apply below_drew1) | exact HB.out)⟩

end Go.Proofs.YtkbaihcamimnjaaDoor.Q
