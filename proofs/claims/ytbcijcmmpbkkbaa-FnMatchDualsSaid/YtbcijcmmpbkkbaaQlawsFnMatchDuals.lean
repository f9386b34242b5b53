-- Printed for this seat by wip/pp.py of this repo; nothing here is trusted: Lean checks it.
import Derived.Test.YtbcijcmmpbkkbaaQ0
import Derived.Test.YtbcijcmmpbkkbaaHMatchAll
import Derived.Test.YtbcijcmmpbkkbaaHMatchAny
import Derived.Test.YtbcijcmmpbkkbaaQlawszzFits1
namespace Go.Proofs.Ytbcijcmmpbkkbaa.Q
open Go.RowKit Go.Proofs.YtbcijcmmpbkkbaaW.PrintWords Go.Proofs.YtbcijcmmpbkkbaaW.PrintLast Go.Proofs.YtbcijcmmpbkkbaaW.PrintMore
attribute [local go_sem] max2_int min2_int max_two min_two max_three min_three max_four min_four   -- for this text's walks alone
set_option linter.unusedVariables false
set_option linter.unusedSimpArgs false

/-! ### laws_FnMatchDuals: function 11 -/
def laws_FnMatchDuals.j0 : Nat → ByteArray → ByteArray → List (S26) → Bool → Option (Bool)
  | 0, _, _, _, _ => none
  | k + 1, x0, x1, x2, x21 => if x21 = true then (some true) else (if (x2.length : Int) > 10000 then (some true) else ((impl_MatchAll.f (([(⟨0, x0, x1⟩ : S30)] : List (S30))) x2).bind fun t240 => ((impl_MatchAll.f (([(⟨1, x0, x1⟩ : S30)] : List (S30))) x2).bind fun t244 => (if (t240 != t244) = true then ((impl_MatchAll.f (([(⟨0, x0, x1⟩ : S30), (⟨1, x0, x1⟩ : S30)] : List (S30))) x2).bind fun t248 => (if t248 = true then (some false) else ((impl_MatchAny.f (([(([(⟨0, x0, x1⟩ : S30)] : List (S30))), (([(⟨1, x0, x1⟩ : S30)] : List (S30)))] : List (List (S30)))) x2).bind fun t258 => (some t258)))) else (some false)))))
def laws_FnMatchDuals.f (k : Nat) (a0 : ByteArray) (a1 : ByteArray) (l2 : List (S26)) : Option (Bool) := if (a0.size : Int) > 2147483647 then (laws_FnMatchDuals.j0 k a0 a1 l2 true) else (if (a1.size : Int) > 2147483647 then (laws_FnMatchDuals.j0 k a0 a1 l2 true) else ((laws_zzFits1.f k l2).bind fun t234 => (laws_FnMatchDuals.j0 k a0 a1 l2 (!t234))))
theorem laws_FnMatchDuals.mono_l : ∀ k, (∀ y0 y1 y2 y3, LeO (laws_FnMatchDuals.j0 k y0 y1 y2 y3) (laws_FnMatchDuals.j0 (k + 1) y0 y1 y2 y3))
  | 0 => fun _ _ _ _ r h => by simp [laws_FnMatchDuals.j0] at h
  | k + 1 => by
    have ih0 := laws_FnMatchDuals.mono_l k
    · intro y0 y1 y2 y3
      unfold laws_FnMatchDuals.j0
      repeat' first
      | (with_reducible exact ih0 _ _ _ _)
      | (with_reducible exact laws_zzFits1.mono _ _)
      | (with_reducible exact LeO.refl _)
      | (with_reducible exact LeO.none _)
      | (with_reducible refine LeO.ite ?_ ?_)
      | (with_reducible refine LeO.bind ?_ (fun _ => ?_))
      | exact ih0 _ _ _ _
      | exact laws_zzFits1.mono _ _
      | exact LeO.none _
      | refine LeO.ite ?_ ?_
      | refine LeO.bind ?_ (fun _ => ?_)
theorem laws_FnMatchDuals.mono : ∀ a0 a1 a2 k, LeO (laws_FnMatchDuals.f k a0 a1 a2) (laws_FnMatchDuals.f (k + 1) a0 a1 a2) := by
  intro a0 a1 a2 k
  have ih0 := laws_FnMatchDuals.mono_l k
  unfold laws_FnMatchDuals.f
  repeat' first
      | (with_reducible exact ih0 _ _ _ _)
      | (with_reducible exact laws_zzFits1.mono _ _)
      | (with_reducible exact LeO.refl _)
      | (with_reducible exact LeO.none _)
      | (with_reducible refine LeO.ite ?_ ?_)
      | (with_reducible refine LeO.bind ?_ (fun _ => ?_))
      | exact ih0 _ _ _ _
      | exact laws_zzFits1.mono _ _
      | exact LeO.none _
      | refine LeO.ite ?_ ?_
      | refine LeO.bind ?_ (fun _ => ?_)
def laws_FnMatchDuals.T6 : Bool × List (List Nat × List Nat) := (true, [([], []), ([0], [0]), ([], []), ([1, 2], [1, 2]), ([], []), ([4], [4]), ([], []), ([5, 6, 3], [5, 6]), ([3, 7], [3, 7]), ([8, 7], [8]), ([9], [9]), ([9], [9]), ([10, 11, 9], [9, 10, 11]), ([9], [9]), ([12, 13, 9, 9], [9, 12, 13]), ([14, 9], [9, 14]), ([9, 15], [9, 15]), ([16, 14], [16]), ([17], [17]), ([18, 17], [17, 18]), ([17], [17]), ([20, 17], [17, 20]), ([19, 21, 17], [17, 19, 21]), ([17], [17]), ([22, 23, 17, 17], [17, 22, 23]), ([17, 24], [17, 24]), ([25, 24, 0, 1, 2, 3, 4, 5, 6, 7, 8, 9, 10, 11, 12, 13, 14, 15, 16, 17, 18, 19, 20, 21, 22, 23, 24, 25], [25])])
def laws_FnMatchDuals.B6 : List Nat := [0, 1, 0, 7, 0, 16, 0, 127, 255, 511, 1023, 1023, 4095, 1023, 16383, 32767, 65535, 131071, 262143, 524287, 262143, 1310719, 4194303, 262143, 16777215, 33554431, 67108863]
theorem laws_FnMatchDuals.tab6 : rtab .any (opsOf Try.f11 6) = laws_FnMatchDuals.T6 := by kernel_rfl
theorem laws_FnMatchDuals.bits6 : waitsOk laws_FnMatchDuals.T6.2 laws_FnMatchDuals.B6 = true := by kernel_rfl
set_option maxHeartbeats 8000000 in
set_option maxRecDepth 100000 in
theorem laws_FnMatchDuals.calls (k : Nat) (a0 : ByteArray) (a1 : ByteArray) (A2 : Option Addr) (c2 : Nat) (l2 : List (S26)) (r : Bool) (w : World) (hr2 : Kd.C k26 w A2 l2.length l2) (hc2 : l2.length ≤ c2) (h : laws_FnMatchDuals.f k a0 a1 l2 = some r) :
    Calls Try.prog 11 #[.string a0, .string a1, .slice A2 l2.length c2] w fun e w' => e = .returned (.bool r) ∧ Below w.heap.size w w' := by
  have hu30 := Try.underlying30
  have HR2 := Aside0.mk hr2
  have HC2 := Aside0.mk hc2
  clear hr2 hc2
  have HB := Aside0.mk (Below.refl w.heap.size w)
  have H : (if (a0.size : Int) > 2147483647 then (laws_FnMatchDuals.j0 k a0 a1 l2 true) else (if (a1.size : Int) > 2147483647 then (laws_FnMatchDuals.j0 k a0 a1 l2 true) else ((laws_zzFits1.f k l2).bind fun t234 => (laws_FnMatchDuals.j0 k a0 a1 l2 (!t234))))) = some r := h
  clear h
  have HC4 := Aside0.mk H
  clear H
  go_enter Try.func11, Try.ntmps11
  go_upto_region 1 with (fail)
  go_cut [21] (fun v21 wc => ∃ (kq : Nat) (x21_3 : Bool), v21 = .bool x21_3 ∧ Aside0 (laws_FnMatchDuals.j0 kq a0 a1 l2 x21_3 = some r) ∧ Aside0 (kq ≤ k) ∧ Aside0 (Below w.heap.size w wc))
  case first =>
    have H := HC4.out
    clear HC4
    by_cases c5 : (a0.size : Int) > 2147483647
    · rw [if_pos c5] at H
      have c5b0 : decide (2147483647 < (a0.size : Int)) = true := decide_eq_true c5
      have c5b1 : decide (2147483647 < a0.size) = true := decide_eq_true (by omega)
      clear c5
      (first | rw [c5b0] | (simp only [i64_w, i32_w]; rw [c5b0]) | skip)
      have H' := Aside0.mk H
      clear H
      go_wp2
      go_meet
      case rel => exact ⟨_, (true), (by first | rfl | (simp; done) | (simp [*]; done) | (simp [*, q_isEmpty]; done)), H', ⟨by first | omega | exact Nat.le_refl _⟩, ⟨by repeat (first | (with_reducible first | exact HB.out | apply below_alloc | apply pw_below_drewN | apply below_drew1) | exact HB.out)⟩⟩
    · rw [if_neg c5] at H
      have c5b0 : decide (2147483647 < (a0.size : Int)) = false := decide_eq_false c5
      have c5b1 : decide (2147483647 < a0.size) = false := decide_eq_false (by omega)
      clear c5
      (first | rw [c5b0] | (simp only [i64_w, i32_w]; rw [c5b0]) | skip)
      by_cases c6 : (a1.size : Int) > 2147483647
      · rw [if_pos c6] at H
        have c6b0 : decide (2147483647 < (a1.size : Int)) = true := decide_eq_true c6
        have c6b1 : decide (2147483647 < a1.size) = true := decide_eq_true (by omega)
        clear c6
        have H' := Aside0.mk H
        clear H
        go_wp2
        go_meet
        case rel => exact ⟨_, (true), (by first | rfl | (simp; done) | (simp [*]; done) | (simp [*, q_isEmpty]; done)), H', ⟨by first | omega | exact Nat.le_refl _⟩, ⟨by repeat (first | (with_reducible first | exact HB.out | apply below_alloc | apply pw_below_drewN | apply below_drew1) | exact HB.out)⟩⟩
      · rw [if_neg c6] at H
        have c6b0 : decide (2147483647 < (a1.size : Int)) = false := decide_eq_false c6
        have c6b1 : decide (2147483647 < a1.size) = false := decide_eq_false (by omega)
        clear c6
        replace H := Option.bind_eq_some_iff.mp H
        obtain ⟨t234, A70, H⟩ := H
        replace H : (laws_FnMatchDuals.j0 k a0 a1 l2 (!t234)) = some r := H
        have A7 := Aside0.mk A70
        clear A70
        have H' := Aside0.mk H
        clear H
        go_wp2_with (first | (go_at_call 13; (with_reducible refine (laws_zzFits1.calls k _ _ l2 t234 _ ?side1 ?side2 A7.out).mono ?_); (case side1 => repeat (first | exact (Kd.C_below HR2.out HB.out) | (with_reducible refine Kd.C_alloc ?_ _) | (with_reducible refine Kd.C_drewN ?_ _) | (with_reducible refine Kd.C_drew ?_))); (case side2 => exact HC2.out); rintro e w8 ⟨rfl, hb⟩; have n0_ := Aside0.mk (below_step (by repeat (first | (with_reducible first | exact HB.out | apply below_alloc | apply pw_below_drewN | apply below_drew1) | exact HB.out)) hb); clear HB; have HB := n0_; clear n0_; (try clear hb); (try clear hb2); (try clear hk); (try clear hi)))
        go_meet
        case rel => exact ⟨_, (!t234), (by first | rfl | (simp; done) | (simp [*]; done) | (simp [*, q_isEmpty]; done)), H', ⟨by first | omega | exact Nat.le_refl _⟩, ⟨by repeat (first | (with_reducible first | exact HB.out | apply below_alloc | apply pw_below_drewN | apply below_drew1) | exact HB.out)⟩⟩
  case rest =>
    clear HC4
    try clear c1
    try clear c2
    try clear p2
    try clear c5
    try clear c5b0
    try clear c5b1
    try clear c6
    try clear c6b0
    try clear c6b1
    obtain ⟨kq, x21_3, rfl, HA, HJ3, HB⟩ := hcut
    cases kq with
    | zero => exact absurd HA.out (by simp [laws_FnMatchDuals.j0])
    | succ kj3 =>
      have H := HA.out
      clear HA
      simp only [laws_FnMatchDuals.j0] at H
      by_cases c9 : x21_3 = true
      · subst c9
        have H1 : (some true) = some r := by rw [if_pos rfl] at H; exact H
        clear H
        have H := H1
        clear H1
        obtain rfl := Option.some.inj H
        go_wp2
        go_ret
        exact ⟨by first | rfl | (simp [errW_none, errW_some] <;> rfl) | (simp [*, errW_none, errW_some] <;> rfl) | (simp [*, q_isEmpty]; done), by repeat (first | (with_reducible first | exact HB.out | apply below_alloc | apply pw_below_drewN | apply below_drew1) | exact HB.out)⟩
      · replace c9 := Bool.eq_false_iff.mpr c9
        subst c9
        have H1 : (if (l2.length : Int) > 10000 then (some true) else ((impl_MatchAll.f (([(⟨0, a0, a1⟩ : S30)] : List (S30))) l2).bind fun t240 => ((impl_MatchAll.f (([(⟨1, a0, a1⟩ : S30)] : List (S30))) l2).bind fun t244 => (if (t240 != t244) = true then ((impl_MatchAll.f (([(⟨0, a0, a1⟩ : S30), (⟨1, a0, a1⟩ : S30)] : List (S30))) l2).bind fun t248 => (if t248 = true then (some false) else ((impl_MatchAny.f (([(([(⟨0, a0, a1⟩ : S30)] : List (S30))), (([(⟨1, a0, a1⟩ : S30)] : List (S30)))] : List (List (S30)))) l2).bind fun t258 => (some t258)))) else (some false))))) = some r := by rw [if_neg (show ¬ (false = true) by decide)] at H; exact H
        clear H
        have H := H1
        clear H1
        by_cases c10 : (l2.length : Int) > 10000
        · rw [if_pos c10] at H
          have c10b0 : decide (10000 < (l2.length : Int)) = true := decide_eq_true c10
          have c10b1 : decide (10000 < l2.length) = true := decide_eq_true (by omega)
          clear c10
          obtain rfl := Option.some.inj H
          go_wp2
          go_ret
          exact ⟨by first | rfl | (simp [errW_none, errW_some] <;> rfl) | (simp [*, errW_none, errW_some] <;> rfl) | (simp [*, q_isEmpty]; done), by repeat (first | (with_reducible first | exact HB.out | apply below_alloc | apply pw_below_drewN | apply below_drew1) | exact HB.out)⟩
        · rw [if_neg c10] at H
          have c10b0 : decide (10000 < (l2.length : Int)) = false := decide_eq_false c10
          have c10b1 : decide (10000 < l2.length) = false := decide_eq_false (by omega)
          clear c10
          obtain ⟨y237, hy237⟩ : ∃ y_ : List (S30), y_ = (([(⟨0, a0, a1⟩ : S30)] : List (S30))) := ⟨_, rfl⟩
          replace H : ((impl_MatchAll.f y237 l2).bind fun t240 => ((impl_MatchAll.f (([(⟨1, a0, a1⟩ : S30)] : List (S30))) l2).bind fun t244 => (if (t240 != t244) = true then ((impl_MatchAll.f (([(⟨0, a0, a1⟩ : S30), (⟨1, a0, a1⟩ : S30)] : List (S30))) l2).bind fun t248 => (if t248 = true then (some false) else ((impl_MatchAny.f (([(([(⟨0, a0, a1⟩ : S30)] : List (S30))), (([(⟨1, a0, a1⟩ : S30)] : List (S30)))] : List (List (S30)))) l2).bind fun t258 => (some t258)))) else (some false)))) = some r := by first | (rw [hy237]; with_reducible exact H) | (have H2_ := (Option.bind_some _ _).symm.trans H; rw [hy237]; with_reducible exact H2_) | (have H2_ := (Option.bind_some _ _).symm.trans H; with_reducible exact H2_) | with_reducible exact H | (rw [hy237]; exact H) | exact H
          have Ny237 := Aside0.mk hy237
          clear hy237
          replace H := Option.bind_eq_some_iff.mp H
          obtain ⟨t240, A110, H⟩ := H
          replace H : ((impl_MatchAll.f (([(⟨1, a0, a1⟩ : S30)] : List (S30))) l2).bind fun t244 => (if (t240 != t244) = true then ((impl_MatchAll.f (([(⟨0, a0, a1⟩ : S30), (⟨1, a0, a1⟩ : S30)] : List (S30))) l2).bind fun t248 => (if t248 = true then (some false) else ((impl_MatchAny.f (([(([(⟨0, a0, a1⟩ : S30)] : List (S30))), (([(⟨1, a0, a1⟩ : S30)] : List (S30)))] : List (List (S30)))) l2).bind fun t258 => (some t258)))) else (some false))) = some r := H
          have A11 := Aside0.mk A110
          clear A110
          obtain ⟨y241, hy241⟩ : ∃ y_ : List (S30), y_ = (([(⟨1, a0, a1⟩ : S30)] : List (S30))) := ⟨_, rfl⟩
          replace H : ((impl_MatchAll.f y241 l2).bind fun t244 => (if (t240 != t244) = true then ((impl_MatchAll.f (([(⟨0, a0, a1⟩ : S30), (⟨1, a0, a1⟩ : S30)] : List (S30))) l2).bind fun t248 => (if t248 = true then (some false) else ((impl_MatchAny.f (([(([(⟨0, a0, a1⟩ : S30)] : List (S30))), (([(⟨1, a0, a1⟩ : S30)] : List (S30)))] : List (List (S30)))) l2).bind fun t258 => (some t258)))) else (some false))) = some r := by first | (rw [hy241]; with_reducible exact H) | (have H2_ := (Option.bind_some _ _).symm.trans H; rw [hy241]; with_reducible exact H2_) | (have H2_ := (Option.bind_some _ _).symm.trans H; with_reducible exact H2_) | with_reducible exact H | (rw [hy241]; exact H) | exact H
          have Ny241 := Aside0.mk hy241
          clear hy241
          replace H := Option.bind_eq_some_iff.mp H
          obtain ⟨t244, A120, H⟩ := H
          replace H : (if (t240 != t244) = true then ((impl_MatchAll.f (([(⟨0, a0, a1⟩ : S30), (⟨1, a0, a1⟩ : S30)] : List (S30))) l2).bind fun t248 => (if t248 = true then (some false) else ((impl_MatchAny.f (([(([(⟨0, a0, a1⟩ : S30)] : List (S30))), (([(⟨1, a0, a1⟩ : S30)] : List (S30)))] : List (List (S30)))) l2).bind fun t258 => (some t258)))) else (some false)) = some r := H
          have A12 := Aside0.mk A120
          clear A120
          by_cases c13 : (t240 != t244) = true
          · rw [if_pos c13] at H
            have c13b0 : (t240 != t244) = true := c13
            (try (have c13b1 : decide (t240 = t244) = false := by simpa using c13))
            (try (have c13b2 : (t240 == t244) = false := by simpa using c13))
            (try (have c13b3 : ¬ (t240 = t244) := by simpa using c13))
            clear c13
            obtain ⟨y245, hy245⟩ : ∃ y_ : List (S30), y_ = (([(⟨0, a0, a1⟩ : S30), (⟨1, a0, a1⟩ : S30)] : List (S30))) := ⟨_, rfl⟩
            replace H : ((impl_MatchAll.f y245 l2).bind fun t248 => (if t248 = true then (some false) else ((impl_MatchAny.f (([(([(⟨0, a0, a1⟩ : S30)] : List (S30))), (([(⟨1, a0, a1⟩ : S30)] : List (S30)))] : List (List (S30)))) l2).bind fun t258 => (some t258)))) = some r := by first | (rw [hy245]; with_reducible exact H) | (have H2_ := (Option.bind_some _ _).symm.trans H; rw [hy245]; with_reducible exact H2_) | (have H2_ := (Option.bind_some _ _).symm.trans H; with_reducible exact H2_) | with_reducible exact H | (rw [hy245]; exact H) | exact H
            have Ny245 := Aside0.mk hy245
            clear hy245
            replace H := Option.bind_eq_some_iff.mp H
            obtain ⟨t248, A140, H⟩ := H
            replace H : (if t248 = true then (some false) else ((impl_MatchAny.f (([(([(⟨0, a0, a1⟩ : S30)] : List (S30))), (([(⟨1, a0, a1⟩ : S30)] : List (S30)))] : List (List (S30)))) l2).bind fun t258 => (some t258))) = some r := H
            have A14 := Aside0.mk A140
            clear A140
            by_cases c15 : t248 = true
            · subst c15
              have H1 : (some false) = some r := by rw [if_pos rfl] at H; exact H
              clear H
              have H := H1
              clear H1
              obtain rfl := Option.some.inj H
              try go_wp2_with (first | ((with_reducible refine gate_dst (N := 7) rfl ?_); (try (refine gate_guard (by rfl) ?_; dsimp only)); refine box_event ?hg (N := 7) ?hd (cs := #[.int .i64 0, .string (⟨#[]⟩ : ByteArray), .string (⟨#[]⟩ : ByteArray)]) (t := 30) ?hr ?_; (case hd => rfl); (case hg => first | rfl | exact wanted_on rfl rfl rfl (e34.trans (by first | rfl | (simp [*]; done))) | exact wanted_on rfl rfl rfl (e38.trans (by first | rfl | (simp [*]; done))) | exact wanted_on rfl rfl rfl (e39.trans (by first | rfl | (simp [*]; done))) | exact wanted_on rfl rfl rfl (e40.trans (by first | rfl | (simp [*]; done))) | exact wanted_on rfl rfl rfl (e45.trans (by first | rfl | (simp [*]; done))) | exact wanted_on rfl rfl rfl (e46.trans (by first | rfl | (simp [*]; done))) | exact wanted_on rfl rfl rfl (e47.trans (by first | rfl | (simp [*]; done))) | exact wanted_on rfl rfl rfl (e48.trans (by first | rfl | (simp [*]; done))) | exact wanted_on rfl rfl rfl (e55.trans (by first | rfl | (simp [*]; done))) | exact wanted_on rfl rfl rfl (e56.trans (by first | rfl | (simp [*]; done)))); (case hr => first | (go_simp; done) | (go_simp; rfl)); intro gb235 hg w16 hbox hb; have n0_ := Aside0.mk (below_step (by repeat (first | (with_reducible first | exact HB.out | apply below_alloc | apply pw_below_drewN | apply below_drew1) | exact HB.out)) hb); have n1_ := Aside0.mk (hbox); have n2_ := Aside0.mk ((by rw [hg]; exact (below_size (by repeat (first | (with_reducible first | exact HB.out | apply below_alloc | apply pw_below_drewN | apply below_drew1) | exact HB.out))) : w.heap.size ≤ gb235)); have n3_ := Aside0.mk ((by rw [hg]; exact (below_size (by repeat (first | (with_reducible first | exact HB.out | apply below_alloc | apply pw_below_drewN | apply below_drew1) | exact HB.out))) : w.heap.size ≤ gb235)); clear HB; have HB := n0_; have BK235 := n1_; have GW235 := n2_; have GE235 := n3_; clear n0_ n1_ n2_ n3_; clear hb hbox hg) | ((with_reducible refine gate_dst (N := 8) rfl ?_); (try (refine gate_guard (by rfl) ?_; dsimp only)); refine box_event ?hg (N := 8) ?hd (cs := #[.int .i64 0, .string (⟨#[]⟩ : ByteArray), .string (⟨#[]⟩ : ByteArray)]) (t := 30) ?hr ?_; (case hd => rfl); (case hg => first | rfl | exact wanted_on rfl rfl rfl (e34.trans (by first | rfl | (simp [*]; done))) | exact wanted_on rfl rfl rfl (e38.trans (by first | rfl | (simp [*]; done))) | exact wanted_on rfl rfl rfl (e39.trans (by first | rfl | (simp [*]; done))) | exact wanted_on rfl rfl rfl (e40.trans (by first | rfl | (simp [*]; done))) | exact wanted_on rfl rfl rfl (e45.trans (by first | rfl | (simp [*]; done))) | exact wanted_on rfl rfl rfl (e46.trans (by first | rfl | (simp [*]; done))) | exact wanted_on rfl rfl rfl (e47.trans (by first | rfl | (simp [*]; done))) | exact wanted_on rfl rfl rfl (e48.trans (by first | rfl | (simp [*]; done))) | exact wanted_on rfl rfl rfl (e55.trans (by first | rfl | (simp [*]; done))) | exact wanted_on rfl rfl rfl (e56.trans (by first | rfl | (simp [*]; done)))); (case hr => first | (go_simp; done) | (go_simp; rfl)); intro gb236 hg w17 hbox hb; have n0_ := Aside0.mk (blk_below (g := gb235) (o := .cells #[.int .i64 0, .string (⟨#[]⟩ : ByteArray), .string (⟨#[]⟩ : ByteArray)] 30 (0, 0)) (by (with_reducible repeat (first | refine blk_drewN ?_ _ | refine blk_drew ?_ | refine blk_alloc ?_ _)); exact BK235.out) hb); have n1_ := Aside0.mk (below_step (by repeat (first | (with_reducible first | exact HB.out | apply below_alloc | apply pw_below_drewN | apply below_drew1 | refine below_set ?_ GE235.out) | exact HB.out)) hb); have n2_ := Aside0.mk (hbox); have n3_ := Aside0.mk ((by rw [hg]; exact (below_size (by repeat (first | (with_reducible first | exact HB.out | apply below_alloc | apply pw_below_drewN | apply below_drew1 | refine below_set ?_ GE235.out) | exact HB.out))) : w.heap.size ≤ gb236)); have n4_ := Aside0.mk ((by rw [hg]; exact (below_size (by repeat (first | (with_reducible first | exact HB.out | apply below_alloc | apply pw_below_drewN | apply below_drew1 | refine below_set ?_ GE235.out) | exact HB.out))) : w.heap.size ≤ gb236)); have n5_ := Aside0.mk ((by rw [hg]; exact Nat.ne_of_lt (blk_lt (g := gb235) (o := .cells #[.int .i64 0, .string (⟨#[]⟩ : ByteArray), .string (⟨#[]⟩ : ByteArray)] 30 (0, 0)) (by (with_reducible repeat (first | refine blk_drewN ?_ _ | refine blk_drew ?_ | refine blk_alloc ?_ _)); exact BK235.out)) : gb235 ≠ gb236)); have n6_ := Aside0.mk ((by rw [hg]; exact Nat.ne_of_gt (blk_lt (g := gb235) (o := .cells #[.int .i64 0, .string (⟨#[]⟩ : ByteArray), .string (⟨#[]⟩ : ByteArray)] 30 (0, 0)) (by (with_reducible repeat (first | refine blk_drewN ?_ _ | refine blk_drew ?_ | refine blk_alloc ?_ _)); exact BK235.out)) : gb236 ≠ gb235)); clear BK235; clear HB; have BK235 := n0_; have HB := n1_; have BK236 := n2_; have GW236 := n3_; have GE236 := n4_; have NB235_236 := n5_; have NB236_235 := n6_; clear n0_ n1_ n2_ n3_ n4_ n5_ n6_; clear hb hbox hg; have hnb18 := NB235_236.out; have hnc18 := NB236_235.out; have hcz19_0 : w17.cell? ⟨gb235, 0, none⟩ = some (.int .i64 0) := (blk_cell BK235.out 0).trans rfl; have hcz19_1 : w17.cell? ⟨gb235, 1, none⟩ = some (.string (⟨#[]⟩ : ByteArray)) := (blk_cell BK235.out 1).trans rfl; have hcz19_2 : w17.cell? ⟨gb235, 2, none⟩ = some (.string (⟨#[]⟩ : ByteArray)) := (blk_cell BK235.out 2).trans rfl; have hfz19_0 := blk_frozen BK235.out 0; have hfz19_1 := blk_frozen BK235.out 1; have hfz19_2 := blk_frozen BK235.out 2; have hcz20_0 : w17.cell? ⟨gb236, 0, none⟩ = some (.int .i64 0) := (blk_cell BK236.out 0).trans rfl; have hcz20_1 : w17.cell? ⟨gb236, 1, none⟩ = some (.string (⟨#[]⟩ : ByteArray)) := (blk_cell BK236.out 1).trans rfl; have hcz20_2 : w17.cell? ⟨gb236, 2, none⟩ = some (.string (⟨#[]⟩ : ByteArray)) := (blk_cell BK236.out 2).trans rfl; have hfz20_0 := blk_frozen BK236.out 0; have hfz20_1 := blk_frozen BK236.out 1; have hfz20_2 := blk_frozen BK236.out 2))
              have n0_ : Aside0 (((((((w17.setCell ⟨gb235, 0, none⟩ (.int .i64 0)).setCell ⟨gb235, 1, none⟩ (.string a0)).setCell ⟨gb235, 2, none⟩ (.string a1)).setCell ⟨gb236, 0, none⟩ (.int .i64 1)).setCell ⟨gb236, 1, none⟩ (.string a0)).setCell ⟨gb236, 2, none⟩ (.string a1)).heap[gb235]? = some (.cells #[.int .i64 0, .string a0, .string a1] 30 (0, 0))) := ⟨by (with_reducible repeat (first | refine blk_drewN ?_ _ | refine blk_drew ?_ | refine blk_alloc ?_ _)); refine blk_far ?_ NB235_236.out _; (with_reducible repeat (first | refine blk_drewN ?_ _ | refine blk_drew ?_ | refine blk_alloc ?_ _)); refine blk_far ?_ NB235_236.out _; (with_reducible repeat (first | refine blk_drewN ?_ _ | refine blk_drew ?_ | refine blk_alloc ?_ _)); refine blk_far ?_ NB235_236.out _; (with_reducible repeat (first | refine blk_drewN ?_ _ | refine blk_drew ?_ | refine blk_alloc ?_ _)); refine blk_put (cs := #[.int .i64 0, .string a0, .string (⟨#[]⟩ : ByteArray)]) ?_ 2 _ rfl; (with_reducible repeat (first | refine blk_drewN ?_ _ | refine blk_drew ?_ | refine blk_alloc ?_ _)); refine blk_put (cs := #[.int .i64 0, .string (⟨#[]⟩ : ByteArray), .string (⟨#[]⟩ : ByteArray)]) ?_ 1 _ rfl; (with_reducible repeat (first | refine blk_drewN ?_ _ | refine blk_drew ?_ | refine blk_alloc ?_ _)); refine blk_put (cs := #[.int .i64 0, .string (⟨#[]⟩ : ByteArray), .string (⟨#[]⟩ : ByteArray)]) ?_ 0 _ rfl; (with_reducible repeat (first | refine blk_drewN ?_ _ | refine blk_drew ?_ | refine blk_alloc ?_ _)); exact BK235.out⟩
              have n1_ : Aside0 (((((((w17.setCell ⟨gb235, 0, none⟩ (.int .i64 0)).setCell ⟨gb235, 1, none⟩ (.string a0)).setCell ⟨gb235, 2, none⟩ (.string a1)).setCell ⟨gb236, 0, none⟩ (.int .i64 1)).setCell ⟨gb236, 1, none⟩ (.string a0)).setCell ⟨gb236, 2, none⟩ (.string a1)).heap[gb236]? = some (.cells #[.int .i64 1, .string a0, .string a1] 30 (0, 0))) := ⟨by (with_reducible repeat (first | refine blk_drewN ?_ _ | refine blk_drew ?_ | refine blk_alloc ?_ _)); refine blk_put (cs := #[.int .i64 1, .string a0, .string (⟨#[]⟩ : ByteArray)]) ?_ 2 _ rfl; (with_reducible repeat (first | refine blk_drewN ?_ _ | refine blk_drew ?_ | refine blk_alloc ?_ _)); refine blk_put (cs := #[.int .i64 1, .string (⟨#[]⟩ : ByteArray), .string (⟨#[]⟩ : ByteArray)]) ?_ 1 _ rfl; (with_reducible repeat (first | refine blk_drewN ?_ _ | refine blk_drew ?_ | refine blk_alloc ?_ _)); refine blk_put (cs := #[.int .i64 0, .string (⟨#[]⟩ : ByteArray), .string (⟨#[]⟩ : ByteArray)]) ?_ 0 _ rfl; (with_reducible repeat (first | refine blk_drewN ?_ _ | refine blk_drew ?_ | refine blk_alloc ?_ _)); refine blk_far ?_ NB236_235.out _; (with_reducible repeat (first | refine blk_drewN ?_ _ | refine blk_drew ?_ | refine blk_alloc ?_ _)); refine blk_far ?_ NB236_235.out _; (with_reducible repeat (first | refine blk_drewN ?_ _ | refine blk_drew ?_ | refine blk_alloc ?_ _)); refine blk_far ?_ NB236_235.out _; (with_reducible repeat (first | refine blk_drewN ?_ _ | refine blk_drew ?_ | refine blk_alloc ?_ _)); exact BK236.out⟩
              have n2_ : Aside0 (Below w.heap.size w ((((((w17.setCell ⟨gb235, 0, none⟩ (.int .i64 0)).setCell ⟨gb235, 1, none⟩ (.string a0)).setCell ⟨gb235, 2, none⟩ (.string a1)).setCell ⟨gb236, 0, none⟩ (.int .i64 1)).setCell ⟨gb236, 1, none⟩ (.string a0)).setCell ⟨gb236, 2, none⟩ (.string a1))) := ⟨by repeat (first | (with_reducible first | exact HB.out | apply below_alloc | apply pw_below_drewN | apply below_drew1 | refine below_set ?_ GE235.out | refine below_set ?_ GE236.out) | exact HB.out)⟩
              (try clear BK235)
              (try clear BK236)
              (try clear HB)
              generalize ((((((w17.setCell ⟨gb235, 0, none⟩ (.int .i64 0)).setCell ⟨gb235, 1, none⟩ (.string a0)).setCell ⟨gb235, 2, none⟩ (.string a1)).setCell ⟨gb236, 0, none⟩ (.int .i64 1)).setCell ⟨gb236, 1, none⟩ (.string a0)).setCell ⟨gb236, 2, none⟩ (.string a1)) = w21 at n0_ n1_ n2_ ⊢
              have BK235 := n0_
              have BK236 := n1_
              have HB := n2_
              clear n0_ n1_ n2_
              have n0_ := Aside0.mk (blk_drew BK235.out)
              have n1_ := Aside0.mk (blk_drew BK236.out)
              have n2_ := Aside0.mk (below_drew1 HB.out)
              clear BK235
              clear BK236
              clear HB
              have BK235 := n0_
              have BK236 := n1_
              have HB := n2_
              clear n0_ n1_ n2_
              refine start_ (n := 27) (S := fun w' => True) (ds := []) #[false, false, false, false, false, false, false, false, false, false, false, false, false, false, false, false, false, false, false, false, false, false, false, false, false, false, false] (by kernel_rfl) rfl rfl trivial (fun hHeld => ?_); refine with_tabW laws_FnMatchDuals.tab6 laws_FnMatchDuals.bits6 (fun HT_ HW_ => ?_)
              generalize w21.drew = w22 at BK235 BK236 HB hHeld ⊢
              refine pure_ (i := 2) (N := some 33) (v := ?_) (a' := ?_) #[false, false, true, false, false, false, false, false, false, false, false, false, false, false, false, false, false, false, false, false, false, false, false, false, false, false, false] rfl rfl (any_of HT_.out (by kernel_rfl)) (fun _ _ _ h => h) (Or.inl ⟨by rfl, ?_⟩) ?_ ?_
              rotate_left
              · intro w'
                go_simp
                with_reducible rfl
              rotate_left
              · simp only [Act.put, List.setIfInBounds_toArray, List.set_cons_zero, List.set_cons_succ, i64_w, i32_w]
                rfl
              refine pure_ (i := 6) (N := some 37) (v := ?_) (a' := ?_) #[false, false, true, false, false, false, true, false, false, false, false, false, false, false, false, false, false, false, false, false, false, false, false, false, false, false, false] rfl rfl (any_of HT_.out (by kernel_rfl)) (fun _ _ _ h => h) (Or.inl ⟨by rfl, ?_⟩) ?_ ?_
              rotate_left
              · intro w'
                go_simp
                with_reducible rfl
              rotate_left
              · simp only [Act.put, List.setIfInBounds_toArray, List.set_cons_zero, List.set_cons_succ, i64_w, i32_w]
                rfl
              refine inv_at [0, 1, 3, 4, 5, 7, 8, 9, 10, 11, 12, 13, 14, 15, 16, 17, 18, 19, 20, 21, 22, 23, 24, 25, 26] (fun a0_ b a w' => ∃ (v238 : Value) (v242 : Value) (v246 : Value), a = putSel a0_ b [(0, 31, .agg #[.int .i64 0, .string a0, .string a1]), (1, 32, v238), (3, 34, .bool t240), (4, 35, .agg #[.int .i64 1, .string a0, .string a1]), (5, 36, v242), (7, 38, .bool t244), (8, 39, .bool (t240 != t244)), (9, 40, .bool (t240 != t244)), (10, 41, .agg #[.int .i64 0, .string a0, .string a1]), (11, 42, .agg #[.int .i64 1, .string a0, .string a1]), (12, 43, v246), (13, 44, .slice A2 l2.length c2), (14, 45, .bool true), (15, 46, .bool (!true)), (16, 47, .bool (!true)), (17, 48, .bool (!true)), (18, 49, undef), (19, 50, undef), (20, 51, undef), (21, 52, undef), (22, 53, undef), (23, 54, undef), (24, 55, undef), (25, 56, .bool false), (26, 6, .bool false)] ∧ (w'.heap[gb235]? = some (.cells #[.int .i64 0, .string a0, .string a1] 30 (0, 0))) ∧ (w'.heap[gb236]? = some (.cells #[.int .i64 1, .string a0, .string a1] 30 (0, 0))) ∧ (Below w.heap.size w w') ∧ (b 1 = true → Kd.R k30 30 w' w.heap.size (fun k_ => k_ ≠ gb235 ∧ k_ ≠ gb236) v238 y237) ∧ (b 5 = true → Kd.R k30 30 w' w.heap.size (fun k_ => k_ ≠ gb235 ∧ k_ ≠ gb236) v242 y241) ∧ (b 12 = true → Kd.R k30 30 w' w.heap.size (fun k_ => k_ ≠ gb235 ∧ k_ ≠ gb236) v246 y245)) HT_.out HW_.out (by kernel_rfl) (by kernel_rfl) ?_ ?_ ?_
              · exact ⟨.bool false, .bool false, .bool false, by simp only [putSel, Bool.false_eq_true, if_false], BK235.out, BK236.out, HB.out, fun h_ => absurd h_ (by decide), fun h_ => absurd h_ (by decide), fun h_ => absurd h_ (by decide)⟩
              · skip
                clear BK235 BK236 HB
                refine steps_cons ?_ ?_
                · rintro b a w' ⟨v238, v242, v246, ha, Q_BK235, Q_BK236, Q_HB, Q_HO239, Q_HO243, Q_HO247⟩ hb_ hon hoff
                  refine ⟨_, rfl, fun K hK => ?_⟩
                  have e7 : a.tmps[7]? = some (.pointer (some ⟨gb235, 0, none⟩)) := by rw [ha]; exact (putSel_off rfl).trans rfl
                  replace ha := Aside0.mk ha
                  have BK235 := Aside0.mk Q_BK235
                  have BK236 := Aside0.mk Q_BK236
                  have HB := Aside0.mk Q_HB
                  have hc0_ : w'.cell? ⟨gb235, 0, none⟩ = some (.int .i64 0) := (blk_cell BK235.out 0).trans rfl
                  have hc1_ : w'.cell? ⟨gb235, 1, none⟩ = some (.string a0) := (blk_cell BK235.out 1).trans rfl
                  have hc2_ : w'.cell? ⟨gb235, 2, none⟩ = some (.string a1) := (blk_cell BK235.out 2).trans rfl
                  refine value_ (w1 := w') (v := .agg #[.int .i64 0, .string a0, .string a1]) (by rfl) rfl ?_ ?_
                  · go_simp
                    (try simp only [i64_w])
                    try rfl
                  refine hK.out _ _ ⟨v238, v242, v246, (by rw [ha.out]; exact putSel_upk 0 hb_ rfl rfl rfl), Q_BK235, Q_BK236, Q_HB, fun h0_ => absurd ((hoff 1 (by kernel_rfl)).symm.trans h0_) (by decide), Q_HO243, fun h0_ => absurd ((hoff 12 (by kernel_rfl)).symm.trans h0_) (by decide)⟩
                refine steps_cons ?_ ?_
                · rintro b a w' ⟨v238, v242, v246, ha, Q_BK235, Q_BK236, Q_HB, Q_HO239, Q_HO243, Q_HO247⟩ hb_ hon hoff
                  refine ⟨_, rfl, fun K hK => ?_⟩
                  have e31 : a.tmps[31]? = some (.agg #[.int .i64 0, .string a0, .string a1]) := by rw [ha]; exact putSel_on (e := (0, 31, .agg #[.int .i64 0, .string a0, .string a1])) 0 rfl rfl (hon 0 (by kernel_rfl)) rfl
                  replace ha := Aside0.mk ha
                  have BK235 := Aside0.mk Q_BK235
                  have BK236 := Aside0.mk Q_BK236
                  have HB := Aside0.mk Q_HB
                  refine Kd.R_lit_step k30 _ 30 ?hg (N := 32) ?hd (xs := ([(⟨0, a0, a1⟩ : S30)] : List (S30))) (inner := [.int .i64 0, .string a0, .string a1]) (ok := fun _ => True) (okp := fun _ => True) ?hr ?hp (fun _ hk => hk) trivial (Below.refl _ _) (Nat.le_refl _) (by simp) ?_; (case hd => rfl); (case hg => first | rfl | exact wanted_on rfl rfl rfl (e34.trans (by first | rfl | (simp [*]; done))) | exact wanted_on rfl rfl rfl (e38.trans (by first | rfl | (simp [*]; done))) | exact wanted_on rfl rfl rfl (e39.trans (by first | rfl | (simp [*]; done))) | exact wanted_on rfl rfl rfl (e40.trans (by first | rfl | (simp [*]; done))) | exact wanted_on rfl rfl rfl (e45.trans (by first | rfl | (simp [*]; done))) | exact wanted_on rfl rfl rfl (e46.trans (by first | rfl | (simp [*]; done))) | exact wanted_on rfl rfl rfl (e47.trans (by first | rfl | (simp [*]; done))) | exact wanted_on rfl rfl rfl (e48.trans (by first | rfl | (simp [*]; done))) | exact wanted_on rfl rfl rfl (e55.trans (by first | rfl | (simp [*]; done))) | exact wanted_on rfl rfl rfl (e56.trans (by first | rfl | (simp [*]; done)))); (case hr => first | (go_simp; done) | (go_simp; rfl)); (case hp => exact (Reps.c3 (show Kd.M k30 _ _ _ (⟨0, a0, a1⟩ : S30) [.int .i64 0, .string a0, .string a1] from (k30_mkM _ _ _ (⟨0, a0, a1⟩ : S30) )) (Reps.none _ _)))
                  intro v238 w23 ho24 hb hg_ hnew_
                  clear hg_ hnew_
                  (first | rw [← Ny237.out] at ho24 | (simp only [Int.reduceToNat] at ho24; rw [← Ny237.out] at ho24))
                  have n0_ := Aside0.mk (Kd.R_lower (Kd.R_newB (Kd.R_newB ho24 (g := gb235) (o := .cells #[.int .i64 0, .string a0, .string a1] 30 (0, 0)) (by (with_reducible repeat (first | refine blk_drewN ?_ _ | refine blk_drew ?_ | refine blk_alloc ?_ _)); exact BK235.out)) (g := gb236) (o := .cells #[.int .i64 1, .string a0, .string a1] 30 (0, 0)) (by (with_reducible repeat (first | refine blk_drewN ?_ _ | refine blk_drew ?_ | refine blk_alloc ?_ _)); exact BK236.out)) (below_size (by repeat (first | (with_reducible first | exact HB.out | apply below_alloc | apply pw_below_drewN | apply below_drew1 | refine below_set ?_ GE235.out | refine below_set ?_ GE236.out) | exact HB.out))))
                  have n1_ := Aside0.mk (blk_below (g := gb235) (o := .cells #[.int .i64 0, .string a0, .string a1] 30 (0, 0)) (by (with_reducible repeat (first | refine blk_drewN ?_ _ | refine blk_drew ?_ | refine blk_alloc ?_ _)); exact BK235.out) hb)
                  have n2_ := Aside0.mk (blk_below (g := gb236) (o := .cells #[.int .i64 1, .string a0, .string a1] 30 (0, 0)) (by (with_reducible repeat (first | refine blk_drewN ?_ _ | refine blk_drew ?_ | refine blk_alloc ?_ _)); exact BK236.out) hb)
                  have n3_ := Aside0.mk (below_step (by repeat (first | (with_reducible first | exact HB.out | apply below_alloc | apply pw_below_drewN | apply below_drew1 | refine below_set ?_ GE235.out | refine below_set ?_ GE236.out) | exact HB.out)) hb)
                  have z_HO243 := fun (h0_ : b 5 = true) => (show Kd.R k30 30 w23 w.heap.size (fun k_ => k_ ≠ gb235 ∧ k_ ≠ gb236) v242 y241 from by first | exact (Kd.R_elder' (by (with_reducible repeat (first | apply Kd.R_alloc | apply Kd.R_drewN | apply Kd.R_drew)); exact (Q_HO243 h0_)) (Kd.R_base ho24) hb) | exact Kd.R_mono (Kd.R_elder' (by (with_reducible repeat (first | apply Kd.R_alloc | apply Kd.R_drewN | apply Kd.R_drew)); exact (Q_HO243 h0_)) (Kd.R_base ho24) hb) (fun _ h_ => by first | trivial | exact h_ | exact h_.1))
                  clear BK235
                  clear BK236
                  clear HB
                  have HO239 := n0_
                  have BK235 := n1_
                  have BK236 := n2_
                  have HB := n3_
                  clear n0_ n1_ n2_ n3_
                  clear hb ho24
                  refine hK.out _ _ ⟨v238, v242, v246, (by rw [ha.out]; exact putSel_upk 1 hb_ rfl rfl rfl), (by (with_reducible repeat (first | refine blk_drewN ?_ _ | refine blk_drew ?_ | refine blk_alloc ?_ _)); exact BK235.out), (by (with_reducible repeat (first | refine blk_drewN ?_ _ | refine blk_drew ?_ | refine blk_alloc ?_ _)); exact BK236.out), (by repeat (first | (with_reducible first | exact HB.out | apply below_alloc | apply pw_below_drewN | apply below_drew1 | refine below_set ?_ GE235.out | refine below_set ?_ GE236.out) | exact HB.out)), fun _ => (by (with_reducible repeat (first | apply Kd.R_alloc | apply Kd.R_drewN | apply Kd.R_drew)); exact Kd.R_mono HO239.out (fun _ hk => by first | exact ⟨hk.1.2, hk.2⟩ | (simp [hk]; done))), z_HO243, fun h0_ => absurd ((hoff 12 (by kernel_rfl)).symm.trans h0_) (by decide)⟩
                refine steps_cons ?_ ?_
                · rintro b a w' ⟨v238, v242, v246, ha, Q_BK235, Q_BK236, Q_HB, Q_HO239, Q_HO243, Q_HO247⟩ hb_ hon hoff
                  refine ⟨_, rfl, fun K hK => ?_⟩
                  have e32 : a.tmps[32]? = some (v238) := by rw [ha]; exact putSel_on (e := (1, 32, v238)) 1 rfl rfl (hon 1 (by kernel_rfl)) rfl
                  have e33 : a.tmps[33]? = some (.slice A2 l2.length c2) := by rw [ha]; exact (putSel_off rfl).trans rfl
                  replace ha := Aside0.mk ha
                  have BK235 := Aside0.mk Q_BK235
                  have BK236 := Aside0.mk Q_BK236
                  have HB := Aside0.mk Q_HB
                  have HO239 := Aside0.mk (Q_HO239 (hon 1 (by kernel_rfl)))
                  obtain ⟨Ao26, co26, eo26⟩ := Kd.R_slice HO239.out
                  (first | subst eo26 | (injection eo26 with f1_ f2_ f3_; have f4_ := f1_.symm; have f5_ := f3_.symm; clear f1_ f2_ f3_; subst f4_; subst f5_))
                  refine goes_ Try.func38 (by kernel_rfl) rfl #[.slice Ao26 y237.length co26, .slice A2 l2.length c2] (by first | rfl | exact wanted_on rfl rfl rfl (e34.trans (by first | rfl | (simp [*]; done))) | exact wanted_on rfl rfl rfl (e38.trans (by first | rfl | (simp [*]; done))) | exact wanted_on rfl rfl rfl (e39.trans (by first | rfl | (simp [*]; done))) | exact wanted_on rfl rfl rfl (e40.trans (by first | rfl | (simp [*]; done))) | exact wanted_on rfl rfl rfl (e45.trans (by first | rfl | (simp [*]; done))) | exact wanted_on rfl rfl rfl (e46.trans (by first | rfl | (simp [*]; done))) | exact wanted_on rfl rfl rfl (e47.trans (by first | rfl | (simp [*]; done))) | exact wanted_on rfl rfl rfl (e48.trans (by first | rfl | (simp [*]; done))) | exact wanted_on rfl rfl rfl (e55.trans (by first | rfl | (simp [*]; done))) | exact wanted_on rfl rfl rfl (e56.trans (by first | rfl | (simp [*]; done)))) rfl rfl (by first | (simp only [List.map_toArray, List.map_cons, List.map_nil, Act.eval, Array.getD_eq_getD_getElem?, Option.getD_some, e32, e33]; done) | (simp only [List.map_toArray, List.map_cons, List.map_nil, Act.eval, Array.getD_eq_getD_getElem?, Option.getD_some, e32, e33]; rfl)) ?_
                  with_reducible refine (impl_MatchAll.calls _ _ y237 _ _ l2 t240 _ ?side1 ?side2 ?side3 ?side4 A11.out).mono ?_
                  (case side1 => repeat (first | exact (Kd.R_reads' HO239.out).2.2 | (with_reducible refine Kd.C_alloc ?_ _) | (with_reducible refine Kd.C_drewN ?_ _) | (with_reducible refine Kd.C_drew ?_)))
                  (case side2 => exact (Kd.R_reads' HO239.out).2.1)
                  (case side3 => repeat (first | exact (Kd.C_below HR2.out HB.out) | (with_reducible refine Kd.C_alloc ?_ _) | (with_reducible refine Kd.C_drewN ?_ _) | (with_reducible refine Kd.C_drew ?_)))
                  (case side4 => exact HC2.out)
                  rintro e w27 ⟨rfl, hb⟩
                  refine ⟨_, rfl, ?_⟩
                  have n0_ := Aside0.mk (Kd.R_below (by (with_reducible repeat (first | apply Kd.R_alloc | apply Kd.R_drewN | apply Kd.R_drew)); exact HO239.out) hb)
                  have n1_ := Aside0.mk (blk_below (g := gb235) (o := .cells #[.int .i64 0, .string a0, .string a1] 30 (0, 0)) (by (with_reducible repeat (first | refine blk_drewN ?_ _ | refine blk_drew ?_ | refine blk_alloc ?_ _)); exact BK235.out) hb)
                  have n2_ := Aside0.mk (blk_below (g := gb236) (o := .cells #[.int .i64 1, .string a0, .string a1] 30 (0, 0)) (by (with_reducible repeat (first | refine blk_drewN ?_ _ | refine blk_drew ?_ | refine blk_alloc ?_ _)); exact BK236.out) hb)
                  have n3_ := Aside0.mk (below_step (by repeat (first | (with_reducible first | exact HB.out | apply below_alloc | apply pw_below_drewN | apply below_drew1 | refine below_set ?_ GE235.out | refine below_set ?_ GE236.out) | exact HB.out)) hb)
                  have z_HO243 := fun (h0_ : b 5 = true) => (show Kd.R k30 30 w27 w.heap.size (fun k_ => k_ ≠ gb235 ∧ k_ ≠ gb236) v242 y241 from by first | exact (Kd.R_below (by (with_reducible repeat (first | apply Kd.R_alloc | apply Kd.R_drewN | apply Kd.R_drew)); exact (Q_HO243 h0_)) hb) | exact Kd.R_mono (Kd.R_below (by (with_reducible repeat (first | apply Kd.R_alloc | apply Kd.R_drewN | apply Kd.R_drew)); exact (Q_HO243 h0_)) hb) (fun _ h_ => by first | trivial | exact h_ | exact h_.1))
                  clear HO239
                  clear BK235
                  clear BK236
                  clear HB
                  have HO239 := n0_
                  have BK235 := n1_
                  have BK236 := n2_
                  have HB := n3_
                  clear n0_ n1_ n2_ n3_
                  (try clear hb)
                  (try clear hb2)
                  (try clear hk)
                  (try clear hi)
                  refine hK.out _ _ ⟨.slice Ao26 y237.length co26, v242, v246, (by rw [ha.out]; exact putSel_upk 2 hb_ rfl rfl rfl), (by (with_reducible repeat (first | refine blk_drewN ?_ _ | refine blk_drew ?_ | refine blk_alloc ?_ _)); exact BK235.out), (by (with_reducible repeat (first | refine blk_drewN ?_ _ | refine blk_drew ?_ | refine blk_alloc ?_ _)); exact BK236.out), (by repeat (first | (with_reducible first | exact HB.out | apply below_alloc | apply pw_below_drewN | apply below_drew1 | refine below_set ?_ GE235.out | refine below_set ?_ GE236.out) | exact HB.out)), fun _ => (by (with_reducible repeat (first | apply Kd.R_alloc | apply Kd.R_drewN | apply Kd.R_drew)); exact HO239.out), z_HO243, fun h0_ => absurd ((hoff 12 (by kernel_rfl)).symm.trans h0_) (by decide)⟩
                refine steps_cons ?_ ?_
                · rintro b a w' ⟨v238, v242, v246, ha, Q_BK235, Q_BK236, Q_HB, Q_HO239, Q_HO243, Q_HO247⟩ hb_ hon hoff
                  refine ⟨_, rfl, fun K hK => ?_⟩
                  have e8 : a.tmps[8]? = some (.pointer (some ⟨gb236, 0, none⟩)) := by rw [ha]; exact (putSel_off rfl).trans rfl
                  replace ha := Aside0.mk ha
                  have BK235 := Aside0.mk Q_BK235
                  have BK236 := Aside0.mk Q_BK236
                  have HB := Aside0.mk Q_HB
                  have hc0_ : w'.cell? ⟨gb236, 0, none⟩ = some (.int .i64 1) := (blk_cell BK236.out 0).trans rfl
                  have hc1_ : w'.cell? ⟨gb236, 1, none⟩ = some (.string a0) := (blk_cell BK236.out 1).trans rfl
                  have hc2_ : w'.cell? ⟨gb236, 2, none⟩ = some (.string a1) := (blk_cell BK236.out 2).trans rfl
                  refine value_ (w1 := w') (v := .agg #[.int .i64 1, .string a0, .string a1]) (by rfl) rfl ?_ ?_
                  · go_simp
                    (try simp only [i64_w])
                    try rfl
                  refine hK.out _ _ ⟨v238, v242, v246, (by rw [ha.out]; exact putSel_upk 3 hb_ rfl rfl rfl), Q_BK235, Q_BK236, Q_HB, Q_HO239, fun h0_ => absurd ((hoff 5 (by kernel_rfl)).symm.trans h0_) (by decide), fun h0_ => absurd ((hoff 12 (by kernel_rfl)).symm.trans h0_) (by decide)⟩
                refine steps_cons ?_ ?_
                · rintro b a w' ⟨v238, v242, v246, ha, Q_BK235, Q_BK236, Q_HB, Q_HO239, Q_HO243, Q_HO247⟩ hb_ hon hoff
                  refine ⟨_, rfl, fun K hK => ?_⟩
                  have e35 : a.tmps[35]? = some (.agg #[.int .i64 1, .string a0, .string a1]) := by rw [ha]; exact putSel_on (e := (4, 35, .agg #[.int .i64 1, .string a0, .string a1])) 3 rfl rfl (hon 4 (by kernel_rfl)) rfl
                  replace ha := Aside0.mk ha
                  have BK235 := Aside0.mk Q_BK235
                  have BK236 := Aside0.mk Q_BK236
                  have HB := Aside0.mk Q_HB
                  refine Kd.R_lit_step k30 _ 30 ?hg (N := 36) ?hd (xs := ([(⟨1, a0, a1⟩ : S30)] : List (S30))) (inner := [.int .i64 1, .string a0, .string a1]) (ok := fun _ => True) (okp := fun _ => True) ?hr ?hp (fun _ hk => hk) trivial (Below.refl _ _) (Nat.le_refl _) (by simp) ?_; (case hd => rfl); (case hg => first | rfl | exact wanted_on rfl rfl rfl (e34.trans (by first | rfl | (simp [*]; done))) | exact wanted_on rfl rfl rfl (e38.trans (by first | rfl | (simp [*]; done))) | exact wanted_on rfl rfl rfl (e39.trans (by first | rfl | (simp [*]; done))) | exact wanted_on rfl rfl rfl (e40.trans (by first | rfl | (simp [*]; done))) | exact wanted_on rfl rfl rfl (e45.trans (by first | rfl | (simp [*]; done))) | exact wanted_on rfl rfl rfl (e46.trans (by first | rfl | (simp [*]; done))) | exact wanted_on rfl rfl rfl (e47.trans (by first | rfl | (simp [*]; done))) | exact wanted_on rfl rfl rfl (e48.trans (by first | rfl | (simp [*]; done))) | exact wanted_on rfl rfl rfl (e55.trans (by first | rfl | (simp [*]; done))) | exact wanted_on rfl rfl rfl (e56.trans (by first | rfl | (simp [*]; done)))); (case hr => first | (go_simp; done) | (go_simp; rfl)); (case hp => exact (Reps.c3 (show Kd.M k30 _ _ _ (⟨1, a0, a1⟩ : S30) [.int .i64 1, .string a0, .string a1] from (k30_mkM _ _ _ (⟨1, a0, a1⟩ : S30) )) (Reps.none _ _)))
                  intro v242 w23 ho24 hb hg_ hnew_
                  clear hg_ hnew_
                  (first | rw [← Ny241.out] at ho24 | (simp only [Int.reduceToNat] at ho24; rw [← Ny241.out] at ho24))
                  have n0_ := Aside0.mk (Kd.R_lower (Kd.R_newB (Kd.R_newB ho24 (g := gb235) (o := .cells #[.int .i64 0, .string a0, .string a1] 30 (0, 0)) (by (with_reducible repeat (first | refine blk_drewN ?_ _ | refine blk_drew ?_ | refine blk_alloc ?_ _)); exact BK235.out)) (g := gb236) (o := .cells #[.int .i64 1, .string a0, .string a1] 30 (0, 0)) (by (with_reducible repeat (first | refine blk_drewN ?_ _ | refine blk_drew ?_ | refine blk_alloc ?_ _)); exact BK236.out)) (below_size (by repeat (first | (with_reducible first | exact HB.out | apply below_alloc | apply pw_below_drewN | apply below_drew1 | refine below_set ?_ GE235.out | refine below_set ?_ GE236.out) | exact HB.out))))
                  have n1_ := Aside0.mk (blk_below (g := gb235) (o := .cells #[.int .i64 0, .string a0, .string a1] 30 (0, 0)) (by (with_reducible repeat (first | refine blk_drewN ?_ _ | refine blk_drew ?_ | refine blk_alloc ?_ _)); exact BK235.out) hb)
                  have n2_ := Aside0.mk (blk_below (g := gb236) (o := .cells #[.int .i64 1, .string a0, .string a1] 30 (0, 0)) (by (with_reducible repeat (first | refine blk_drewN ?_ _ | refine blk_drew ?_ | refine blk_alloc ?_ _)); exact BK236.out) hb)
                  have n3_ := Aside0.mk (below_step (by repeat (first | (with_reducible first | exact HB.out | apply below_alloc | apply pw_below_drewN | apply below_drew1 | refine below_set ?_ GE235.out | refine below_set ?_ GE236.out) | exact HB.out)) hb)
                  have z_HO239 := fun (h0_ : b 1 = true) => (show Kd.R k30 30 w23 w.heap.size (fun k_ => k_ ≠ gb235 ∧ k_ ≠ gb236) v238 y237 from by first | exact (Kd.R_elder' (by (with_reducible repeat (first | apply Kd.R_alloc | apply Kd.R_drewN | apply Kd.R_drew)); exact (Q_HO239 h0_)) (Kd.R_base ho24) hb) | exact Kd.R_mono (Kd.R_elder' (by (with_reducible repeat (first | apply Kd.R_alloc | apply Kd.R_drewN | apply Kd.R_drew)); exact (Q_HO239 h0_)) (Kd.R_base ho24) hb) (fun _ h_ => by first | trivial | exact h_ | exact h_.1))
                  clear BK235
                  clear BK236
                  clear HB
                  have HO243 := n0_
                  have BK235 := n1_
                  have BK236 := n2_
                  have HB := n3_
                  clear n0_ n1_ n2_ n3_
                  clear hb ho24
                  refine hK.out _ _ ⟨v238, v242, v246, (by rw [ha.out]; exact putSel_upk 4 hb_ rfl rfl rfl), (by (with_reducible repeat (first | refine blk_drewN ?_ _ | refine blk_drew ?_ | refine blk_alloc ?_ _)); exact BK235.out), (by (with_reducible repeat (first | refine blk_drewN ?_ _ | refine blk_drew ?_ | refine blk_alloc ?_ _)); exact BK236.out), (by repeat (first | (with_reducible first | exact HB.out | apply below_alloc | apply pw_below_drewN | apply below_drew1 | refine below_set ?_ GE235.out | refine below_set ?_ GE236.out) | exact HB.out)), z_HO239, fun _ => (by (with_reducible repeat (first | apply Kd.R_alloc | apply Kd.R_drewN | apply Kd.R_drew)); exact Kd.R_mono HO243.out (fun _ hk => by first | exact ⟨hk.1.2, hk.2⟩ | (simp [hk]; done))), fun h0_ => absurd ((hoff 12 (by kernel_rfl)).symm.trans h0_) (by decide)⟩
                refine steps_cons ?_ ?_
                · rintro b a w' ⟨v238, v242, v246, ha, Q_BK235, Q_BK236, Q_HB, Q_HO239, Q_HO243, Q_HO247⟩ hb_ hon hoff
                  refine ⟨_, rfl, fun K hK => ?_⟩
                  have e36 : a.tmps[36]? = some (v242) := by rw [ha]; exact putSel_on (e := (5, 36, v242)) 4 rfl rfl (hon 5 (by kernel_rfl)) rfl
                  have e37 : a.tmps[37]? = some (.slice A2 l2.length c2) := by rw [ha]; exact (putSel_off rfl).trans rfl
                  replace ha := Aside0.mk ha
                  have BK235 := Aside0.mk Q_BK235
                  have BK236 := Aside0.mk Q_BK236
                  have HB := Aside0.mk Q_HB
                  have HO239 := Aside0.mk (Q_HO239 (hon 1 (by kernel_rfl)))
                  have HO243 := Aside0.mk (Q_HO243 (hon 5 (by kernel_rfl)))
                  obtain ⟨Ao30, co30, eo30⟩ := Kd.R_slice HO243.out
                  (first | subst eo30 | (injection eo30 with f1_ f2_ f3_; have f4_ := f1_.symm; have f5_ := f3_.symm; clear f1_ f2_ f3_; subst f4_; subst f5_))
                  refine goes_ Try.func38 (by kernel_rfl) rfl #[.slice Ao30 y241.length co30, .slice A2 l2.length c2] (by first | rfl | exact wanted_on rfl rfl rfl (e34.trans (by first | rfl | (simp [*]; done))) | exact wanted_on rfl rfl rfl (e38.trans (by first | rfl | (simp [*]; done))) | exact wanted_on rfl rfl rfl (e39.trans (by first | rfl | (simp [*]; done))) | exact wanted_on rfl rfl rfl (e40.trans (by first | rfl | (simp [*]; done))) | exact wanted_on rfl rfl rfl (e45.trans (by first | rfl | (simp [*]; done))) | exact wanted_on rfl rfl rfl (e46.trans (by first | rfl | (simp [*]; done))) | exact wanted_on rfl rfl rfl (e47.trans (by first | rfl | (simp [*]; done))) | exact wanted_on rfl rfl rfl (e48.trans (by first | rfl | (simp [*]; done))) | exact wanted_on rfl rfl rfl (e55.trans (by first | rfl | (simp [*]; done))) | exact wanted_on rfl rfl rfl (e56.trans (by first | rfl | (simp [*]; done)))) rfl rfl (by first | (simp only [List.map_toArray, List.map_cons, List.map_nil, Act.eval, Array.getD_eq_getD_getElem?, Option.getD_some, e36, e37]; done) | (simp only [List.map_toArray, List.map_cons, List.map_nil, Act.eval, Array.getD_eq_getD_getElem?, Option.getD_some, e36, e37]; rfl)) ?_
                  with_reducible refine (impl_MatchAll.calls _ _ y241 _ _ l2 t244 _ ?side1 ?side2 ?side3 ?side4 A12.out).mono ?_
                  (case side1 => repeat (first | exact (Kd.R_reads' HO243.out).2.2 | (with_reducible refine Kd.C_alloc ?_ _) | (with_reducible refine Kd.C_drewN ?_ _) | (with_reducible refine Kd.C_drew ?_)))
                  (case side2 => exact (Kd.R_reads' HO243.out).2.1)
                  (case side3 => repeat (first | exact (Kd.C_below HR2.out HB.out) | (with_reducible refine Kd.C_alloc ?_ _) | (with_reducible refine Kd.C_drewN ?_ _) | (with_reducible refine Kd.C_drew ?_)))
                  (case side4 => exact HC2.out)
                  rintro e w31 ⟨rfl, hb⟩
                  refine ⟨_, rfl, ?_⟩
                  have n0_ := Aside0.mk (Kd.R_below (by (with_reducible repeat (first | apply Kd.R_alloc | apply Kd.R_drewN | apply Kd.R_drew)); exact HO239.out) hb)
                  have n1_ := Aside0.mk (Kd.R_below (by (with_reducible repeat (first | apply Kd.R_alloc | apply Kd.R_drewN | apply Kd.R_drew)); exact HO243.out) hb)
                  have n2_ := Aside0.mk (blk_below (g := gb235) (o := .cells #[.int .i64 0, .string a0, .string a1] 30 (0, 0)) (by (with_reducible repeat (first | refine blk_drewN ?_ _ | refine blk_drew ?_ | refine blk_alloc ?_ _)); exact BK235.out) hb)
                  have n3_ := Aside0.mk (blk_below (g := gb236) (o := .cells #[.int .i64 1, .string a0, .string a1] 30 (0, 0)) (by (with_reducible repeat (first | refine blk_drewN ?_ _ | refine blk_drew ?_ | refine blk_alloc ?_ _)); exact BK236.out) hb)
                  have n4_ := Aside0.mk (below_step (by repeat (first | (with_reducible first | exact HB.out | apply below_alloc | apply pw_below_drewN | apply below_drew1 | refine below_set ?_ GE235.out | refine below_set ?_ GE236.out) | exact HB.out)) hb)
                  clear HO239
                  clear HO243
                  clear BK235
                  clear BK236
                  clear HB
                  have HO239 := n0_
                  have HO243 := n1_
                  have BK235 := n2_
                  have BK236 := n3_
                  have HB := n4_
                  clear n0_ n1_ n2_ n3_ n4_
                  (try clear hb)
                  (try clear hb2)
                  (try clear hk)
                  (try clear hi)
                  refine hK.out _ _ ⟨v238, .slice Ao30 y241.length co30, v246, (by rw [ha.out]; exact putSel_upk 5 hb_ rfl rfl rfl), (by (with_reducible repeat (first | refine blk_drewN ?_ _ | refine blk_drew ?_ | refine blk_alloc ?_ _)); exact BK235.out), (by (with_reducible repeat (first | refine blk_drewN ?_ _ | refine blk_drew ?_ | refine blk_alloc ?_ _)); exact BK236.out), (by repeat (first | (with_reducible first | exact HB.out | apply below_alloc | apply pw_below_drewN | apply below_drew1 | refine below_set ?_ GE235.out | refine below_set ?_ GE236.out) | exact HB.out)), fun _ => (by (with_reducible repeat (first | apply Kd.R_alloc | apply Kd.R_drewN | apply Kd.R_drew)); exact HO239.out), fun _ => (by (with_reducible repeat (first | apply Kd.R_alloc | apply Kd.R_drewN | apply Kd.R_drew)); exact HO243.out), fun h0_ => absurd ((hoff 12 (by kernel_rfl)).symm.trans h0_) (by decide)⟩
                refine steps_cons ?_ ?_
                · rintro b a w' ⟨v238, v242, v246, ha, Q_BK235, Q_BK236, Q_HB, Q_HO239, Q_HO243, Q_HO247⟩ hb_ hon hoff
                  refine ⟨_, rfl, fun K hK => ?_⟩
                  have e34 : a.tmps[34]? = some (.bool t240) := by rw [ha]; exact putSel_on (e := (3, 34, .bool t240)) 2 rfl rfl (hon 3 (by kernel_rfl)) rfl
                  have e38 : a.tmps[38]? = some (.bool t244) := by rw [ha]; exact putSel_on (e := (7, 38, .bool t244)) 5 rfl rfl (hon 7 (by kernel_rfl)) rfl
                  replace ha := Aside0.mk ha
                  have BK235 := Aside0.mk Q_BK235
                  have BK236 := Aside0.mk Q_BK236
                  have HB := Aside0.mk Q_HB
                  have HO239 := Aside0.mk (Q_HO239 (hon 1 (by kernel_rfl)))
                  have HO243 := Aside0.mk (Q_HO243 (hon 5 (by kernel_rfl)))
                  refine value_ (w1 := w') (v := .bool (t240 != t244)) (by rfl) rfl ?_ ?_
                  · go_simp
                    (try simp only [i64_w])
                    try rfl
                  refine hK.out _ _ ⟨v238, v242, v246, (by rw [ha.out]; exact putSel_upk 6 hb_ rfl rfl rfl), Q_BK235, Q_BK236, Q_HB, Q_HO239, Q_HO243, fun h0_ => absurd ((hoff 12 (by kernel_rfl)).symm.trans h0_) (by decide)⟩
                refine steps_cons ?_ ?_
                · rintro b a w' ⟨v238, v242, v246, ha, Q_BK235, Q_BK236, Q_HB, Q_HO239, Q_HO243, Q_HO247⟩ hb_ hon hoff
                  refine ⟨_, rfl, fun K hK => ?_⟩
                  have e39 : a.tmps[39]? = some (.bool (t240 != t244)) := by rw [ha]; exact putSel_on (e := (8, 39, .bool (t240 != t244))) 6 rfl rfl (hon 8 (by kernel_rfl)) rfl
                  replace ha := Aside0.mk ha
                  have BK235 := Aside0.mk Q_BK235
                  have BK236 := Aside0.mk Q_BK236
                  have HB := Aside0.mk Q_HB
                  have HO239 := Aside0.mk (Q_HO239 (hon 1 (by kernel_rfl)))
                  have HO243 := Aside0.mk (Q_HO243 (hon 5 (by kernel_rfl)))
                  refine value_ (w1 := w') (v := .bool (t240 != t244)) (by rfl) rfl ?_ ?_
                  · go_simp
                    (try simp only [i64_w])
                    try rfl
                  refine hK.out _ _ ⟨v238, v242, v246, (by rw [ha.out]; exact putSel_upk 7 hb_ rfl rfl rfl), Q_BK235, Q_BK236, Q_HB, Q_HO239, Q_HO243, fun h0_ => absurd ((hoff 12 (by kernel_rfl)).symm.trans h0_) (by decide)⟩
                refine steps_cons ?_ ?_
                · rintro b a w' ⟨v238, v242, v246, ha, Q_BK235, Q_BK236, Q_HB, Q_HO239, Q_HO243, Q_HO247⟩ hb_ hon hoff
                  refine ⟨_, rfl, fun K hK => ?_⟩
                  have e7 : a.tmps[7]? = some (.pointer (some ⟨gb235, 0, none⟩)) := by rw [ha]; exact (putSel_off rfl).trans rfl
                  have e40 : a.tmps[40]? = some (.bool (t240 != t244)) := by rw [ha]; exact putSel_on (e := (9, 40, .bool (t240 != t244))) 7 rfl rfl (hon 9 (by kernel_rfl)) rfl
                  replace ha := Aside0.mk ha
                  have BK235 := Aside0.mk Q_BK235
                  have BK236 := Aside0.mk Q_BK236
                  have HB := Aside0.mk Q_HB
                  have HO239 := Aside0.mk (Q_HO239 (hon 1 (by kernel_rfl)))
                  have HO243 := Aside0.mk (Q_HO243 (hon 5 (by kernel_rfl)))
                  have hc0_ : w'.cell? ⟨gb235, 0, none⟩ = some (.int .i64 0) := (blk_cell BK235.out 0).trans rfl
                  have hc1_ : w'.cell? ⟨gb235, 1, none⟩ = some (.string a0) := (blk_cell BK235.out 1).trans rfl
                  have hc2_ : w'.cell? ⟨gb235, 2, none⟩ = some (.string a1) := (blk_cell BK235.out 2).trans rfl
                  refine value_ (w1 := w') (v := .agg #[.int .i64 0, .string a0, .string a1]) (wanted_on rfl rfl rfl (e40.trans (by first | rfl | (simp [*]; done) | (simp [*, q_isEmpty]; done)))) rfl ?_ ?_
                  · go_simp
                    (try simp only [i64_w])
                    try rfl
                  refine hK.out _ _ ⟨v238, v242, v246, (by rw [ha.out]; exact putSel_upk 8 hb_ rfl rfl rfl), Q_BK235, Q_BK236, Q_HB, Q_HO239, Q_HO243, fun h0_ => absurd ((hoff 12 (by kernel_rfl)).symm.trans h0_) (by decide)⟩
                refine steps_cons ?_ ?_
                · rintro b a w' ⟨v238, v242, v246, ha, Q_BK235, Q_BK236, Q_HB, Q_HO239, Q_HO243, Q_HO247⟩ hb_ hon hoff
                  refine ⟨_, rfl, fun K hK => ?_⟩
                  have e8 : a.tmps[8]? = some (.pointer (some ⟨gb236, 0, none⟩)) := by rw [ha]; exact (putSel_off rfl).trans rfl
                  have e40 : a.tmps[40]? = some (.bool (t240 != t244)) := by rw [ha]; exact putSel_on (e := (9, 40, .bool (t240 != t244))) 7 rfl rfl (hon 9 (by kernel_rfl)) rfl
                  replace ha := Aside0.mk ha
                  have BK235 := Aside0.mk Q_BK235
                  have BK236 := Aside0.mk Q_BK236
                  have HB := Aside0.mk Q_HB
                  have HO239 := Aside0.mk (Q_HO239 (hon 1 (by kernel_rfl)))
                  have HO243 := Aside0.mk (Q_HO243 (hon 5 (by kernel_rfl)))
                  have hc0_ : w'.cell? ⟨gb236, 0, none⟩ = some (.int .i64 1) := (blk_cell BK236.out 0).trans rfl
                  have hc1_ : w'.cell? ⟨gb236, 1, none⟩ = some (.string a0) := (blk_cell BK236.out 1).trans rfl
                  have hc2_ : w'.cell? ⟨gb236, 2, none⟩ = some (.string a1) := (blk_cell BK236.out 2).trans rfl
                  refine value_ (w1 := w') (v := .agg #[.int .i64 1, .string a0, .string a1]) (wanted_on rfl rfl rfl (e40.trans (by first | rfl | (simp [*]; done) | (simp [*, q_isEmpty]; done)))) rfl ?_ ?_
                  · go_simp
                    (try simp only [i64_w])
                    try rfl
                  refine hK.out _ _ ⟨v238, v242, v246, (by rw [ha.out]; exact putSel_upk 9 hb_ rfl rfl rfl), Q_BK235, Q_BK236, Q_HB, Q_HO239, Q_HO243, fun h0_ => absurd ((hoff 12 (by kernel_rfl)).symm.trans h0_) (by decide)⟩
                refine steps_cons ?_ ?_
                · rintro b a w' ⟨v238, v242, v246, ha, Q_BK235, Q_BK236, Q_HB, Q_HO239, Q_HO243, Q_HO247⟩ hb_ hon hoff
                  refine ⟨_, rfl, fun K hK => ?_⟩
                  have e41 : a.tmps[41]? = some (.agg #[.int .i64 0, .string a0, .string a1]) := by rw [ha]; exact putSel_on (e := (10, 41, .agg #[.int .i64 0, .string a0, .string a1])) 8 rfl rfl (hon 10 (by kernel_rfl)) rfl
                  have e42 : a.tmps[42]? = some (.agg #[.int .i64 1, .string a0, .string a1]) := by rw [ha]; exact putSel_on (e := (11, 42, .agg #[.int .i64 1, .string a0, .string a1])) 9 rfl rfl (hon 11 (by kernel_rfl)) rfl
                  have e40 : a.tmps[40]? = some (.bool (t240 != t244)) := by rw [ha]; exact putSel_on (e := (9, 40, .bool (t240 != t244))) 7 rfl rfl (hon 9 (by kernel_rfl)) rfl
                  replace ha := Aside0.mk ha
                  have BK235 := Aside0.mk Q_BK235
                  have BK236 := Aside0.mk Q_BK236
                  have HB := Aside0.mk Q_HB
                  have HO239 := Aside0.mk (Q_HO239 (hon 1 (by kernel_rfl)))
                  have HO243 := Aside0.mk (Q_HO243 (hon 5 (by kernel_rfl)))
                  refine Kd.R_lit_step k30 _ 30 ?hg (N := 43) ?hd (xs := ([(⟨0, a0, a1⟩ : S30), (⟨1, a0, a1⟩ : S30)] : List (S30))) (inner := [.int .i64 0, .string a0, .string a1, .int .i64 1, .string a0, .string a1]) (ok := fun _ => True) (okp := fun _ => True) ?hr ?hp (fun _ hk => hk) trivial (Below.refl _ _) (Nat.le_refl _) (by simp) ?_; (case hd => rfl); (case hg => first | rfl | exact wanted_on rfl rfl rfl (e34.trans (by first | rfl | (simp [*]; done))) | exact wanted_on rfl rfl rfl (e38.trans (by first | rfl | (simp [*]; done))) | exact wanted_on rfl rfl rfl (e39.trans (by first | rfl | (simp [*]; done))) | exact wanted_on rfl rfl rfl (e40.trans (by first | rfl | (simp [*]; done))) | exact wanted_on rfl rfl rfl (e45.trans (by first | rfl | (simp [*]; done))) | exact wanted_on rfl rfl rfl (e46.trans (by first | rfl | (simp [*]; done))) | exact wanted_on rfl rfl rfl (e47.trans (by first | rfl | (simp [*]; done))) | exact wanted_on rfl rfl rfl (e48.trans (by first | rfl | (simp [*]; done))) | exact wanted_on rfl rfl rfl (e55.trans (by first | rfl | (simp [*]; done))) | exact wanted_on rfl rfl rfl (e56.trans (by first | rfl | (simp [*]; done)))); (case hr => first | (go_simp; done) | (go_simp; rfl)); (case hp => exact (Reps.c3 (show Kd.M k30 _ _ _ (⟨0, a0, a1⟩ : S30) [.int .i64 0, .string a0, .string a1] from (k30_mkM _ _ _ (⟨0, a0, a1⟩ : S30) )) (Reps.c3 (show Kd.M k30 _ _ _ (⟨1, a0, a1⟩ : S30) [.int .i64 1, .string a0, .string a1] from (k30_mkM _ _ _ (⟨1, a0, a1⟩ : S30) )) (Reps.none _ _))))
                  intro v246 w32 ho33 hb hg_ hnew_
                  clear hg_ hnew_
                  (first | rw [← Ny245.out] at ho33 | (simp only [Int.reduceToNat] at ho33; rw [← Ny245.out] at ho33))
                  have n0_ := Aside0.mk (Kd.R_elder' (by (with_reducible repeat (first | apply Kd.R_alloc | apply Kd.R_drewN | apply Kd.R_drew)); exact HO239.out) (Kd.R_base ho33) hb)
                  have n1_ := Aside0.mk (Kd.R_elder' (by (with_reducible repeat (first | apply Kd.R_alloc | apply Kd.R_drewN | apply Kd.R_drew)); exact HO243.out) (Kd.R_base ho33) hb)
                  have n2_ := Aside0.mk (Kd.R_lower (Kd.R_newB (Kd.R_newB (Kd.R_new' (Kd.R_new' ho33 (Kd.R_lt (by (with_reducible repeat (first | apply Kd.R_alloc | apply Kd.R_drewN | apply Kd.R_drew)); exact HO239.out))) (Kd.R_lt (by (with_reducible repeat (first | apply Kd.R_alloc | apply Kd.R_drewN | apply Kd.R_drew)); exact HO243.out))) (g := gb235) (o := .cells #[.int .i64 0, .string a0, .string a1] 30 (0, 0)) (by (with_reducible repeat (first | refine blk_drewN ?_ _ | refine blk_drew ?_ | refine blk_alloc ?_ _)); exact BK235.out)) (g := gb236) (o := .cells #[.int .i64 1, .string a0, .string a1] 30 (0, 0)) (by (with_reducible repeat (first | refine blk_drewN ?_ _ | refine blk_drew ?_ | refine blk_alloc ?_ _)); exact BK236.out)) (below_size (by repeat (first | (with_reducible first | exact HB.out | apply below_alloc | apply pw_below_drewN | apply below_drew1 | refine below_set ?_ GE235.out | refine below_set ?_ GE236.out) | exact HB.out))))
                  have n3_ := Aside0.mk (blk_below (g := gb235) (o := .cells #[.int .i64 0, .string a0, .string a1] 30 (0, 0)) (by (with_reducible repeat (first | refine blk_drewN ?_ _ | refine blk_drew ?_ | refine blk_alloc ?_ _)); exact BK235.out) hb)
                  have n4_ := Aside0.mk (blk_below (g := gb236) (o := .cells #[.int .i64 1, .string a0, .string a1] 30 (0, 0)) (by (with_reducible repeat (first | refine blk_drewN ?_ _ | refine blk_drew ?_ | refine blk_alloc ?_ _)); exact BK236.out) hb)
                  have n5_ := Aside0.mk (below_step (by repeat (first | (with_reducible first | exact HB.out | apply below_alloc | apply pw_below_drewN | apply below_drew1 | refine below_set ?_ GE235.out | refine below_set ?_ GE236.out) | exact HB.out)) hb)
                  clear HO239
                  clear HO243
                  clear BK235
                  clear BK236
                  clear HB
                  have HO239 := n0_
                  have HO243 := n1_
                  have HO247 := n2_
                  have BK235 := n3_
                  have BK236 := n4_
                  have HB := n5_
                  clear n0_ n1_ n2_ n3_ n4_ n5_
                  clear hb ho33
                  refine hK.out _ _ ⟨v238, v242, v246, (by rw [ha.out]; exact putSel_upk 10 hb_ rfl rfl rfl), (by (with_reducible repeat (first | refine blk_drewN ?_ _ | refine blk_drew ?_ | refine blk_alloc ?_ _)); exact BK235.out), (by (with_reducible repeat (first | refine blk_drewN ?_ _ | refine blk_drew ?_ | refine blk_alloc ?_ _)); exact BK236.out), (by repeat (first | (with_reducible first | exact HB.out | apply below_alloc | apply pw_below_drewN | apply below_drew1 | refine below_set ?_ GE235.out | refine below_set ?_ GE236.out) | exact HB.out)), fun _ => (by (with_reducible repeat (first | apply Kd.R_alloc | apply Kd.R_drewN | apply Kd.R_drew)); exact Kd.R_mono HO239.out (fun _ hk => by first | exact ⟨hk.1.1, ⟨hk.2, ⟨hk.1.2.1, hk.1.2.2⟩⟩⟩ | (simp [hk]; done))), fun _ => (by (with_reducible repeat (first | apply Kd.R_alloc | apply Kd.R_drewN | apply Kd.R_drew)); exact Kd.R_mono HO243.out (fun _ hk => by first | exact ⟨hk.1.1, ⟨hk.2, ⟨hk.1.2.1, hk.1.2.2⟩⟩⟩ | (simp [hk]; done))), fun _ => (by (with_reducible repeat (first | apply Kd.R_alloc | apply Kd.R_drewN | apply Kd.R_drew)); exact Kd.R_mono HO247.out (fun _ hk => by first | exact ⟨hk.1.1.1.2, ⟨hk.1.1.2, ⟨hk.1.2, hk.2⟩⟩⟩ | (simp [hk]; done)))⟩
                refine steps_cons ?_ ?_
                · rintro b a w' ⟨v238, v242, v246, ha, Q_BK235, Q_BK236, Q_HB, Q_HO239, Q_HO243, Q_HO247⟩ hb_ hon hoff
                  refine ⟨_, rfl, fun K hK => ?_⟩
                  have e2 : a.tmps[2]? = some (.slice A2 l2.length c2) := by rw [ha]; exact (putSel_off rfl).trans rfl
                  have e40 : a.tmps[40]? = some (.bool (t240 != t244)) := by rw [ha]; exact putSel_on (e := (9, 40, .bool (t240 != t244))) 7 rfl rfl (hon 9 (by kernel_rfl)) rfl
                  replace ha := Aside0.mk ha
                  have BK235 := Aside0.mk Q_BK235
                  have BK236 := Aside0.mk Q_BK236
                  have HB := Aside0.mk Q_HB
                  have HO239 := Aside0.mk (Q_HO239 (hon 1 (by kernel_rfl)))
                  have HO243 := Aside0.mk (Q_HO243 (hon 5 (by kernel_rfl)))
                  refine value_ (w1 := w') (v := .slice A2 l2.length c2) (wanted_on rfl rfl rfl (e40.trans (by first | rfl | (simp [*]; done) | (simp [*, q_isEmpty]; done)))) rfl ?_ ?_
                  · go_simp
                    (try simp only [i64_w])
                    try rfl
                  refine hK.out _ _ ⟨v238, v242, v246, (by rw [ha.out]; exact putSel_upk 11 hb_ rfl rfl rfl), Q_BK235, Q_BK236, Q_HB, Q_HO239, Q_HO243, Q_HO247⟩
                refine steps_cons ?_ ?_
                · rintro b a w' ⟨v238, v242, v246, ha, Q_BK235, Q_BK236, Q_HB, Q_HO239, Q_HO243, Q_HO247⟩ hb_ hon hoff
                  refine ⟨_, rfl, fun K hK => ?_⟩
                  have e43 : a.tmps[43]? = some (v246) := by rw [ha]; exact putSel_on (e := (12, 43, v246)) 10 rfl rfl (hon 12 (by kernel_rfl)) rfl
                  have e44 : a.tmps[44]? = some (.slice A2 l2.length c2) := by rw [ha]; exact putSel_on (e := (13, 44, .slice A2 l2.length c2)) 11 rfl rfl (hon 13 (by kernel_rfl)) rfl
                  have e40 : a.tmps[40]? = some (.bool (t240 != t244)) := by rw [ha]; exact putSel_on (e := (9, 40, .bool (t240 != t244))) 7 rfl rfl (hon 9 (by kernel_rfl)) rfl
                  replace ha := Aside0.mk ha
                  have BK235 := Aside0.mk Q_BK235
                  have BK236 := Aside0.mk Q_BK236
                  have HB := Aside0.mk Q_HB
                  have HO239 := Aside0.mk (Q_HO239 (hon 1 (by kernel_rfl)))
                  have HO243 := Aside0.mk (Q_HO243 (hon 5 (by kernel_rfl)))
                  have HO247 := Aside0.mk (Q_HO247 (hon 12 (by kernel_rfl)))
                  obtain ⟨Ao34, co34, eo34⟩ := Kd.R_slice HO247.out
                  (first | subst eo34 | (injection eo34 with f1_ f2_ f3_; have f4_ := f1_.symm; have f5_ := f3_.symm; clear f1_ f2_ f3_; subst f4_; subst f5_))
                  refine goes_ Try.func38 (by kernel_rfl) rfl #[.slice Ao34 y245.length co34, .slice A2 l2.length c2] (by first | rfl | exact wanted_on rfl rfl rfl (e34.trans (by first | rfl | (simp [*]; done))) | exact wanted_on rfl rfl rfl (e38.trans (by first | rfl | (simp [*]; done))) | exact wanted_on rfl rfl rfl (e39.trans (by first | rfl | (simp [*]; done))) | exact wanted_on rfl rfl rfl (e40.trans (by first | rfl | (simp [*]; done))) | exact wanted_on rfl rfl rfl (e45.trans (by first | rfl | (simp [*]; done))) | exact wanted_on rfl rfl rfl (e46.trans (by first | rfl | (simp [*]; done))) | exact wanted_on rfl rfl rfl (e47.trans (by first | rfl | (simp [*]; done))) | exact wanted_on rfl rfl rfl (e48.trans (by first | rfl | (simp [*]; done))) | exact wanted_on rfl rfl rfl (e55.trans (by first | rfl | (simp [*]; done))) | exact wanted_on rfl rfl rfl (e56.trans (by first | rfl | (simp [*]; done)))) rfl rfl (by first | (simp only [List.map_toArray, List.map_cons, List.map_nil, Act.eval, Array.getD_eq_getD_getElem?, Option.getD_some, e43, e44, e40]; done) | (simp only [List.map_toArray, List.map_cons, List.map_nil, Act.eval, Array.getD_eq_getD_getElem?, Option.getD_some, e43, e44, e40]; rfl)) ?_
                  with_reducible refine (impl_MatchAll.calls _ _ y245 _ _ l2 true _ ?side1 ?side2 ?side3 ?side4 A14.out).mono ?_
                  (case side1 => repeat (first | exact (Kd.R_reads' HO247.out).2.2 | (with_reducible refine Kd.C_alloc ?_ _) | (with_reducible refine Kd.C_drewN ?_ _) | (with_reducible refine Kd.C_drew ?_)))
                  (case side2 => exact (Kd.R_reads' HO247.out).2.1)
                  (case side3 => repeat (first | exact (Kd.C_below HR2.out HB.out) | (with_reducible refine Kd.C_alloc ?_ _) | (with_reducible refine Kd.C_drewN ?_ _) | (with_reducible refine Kd.C_drew ?_)))
                  (case side4 => exact HC2.out)
                  rintro e w35 ⟨rfl, hb⟩
                  refine ⟨_, rfl, ?_⟩
                  have n0_ := Aside0.mk (Kd.R_below (by (with_reducible repeat (first | apply Kd.R_alloc | apply Kd.R_drewN | apply Kd.R_drew)); exact HO239.out) hb)
                  have n1_ := Aside0.mk (Kd.R_below (by (with_reducible repeat (first | apply Kd.R_alloc | apply Kd.R_drewN | apply Kd.R_drew)); exact HO243.out) hb)
                  have n2_ := Aside0.mk (Kd.R_below (by (with_reducible repeat (first | apply Kd.R_alloc | apply Kd.R_drewN | apply Kd.R_drew)); exact HO247.out) hb)
                  have n3_ := Aside0.mk (blk_below (g := gb235) (o := .cells #[.int .i64 0, .string a0, .string a1] 30 (0, 0)) (by (with_reducible repeat (first | refine blk_drewN ?_ _ | refine blk_drew ?_ | refine blk_alloc ?_ _)); exact BK235.out) hb)
                  have n4_ := Aside0.mk (blk_below (g := gb236) (o := .cells #[.int .i64 1, .string a0, .string a1] 30 (0, 0)) (by (with_reducible repeat (first | refine blk_drewN ?_ _ | refine blk_drew ?_ | refine blk_alloc ?_ _)); exact BK236.out) hb)
                  have n5_ := Aside0.mk (below_step (by repeat (first | (with_reducible first | exact HB.out | apply below_alloc | apply pw_below_drewN | apply below_drew1 | refine below_set ?_ GE235.out | refine below_set ?_ GE236.out) | exact HB.out)) hb)
                  clear HO239
                  clear HO243
                  clear HO247
                  clear BK235
                  clear BK236
                  clear HB
                  have HO239 := n0_
                  have HO243 := n1_
                  have HO247 := n2_
                  have BK235 := n3_
                  have BK236 := n4_
                  have HB := n5_
                  clear n0_ n1_ n2_ n3_ n4_ n5_
                  (try clear hb)
                  (try clear hb2)
                  (try clear hk)
                  (try clear hi)
                  refine hK.out _ _ ⟨v238, v242, .slice Ao34 y245.length co34, (by rw [ha.out]; exact putSel_upk 12 hb_ rfl rfl rfl), (by (with_reducible repeat (first | refine blk_drewN ?_ _ | refine blk_drew ?_ | refine blk_alloc ?_ _)); exact BK235.out), (by (with_reducible repeat (first | refine blk_drewN ?_ _ | refine blk_drew ?_ | refine blk_alloc ?_ _)); exact BK236.out), (by repeat (first | (with_reducible first | exact HB.out | apply below_alloc | apply pw_below_drewN | apply below_drew1 | refine below_set ?_ GE235.out | refine below_set ?_ GE236.out) | exact HB.out)), fun _ => (by (with_reducible repeat (first | apply Kd.R_alloc | apply Kd.R_drewN | apply Kd.R_drew)); exact HO239.out), fun _ => (by (with_reducible repeat (first | apply Kd.R_alloc | apply Kd.R_drewN | apply Kd.R_drew)); exact HO243.out), fun _ => (by (with_reducible repeat (first | apply Kd.R_alloc | apply Kd.R_drewN | apply Kd.R_drew)); exact HO247.out)⟩
                refine steps_cons ?_ ?_
                · rintro b a w' ⟨v238, v242, v246, ha, Q_BK235, Q_BK236, Q_HB, Q_HO239, Q_HO243, Q_HO247⟩ hb_ hon hoff
                  refine ⟨_, rfl, fun K hK => ?_⟩
                  have e45 : a.tmps[45]? = some (.bool true) := by rw [ha]; exact putSel_on (e := (14, 45, .bool true)) 12 rfl rfl (hon 14 (by kernel_rfl)) rfl
                  have e40 : a.tmps[40]? = some (.bool (t240 != t244)) := by rw [ha]; exact putSel_on (e := (9, 40, .bool (t240 != t244))) 7 rfl rfl (hon 9 (by kernel_rfl)) rfl
                  replace ha := Aside0.mk ha
                  have BK235 := Aside0.mk Q_BK235
                  have BK236 := Aside0.mk Q_BK236
                  have HB := Aside0.mk Q_HB
                  have HO239 := Aside0.mk (Q_HO239 (hon 1 (by kernel_rfl)))
                  have HO243 := Aside0.mk (Q_HO243 (hon 5 (by kernel_rfl)))
                  have HO247 := Aside0.mk (Q_HO247 (hon 12 (by kernel_rfl)))
                  refine value_ (w1 := w') (v := .bool (!true)) (wanted_on rfl rfl rfl (e40.trans (by first | rfl | (simp [*]; done) | (simp [*, q_isEmpty]; done)))) rfl ?_ ?_
                  · go_simp
                    (try simp only [i64_w])
                    try rfl
                  refine hK.out _ _ ⟨v238, v242, v246, (by rw [ha.out]; exact putSel_upk 13 hb_ rfl rfl rfl), Q_BK235, Q_BK236, Q_HB, Q_HO239, Q_HO243, Q_HO247⟩
                refine steps_cons ?_ ?_
                · rintro b a w' ⟨v238, v242, v246, ha, Q_BK235, Q_BK236, Q_HB, Q_HO239, Q_HO243, Q_HO247⟩ hb_ hon hoff
                  refine ⟨_, rfl, fun K hK => ?_⟩
                  have e40 : a.tmps[40]? = some (.bool (t240 != t244)) := by rw [ha]; exact putSel_on (e := (9, 40, .bool (t240 != t244))) 7 rfl rfl (hon 9 (by kernel_rfl)) rfl
                  have e46 : a.tmps[46]? = some (.bool (!true)) := by rw [ha]; exact putSel_on (e := (15, 46, .bool (!true))) 13 rfl rfl (hon 15 (by kernel_rfl)) rfl
                  replace ha := Aside0.mk ha
                  have BK235 := Aside0.mk Q_BK235
                  have BK236 := Aside0.mk Q_BK236
                  have HB := Aside0.mk Q_HB
                  have HO239 := Aside0.mk (Q_HO239 (hon 1 (by kernel_rfl)))
                  have HO243 := Aside0.mk (Q_HO243 (hon 5 (by kernel_rfl)))
                  have HO247 := Aside0.mk (Q_HO247 (hon 12 (by kernel_rfl)))
                  refine value_ (w1 := w') (v := .bool (!true)) (by rfl) rfl ?_ ?_
                  · go_simp
                    (try simp only [i64_w])
                    try rfl
                  refine hK.out _ _ ⟨v238, v242, v246, (by rw [ha.out]; exact putSel_upk 14 hb_ rfl rfl rfl), Q_BK235, Q_BK236, Q_HB, Q_HO239, Q_HO243, Q_HO247⟩
                refine steps_cons ?_ ?_
                · rintro b a w' ⟨v238, v242, v246, ha, Q_BK235, Q_BK236, Q_HB, Q_HO239, Q_HO243, Q_HO247⟩ hb_ hon hoff
                  refine ⟨_, rfl, fun K hK => ?_⟩
                  have e47 : a.tmps[47]? = some (.bool (!true)) := by rw [ha]; exact putSel_on (e := (16, 47, .bool (!true))) 14 rfl rfl (hon 16 (by kernel_rfl)) rfl
                  replace ha := Aside0.mk ha
                  have BK235 := Aside0.mk Q_BK235
                  have BK236 := Aside0.mk Q_BK236
                  have HB := Aside0.mk Q_HB
                  have HO239 := Aside0.mk (Q_HO239 (hon 1 (by kernel_rfl)))
                  have HO243 := Aside0.mk (Q_HO243 (hon 5 (by kernel_rfl)))
                  have HO247 := Aside0.mk (Q_HO247 (hon 12 (by kernel_rfl)))
                  refine value_ (w1 := w') (v := .bool (!true)) (by rfl) rfl ?_ ?_
                  · go_simp
                    (try simp only [i64_w])
                    try rfl
                  refine hK.out _ _ ⟨v238, v242, v246, (by rw [ha.out]; exact putSel_upk 15 hb_ rfl rfl rfl), Q_BK235, Q_BK236, Q_HB, Q_HO239, Q_HO243, Q_HO247⟩
                refine steps_cons ?_ ?_
                · rintro b a w' ⟨v238, v242, v246, ha, Q_BK235, Q_BK236, Q_HB, Q_HO239, Q_HO243, Q_HO247⟩ hb_ hon hoff
                  refine ⟨_, rfl, fun K hK => ?_⟩
                  have e48 : a.tmps[48]? = some (.bool (!true)) := by rw [ha]; exact putSel_on (e := (17, 48, .bool (!true))) 15 rfl rfl (hon 17 (by kernel_rfl)) rfl
                  replace ha := Aside0.mk ha
                  have BK235 := Aside0.mk Q_BK235
                  have BK236 := Aside0.mk Q_BK236
                  have HB := Aside0.mk Q_HB
                  have HO239 := Aside0.mk (Q_HO239 (hon 1 (by kernel_rfl)))
                  have HO243 := Aside0.mk (Q_HO243 (hon 5 (by kernel_rfl)))
                  have HO247 := Aside0.mk (Q_HO247 (hon 12 (by kernel_rfl)))
                  refine off_ (wanted_off rfl rfl rfl (e48.trans (by first | rfl | (simp [*]; done) | (simp [*, q_isEmpty]; done)))) ?_
                  refine hK.out _ _ ⟨v238, v242, v246, (by rw [ha.out]; exact putSel_upk 16 hb_ rfl rfl rfl), Q_BK235, Q_BK236, Q_HB, Q_HO239, Q_HO243, Q_HO247⟩
                refine steps_cons ?_ ?_
                · rintro b a w' ⟨v238, v242, v246, ha, Q_BK235, Q_BK236, Q_HB, Q_HO239, Q_HO243, Q_HO247⟩ hb_ hon hoff
                  refine ⟨_, rfl, fun K hK => ?_⟩
                  have e48 : a.tmps[48]? = some (.bool (!true)) := by rw [ha]; exact putSel_on (e := (17, 48, .bool (!true))) 15 rfl rfl (hon 17 (by kernel_rfl)) rfl
                  replace ha := Aside0.mk ha
                  have BK235 := Aside0.mk Q_BK235
                  have BK236 := Aside0.mk Q_BK236
                  have HB := Aside0.mk Q_HB
                  have HO239 := Aside0.mk (Q_HO239 (hon 1 (by kernel_rfl)))
                  have HO243 := Aside0.mk (Q_HO243 (hon 5 (by kernel_rfl)))
                  have HO247 := Aside0.mk (Q_HO247 (hon 12 (by kernel_rfl)))
                  refine off_ (wanted_off rfl rfl rfl (e48.trans (by first | rfl | (simp [*]; done) | (simp [*, q_isEmpty]; done)))) ?_
                  refine hK.out _ _ ⟨v238, v242, v246, (by rw [ha.out]; exact putSel_upk 17 hb_ rfl rfl rfl), Q_BK235, Q_BK236, Q_HB, Q_HO239, Q_HO243, Q_HO247⟩
                refine steps_cons ?_ ?_
                · rintro b a w' ⟨v238, v242, v246, ha, Q_BK235, Q_BK236, Q_HB, Q_HO239, Q_HO243, Q_HO247⟩ hb_ hon hoff
                  refine ⟨_, rfl, fun K hK => ?_⟩
                  have e48 : a.tmps[48]? = some (.bool (!true)) := by rw [ha]; exact putSel_on (e := (17, 48, .bool (!true))) 15 rfl rfl (hon 17 (by kernel_rfl)) rfl
                  replace ha := Aside0.mk ha
                  have BK235 := Aside0.mk Q_BK235
                  have BK236 := Aside0.mk Q_BK236
                  have HB := Aside0.mk Q_HB
                  have HO239 := Aside0.mk (Q_HO239 (hon 1 (by kernel_rfl)))
                  have HO243 := Aside0.mk (Q_HO243 (hon 5 (by kernel_rfl)))
                  have HO247 := Aside0.mk (Q_HO247 (hon 12 (by kernel_rfl)))
                  refine off_ (wanted_off rfl rfl rfl (e48.trans (by first | rfl | (simp [*]; done) | (simp [*, q_isEmpty]; done)))) ?_
                  refine hK.out _ _ ⟨v238, v242, v246, (by rw [ha.out]; exact putSel_upk 18 hb_ rfl rfl rfl), Q_BK235, Q_BK236, Q_HB, Q_HO239, Q_HO243, Q_HO247⟩
                refine steps_cons ?_ ?_
                · rintro b a w' ⟨v238, v242, v246, ha, Q_BK235, Q_BK236, Q_HB, Q_HO239, Q_HO243, Q_HO247⟩ hb_ hon hoff
                  refine ⟨_, rfl, fun K hK => ?_⟩
                  have e48 : a.tmps[48]? = some (.bool (!true)) := by rw [ha]; exact putSel_on (e := (17, 48, .bool (!true))) 15 rfl rfl (hon 17 (by kernel_rfl)) rfl
                  replace ha := Aside0.mk ha
                  have BK235 := Aside0.mk Q_BK235
                  have BK236 := Aside0.mk Q_BK236
                  have HB := Aside0.mk Q_HB
                  have HO239 := Aside0.mk (Q_HO239 (hon 1 (by kernel_rfl)))
                  have HO243 := Aside0.mk (Q_HO243 (hon 5 (by kernel_rfl)))
                  have HO247 := Aside0.mk (Q_HO247 (hon 12 (by kernel_rfl)))
                  refine off_ (wanted_off rfl rfl rfl (e48.trans (by first | rfl | (simp [*]; done) | (simp [*, q_isEmpty]; done)))) ?_
                  refine hK.out _ _ ⟨v238, v242, v246, (by rw [ha.out]; exact putSel_upk 19 hb_ rfl rfl rfl), Q_BK235, Q_BK236, Q_HB, Q_HO239, Q_HO243, Q_HO247⟩
                refine steps_cons ?_ ?_
                · rintro b a w' ⟨v238, v242, v246, ha, Q_BK235, Q_BK236, Q_HB, Q_HO239, Q_HO243, Q_HO247⟩ hb_ hon hoff
                  refine ⟨_, rfl, fun K hK => ?_⟩
                  have e48 : a.tmps[48]? = some (.bool (!true)) := by rw [ha]; exact putSel_on (e := (17, 48, .bool (!true))) 15 rfl rfl (hon 17 (by kernel_rfl)) rfl
                  replace ha := Aside0.mk ha
                  have BK235 := Aside0.mk Q_BK235
                  have BK236 := Aside0.mk Q_BK236
                  have HB := Aside0.mk Q_HB
                  have HO239 := Aside0.mk (Q_HO239 (hon 1 (by kernel_rfl)))
                  have HO243 := Aside0.mk (Q_HO243 (hon 5 (by kernel_rfl)))
                  have HO247 := Aside0.mk (Q_HO247 (hon 12 (by kernel_rfl)))
                  refine off_ (wanted_off rfl rfl rfl (e48.trans (by first | rfl | (simp [*]; done) | (simp [*, q_isEmpty]; done)))) ?_
                  refine hK.out _ _ ⟨v238, v242, v246, (by rw [ha.out]; exact putSel_upk 20 hb_ rfl rfl rfl), Q_BK235, Q_BK236, Q_HB, Q_HO239, Q_HO243, Q_HO247⟩
                refine steps_cons ?_ ?_
                · rintro b a w' ⟨v238, v242, v246, ha, Q_BK235, Q_BK236, Q_HB, Q_HO239, Q_HO243, Q_HO247⟩ hb_ hon hoff
                  refine ⟨_, rfl, fun K hK => ?_⟩
                  have e48 : a.tmps[48]? = some (.bool (!true)) := by rw [ha]; exact putSel_on (e := (17, 48, .bool (!true))) 15 rfl rfl (hon 17 (by kernel_rfl)) rfl
                  replace ha := Aside0.mk ha
                  have BK235 := Aside0.mk Q_BK235
                  have BK236 := Aside0.mk Q_BK236
                  have HB := Aside0.mk Q_HB
                  have HO239 := Aside0.mk (Q_HO239 (hon 1 (by kernel_rfl)))
                  have HO243 := Aside0.mk (Q_HO243 (hon 5 (by kernel_rfl)))
                  have HO247 := Aside0.mk (Q_HO247 (hon 12 (by kernel_rfl)))
                  refine off_ (wanted_off rfl rfl rfl (e48.trans (by first | rfl | (simp [*]; done) | (simp [*, q_isEmpty]; done)))) ?_
                  refine hK.out _ _ ⟨v238, v242, v246, (by rw [ha.out]; exact putSel_upk 21 hb_ rfl rfl rfl), Q_BK235, Q_BK236, Q_HB, Q_HO239, Q_HO243, Q_HO247⟩
                refine steps_cons ?_ ?_
                · rintro b a w' ⟨v238, v242, v246, ha, Q_BK235, Q_BK236, Q_HB, Q_HO239, Q_HO243, Q_HO247⟩ hb_ hon hoff
                  refine ⟨_, rfl, fun K hK => ?_⟩
                  have e48 : a.tmps[48]? = some (.bool (!true)) := by rw [ha]; exact putSel_on (e := (17, 48, .bool (!true))) 15 rfl rfl (hon 17 (by kernel_rfl)) rfl
                  replace ha := Aside0.mk ha
                  have BK235 := Aside0.mk Q_BK235
                  have BK236 := Aside0.mk Q_BK236
                  have HB := Aside0.mk Q_HB
                  have HO239 := Aside0.mk (Q_HO239 (hon 1 (by kernel_rfl)))
                  have HO243 := Aside0.mk (Q_HO243 (hon 5 (by kernel_rfl)))
                  have HO247 := Aside0.mk (Q_HO247 (hon 12 (by kernel_rfl)))
                  refine off_ (wanted_off rfl rfl rfl (e48.trans (by first | rfl | (simp [*]; done) | (simp [*, q_isEmpty]; done)))) ?_
                  refine hK.out _ _ ⟨v238, v242, v246, (by rw [ha.out]; exact putSel_upk 22 hb_ rfl rfl rfl), Q_BK235, Q_BK236, Q_HB, Q_HO239, Q_HO243, Q_HO247⟩
                refine steps_cons ?_ ?_
                · rintro b a w' ⟨v238, v242, v246, ha, Q_BK235, Q_BK236, Q_HB, Q_HO239, Q_HO243, Q_HO247⟩ hb_ hon hoff
                  refine ⟨_, rfl, fun K hK => ?_⟩
                  have e48 : a.tmps[48]? = some (.bool (!true)) := by rw [ha]; exact putSel_on (e := (17, 48, .bool (!true))) 15 rfl rfl (hon 17 (by kernel_rfl)) rfl
                  have e55 : a.tmps[55]? = some (undef) := by rw [ha]; exact putSel_on (e := (24, 55, undef)) 22 rfl rfl (hon 24 (by kernel_rfl)) rfl
                  replace ha := Aside0.mk ha
                  have BK235 := Aside0.mk Q_BK235
                  have BK236 := Aside0.mk Q_BK236
                  have HB := Aside0.mk Q_HB
                  have HO239 := Aside0.mk (Q_HO239 (hon 1 (by kernel_rfl)))
                  have HO243 := Aside0.mk (Q_HO243 (hon 5 (by kernel_rfl)))
                  have HO247 := Aside0.mk (Q_HO247 (hon 12 (by kernel_rfl)))
                  refine value_ (w1 := w') (v := .bool false) (by rfl) rfl ?_ ?_
                  · go_simp
                    (try simp only [i64_w])
                    try rfl
                  refine hK.out _ _ ⟨v238, v242, v246, (by rw [ha.out]; exact putSel_upk 23 hb_ rfl rfl rfl), Q_BK235, Q_BK236, Q_HB, Q_HO239, Q_HO243, Q_HO247⟩
                refine steps_cons ?_ ?_
                · rintro b a w' ⟨v238, v242, v246, ha, Q_BK235, Q_BK236, Q_HB, Q_HO239, Q_HO243, Q_HO247⟩ hb_ hon hoff
                  refine ⟨_, rfl, fun K hK => ?_⟩
                  have e56 : a.tmps[56]? = some (.bool false) := by rw [ha]; exact putSel_on (e := (25, 56, .bool false)) 23 rfl rfl (hon 25 (by kernel_rfl)) rfl
                  replace ha := Aside0.mk ha
                  have BK235 := Aside0.mk Q_BK235
                  have BK236 := Aside0.mk Q_BK236
                  have HB := Aside0.mk Q_HB
                  have HO239 := Aside0.mk (Q_HO239 (hon 1 (by kernel_rfl)))
                  have HO243 := Aside0.mk (Q_HO243 (hon 5 (by kernel_rfl)))
                  have HO247 := Aside0.mk (Q_HO247 (hon 12 (by kernel_rfl)))
                  refine value_ (w1 := w') (v := .bool false) (by rfl) rfl ?_ ?_
                  · go_simp
                    (try simp only [i64_w])
                    try rfl
                  refine hK.out _ _ ⟨v238, v242, v246, (by rw [ha.out]; exact putSel_upk 24 hb_ rfl rfl rfl), Q_BK235, Q_BK236, Q_HB, Q_HO239, Q_HO243, Q_HO247⟩
                exact steps_nil
              rintro b a w35 hall ⟨v238, v242, v246, ha, Q_BK235, Q_BK236, Q_HB, Q_HO239, Q_HO243, Q_HO247⟩
              clear BK235 BK236 HB
              have hb0_ := hall 0 (by kernel_rfl)
              have hb1_ := hall 1 (by kernel_rfl)
              have hb3_ := hall 3 (by kernel_rfl)
              have hb4_ := hall 4 (by kernel_rfl)
              have hb5_ := hall 5 (by kernel_rfl)
              have hb7_ := hall 7 (by kernel_rfl)
              have hb8_ := hall 8 (by kernel_rfl)
              have hb9_ := hall 9 (by kernel_rfl)
              have hb10_ := hall 10 (by kernel_rfl)
              have hb11_ := hall 11 (by kernel_rfl)
              have hb12_ := hall 12 (by kernel_rfl)
              have hb13_ := hall 13 (by kernel_rfl)
              have hb14_ := hall 14 (by kernel_rfl)
              have hb15_ := hall 15 (by kernel_rfl)
              have hb16_ := hall 16 (by kernel_rfl)
              have hb17_ := hall 17 (by kernel_rfl)
              have hb18_ := hall 18 (by kernel_rfl)
              have hb19_ := hall 19 (by kernel_rfl)
              have hb20_ := hall 20 (by kernel_rfl)
              have hb21_ := hall 21 (by kernel_rfl)
              have hb22_ := hall 22 (by kernel_rfl)
              have hb23_ := hall 23 (by kernel_rfl)
              have hb24_ := hall 24 (by kernel_rfl)
              have hb25_ := hall 25 (by kernel_rfl)
              have hb26_ := hall 26 (by kernel_rfl)
              subst ha
              simp only [putSel, hb0_, hb1_, hb3_, hb4_, hb5_, hb7_, hb8_, hb9_, hb10_, hb11_, hb12_, hb13_, hb14_, hb15_, hb16_, hb17_, hb18_, hb19_, hb20_, hb21_, hb22_, hb23_, hb24_, hb25_, hb26_, if_true, Act.put, List.setIfInBounds_toArray, List.set_cons_zero, List.set_cons_succ]
              have BK235 := Aside0.mk Q_BK235
              clear Q_BK235
              have BK236 := Aside0.mk Q_BK236
              clear Q_BK236
              have HB := Aside0.mk Q_HB
              clear Q_HB
              have HO239 := Aside0.mk (Q_HO239 hb1_)
              clear Q_HO239
              have HO243 := Aside0.mk (Q_HO243 hb5_)
              clear Q_HO243
              have HO247 := Aside0.mk (Q_HO247 hb12_)
              clear Q_HO247
              clear hall hb0_ hb1_ hb3_ hb4_ hb5_ hb7_ hb8_ hb9_ hb10_ hb11_ hb12_ hb13_ hb14_ hb15_ hb16_ hb17_ hb18_ hb19_ hb20_ hb21_ hb22_ hb23_ hb24_ hb25_ hb26_
              try go_wp2
              go_ret
              exact ⟨by first | rfl | (simp [errW_none, errW_some] <;> rfl) | (simp [*, errW_none, errW_some] <;> rfl) | (simp [*, q_isEmpty]; done), by repeat (first | (with_reducible first | exact HB.out | apply below_alloc | apply pw_below_drewN | apply below_drew1 | refine below_set ?_ GE235.out | refine below_set ?_ GE236.out) | exact HB.out)⟩
            · replace c15 := Bool.eq_false_iff.mpr c15
              subst c15
              have H1 : ((impl_MatchAny.f (([(([(⟨0, a0, a1⟩ : S30)] : List (S30))), (([(⟨1, a0, a1⟩ : S30)] : List (S30)))] : List (List (S30)))) l2).bind fun t258 => (some t258)) = some r := by rw [if_neg (show ¬ (false = true) by decide)] at H; exact H
              clear H
              have H := H1
              clear H1
              obtain ⟨y249, hy249⟩ : ∃ y_ : List (S30), y_ = (([(⟨0, a0, a1⟩ : S30)] : List (S30))) := ⟨_, rfl⟩
              replace H : ((impl_MatchAny.f (([y249, (([(⟨1, a0, a1⟩ : S30)] : List (S30)))] : List (List (S30)))) l2).bind fun t258 => (some t258)) = some r := by first | (rw [hy249]; with_reducible exact H) | (have H2_ := (Option.bind_some _ _).symm.trans H; rw [hy249]; with_reducible exact H2_) | (have H2_ := (Option.bind_some _ _).symm.trans H; with_reducible exact H2_) | with_reducible exact H | (rw [hy249]; exact H) | exact H
              have Ny249 := Aside0.mk hy249
              clear hy249
              obtain ⟨y252, hy252⟩ : ∃ y_ : List (S30), y_ = (([(⟨1, a0, a1⟩ : S30)] : List (S30))) := ⟨_, rfl⟩
              replace H : ((impl_MatchAny.f (([y249, y252] : List (List (S30)))) l2).bind fun t258 => (some t258)) = some r := by first | (rw [hy252]; with_reducible exact H) | (have H2_ := (Option.bind_some _ _).symm.trans H; rw [hy252]; with_reducible exact H2_) | (have H2_ := (Option.bind_some _ _).symm.trans H; with_reducible exact H2_) | with_reducible exact H | (rw [hy252]; exact H) | exact H
              have Ny252 := Aside0.mk hy252
              clear hy252
              obtain ⟨y255, hy255⟩ : ∃ y_ : List (List (S30)), y_ = (([y249, y252] : List (List (S30)))) := ⟨_, rfl⟩
              replace H : ((impl_MatchAny.f y255 l2).bind fun t258 => (some t258)) = some r := by first | (rw [hy255]; with_reducible exact H) | (have H2_ := (Option.bind_some _ _).symm.trans H; rw [hy255]; with_reducible exact H2_) | (have H2_ := (Option.bind_some _ _).symm.trans H; with_reducible exact H2_) | with_reducible exact H | (rw [hy255]; exact H) | exact H
              have Ny255 := Aside0.mk hy255
              clear hy255
              replace H := Option.bind_eq_some_iff.mp H
              obtain ⟨t258, A360, H⟩ := H
              replace H : (some t258) = some r := H
              have A36 := Aside0.mk A360
              clear A360
              obtain rfl := Option.some.inj H
              try go_wp2_with (first | ((with_reducible refine gate_dst (N := 7) rfl ?_); (try (refine gate_guard (by rfl) ?_; dsimp only)); refine box_event ?hg (N := 7) ?hd (cs := #[.int .i64 0, .string (⟨#[]⟩ : ByteArray), .string (⟨#[]⟩ : ByteArray)]) (t := 30) ?hr ?_; (case hd => rfl); (case hg => first | rfl | exact wanted_on rfl rfl rfl (e34.trans (by first | rfl | (simp [*]; done))) | exact wanted_on rfl rfl rfl (e38.trans (by first | rfl | (simp [*]; done))) | exact wanted_on rfl rfl rfl (e39.trans (by first | rfl | (simp [*]; done))) | exact wanted_on rfl rfl rfl (e40.trans (by first | rfl | (simp [*]; done))) | exact wanted_on rfl rfl rfl (e45.trans (by first | rfl | (simp [*]; done))) | exact wanted_on rfl rfl rfl (e46.trans (by first | rfl | (simp [*]; done))) | exact wanted_on rfl rfl rfl (e47.trans (by first | rfl | (simp [*]; done))) | exact wanted_on rfl rfl rfl (e48.trans (by first | rfl | (simp [*]; done))) | exact wanted_on rfl rfl rfl (e55.trans (by first | rfl | (simp [*]; done))) | exact wanted_on rfl rfl rfl (e56.trans (by first | rfl | (simp [*]; done)))); (case hr => first | (go_simp; done) | (go_simp; rfl)); intro gb235 hg w37 hbox hb; have n0_ := Aside0.mk (below_step (by repeat (first | (with_reducible first | exact HB.out | apply below_alloc | apply pw_below_drewN | apply below_drew1) | exact HB.out)) hb); have n1_ := Aside0.mk (hbox); have n2_ := Aside0.mk ((by rw [hg]; exact (below_size (by repeat (first | (with_reducible first | exact HB.out | apply below_alloc | apply pw_below_drewN | apply below_drew1) | exact HB.out))) : w.heap.size ≤ gb235)); have n3_ := Aside0.mk ((by rw [hg]; exact (below_size (by repeat (first | (with_reducible first | exact HB.out | apply below_alloc | apply pw_below_drewN | apply below_drew1) | exact HB.out))) : w.heap.size ≤ gb235)); clear HB; have HB := n0_; have BK235 := n1_; have GW235 := n2_; have GE235 := n3_; clear n0_ n1_ n2_ n3_; clear hb hbox hg) | ((with_reducible refine gate_dst (N := 8) rfl ?_); (try (refine gate_guard (by rfl) ?_; dsimp only)); refine box_event ?hg (N := 8) ?hd (cs := #[.int .i64 0, .string (⟨#[]⟩ : ByteArray), .string (⟨#[]⟩ : ByteArray)]) (t := 30) ?hr ?_; (case hd => rfl); (case hg => first | rfl | exact wanted_on rfl rfl rfl (e34.trans (by first | rfl | (simp [*]; done))) | exact wanted_on rfl rfl rfl (e38.trans (by first | rfl | (simp [*]; done))) | exact wanted_on rfl rfl rfl (e39.trans (by first | rfl | (simp [*]; done))) | exact wanted_on rfl rfl rfl (e40.trans (by first | rfl | (simp [*]; done))) | exact wanted_on rfl rfl rfl (e45.trans (by first | rfl | (simp [*]; done))) | exact wanted_on rfl rfl rfl (e46.trans (by first | rfl | (simp [*]; done))) | exact wanted_on rfl rfl rfl (e47.trans (by first | rfl | (simp [*]; done))) | exact wanted_on rfl rfl rfl (e48.trans (by first | rfl | (simp [*]; done))) | exact wanted_on rfl rfl rfl (e55.trans (by first | rfl | (simp [*]; done))) | exact wanted_on rfl rfl rfl (e56.trans (by first | rfl | (simp [*]; done)))); (case hr => first | (go_simp; done) | (go_simp; rfl)); intro gb236 hg w38 hbox hb; have n0_ := Aside0.mk (blk_below (g := gb235) (o := .cells #[.int .i64 0, .string (⟨#[]⟩ : ByteArray), .string (⟨#[]⟩ : ByteArray)] 30 (0, 0)) (by (with_reducible repeat (first | refine blk_drewN ?_ _ | refine blk_drew ?_ | refine blk_alloc ?_ _)); exact BK235.out) hb); have n1_ := Aside0.mk (below_step (by repeat (first | (with_reducible first | exact HB.out | apply below_alloc | apply pw_below_drewN | apply below_drew1 | refine below_set ?_ GE235.out) | exact HB.out)) hb); have n2_ := Aside0.mk (hbox); have n3_ := Aside0.mk ((by rw [hg]; exact (below_size (by repeat (first | (with_reducible first | exact HB.out | apply below_alloc | apply pw_below_drewN | apply below_drew1 | refine below_set ?_ GE235.out) | exact HB.out))) : w.heap.size ≤ gb236)); have n4_ := Aside0.mk ((by rw [hg]; exact (below_size (by repeat (first | (with_reducible first | exact HB.out | apply below_alloc | apply pw_below_drewN | apply below_drew1 | refine below_set ?_ GE235.out) | exact HB.out))) : w.heap.size ≤ gb236)); have n5_ := Aside0.mk ((by rw [hg]; exact Nat.ne_of_lt (blk_lt (g := gb235) (o := .cells #[.int .i64 0, .string (⟨#[]⟩ : ByteArray), .string (⟨#[]⟩ : ByteArray)] 30 (0, 0)) (by (with_reducible repeat (first | refine blk_drewN ?_ _ | refine blk_drew ?_ | refine blk_alloc ?_ _)); exact BK235.out)) : gb235 ≠ gb236)); have n6_ := Aside0.mk ((by rw [hg]; exact Nat.ne_of_gt (blk_lt (g := gb235) (o := .cells #[.int .i64 0, .string (⟨#[]⟩ : ByteArray), .string (⟨#[]⟩ : ByteArray)] 30 (0, 0)) (by (with_reducible repeat (first | refine blk_drewN ?_ _ | refine blk_drew ?_ | refine blk_alloc ?_ _)); exact BK235.out)) : gb236 ≠ gb235)); clear BK235; clear HB; have BK235 := n0_; have HB := n1_; have BK236 := n2_; have GW236 := n3_; have GE236 := n4_; have NB235_236 := n5_; have NB236_235 := n6_; clear n0_ n1_ n2_ n3_ n4_ n5_ n6_; clear hb hbox hg; have hnb39 := NB235_236.out; have hnc39 := NB236_235.out; have hcz40_0 : w38.cell? ⟨gb235, 0, none⟩ = some (.int .i64 0) := (blk_cell BK235.out 0).trans rfl; have hcz40_1 : w38.cell? ⟨gb235, 1, none⟩ = some (.string (⟨#[]⟩ : ByteArray)) := (blk_cell BK235.out 1).trans rfl; have hcz40_2 : w38.cell? ⟨gb235, 2, none⟩ = some (.string (⟨#[]⟩ : ByteArray)) := (blk_cell BK235.out 2).trans rfl; have hfz40_0 := blk_frozen BK235.out 0; have hfz40_1 := blk_frozen BK235.out 1; have hfz40_2 := blk_frozen BK235.out 2; have hcz41_0 : w38.cell? ⟨gb236, 0, none⟩ = some (.int .i64 0) := (blk_cell BK236.out 0).trans rfl; have hcz41_1 : w38.cell? ⟨gb236, 1, none⟩ = some (.string (⟨#[]⟩ : ByteArray)) := (blk_cell BK236.out 1).trans rfl; have hcz41_2 : w38.cell? ⟨gb236, 2, none⟩ = some (.string (⟨#[]⟩ : ByteArray)) := (blk_cell BK236.out 2).trans rfl; have hfz41_0 := blk_frozen BK236.out 0; have hfz41_1 := blk_frozen BK236.out 1; have hfz41_2 := blk_frozen BK236.out 2))
              have n0_ : Aside0 (((((((w38.setCell ⟨gb235, 0, none⟩ (.int .i64 0)).setCell ⟨gb235, 1, none⟩ (.string a0)).setCell ⟨gb235, 2, none⟩ (.string a1)).setCell ⟨gb236, 0, none⟩ (.int .i64 1)).setCell ⟨gb236, 1, none⟩ (.string a0)).setCell ⟨gb236, 2, none⟩ (.string a1)).heap[gb235]? = some (.cells #[.int .i64 0, .string a0, .string a1] 30 (0, 0))) := ⟨by (with_reducible repeat (first | refine blk_drewN ?_ _ | refine blk_drew ?_ | refine blk_alloc ?_ _)); refine blk_far ?_ NB235_236.out _; (with_reducible repeat (first | refine blk_drewN ?_ _ | refine blk_drew ?_ | refine blk_alloc ?_ _)); refine blk_far ?_ NB235_236.out _; (with_reducible repeat (first | refine blk_drewN ?_ _ | refine blk_drew ?_ | refine blk_alloc ?_ _)); refine blk_far ?_ NB235_236.out _; (with_reducible repeat (first | refine blk_drewN ?_ _ | refine blk_drew ?_ | refine blk_alloc ?_ _)); refine blk_put (cs := #[.int .i64 0, .string a0, .string (⟨#[]⟩ : ByteArray)]) ?_ 2 _ rfl; (with_reducible repeat (first | refine blk_drewN ?_ _ | refine blk_drew ?_ | refine blk_alloc ?_ _)); refine blk_put (cs := #[.int .i64 0, .string (⟨#[]⟩ : ByteArray), .string (⟨#[]⟩ : ByteArray)]) ?_ 1 _ rfl; (with_reducible repeat (first | refine blk_drewN ?_ _ | refine blk_drew ?_ | refine blk_alloc ?_ _)); refine blk_put (cs := #[.int .i64 0, .string (⟨#[]⟩ : ByteArray), .string (⟨#[]⟩ : ByteArray)]) ?_ 0 _ rfl; (with_reducible repeat (first | refine blk_drewN ?_ _ | refine blk_drew ?_ | refine blk_alloc ?_ _)); exact BK235.out⟩
              have n1_ : Aside0 (((((((w38.setCell ⟨gb235, 0, none⟩ (.int .i64 0)).setCell ⟨gb235, 1, none⟩ (.string a0)).setCell ⟨gb235, 2, none⟩ (.string a1)).setCell ⟨gb236, 0, none⟩ (.int .i64 1)).setCell ⟨gb236, 1, none⟩ (.string a0)).setCell ⟨gb236, 2, none⟩ (.string a1)).heap[gb236]? = some (.cells #[.int .i64 1, .string a0, .string a1] 30 (0, 0))) := ⟨by (with_reducible repeat (first | refine blk_drewN ?_ _ | refine blk_drew ?_ | refine blk_alloc ?_ _)); refine blk_put (cs := #[.int .i64 1, .string a0, .string (⟨#[]⟩ : ByteArray)]) ?_ 2 _ rfl; (with_reducible repeat (first | refine blk_drewN ?_ _ | refine blk_drew ?_ | refine blk_alloc ?_ _)); refine blk_put (cs := #[.int .i64 1, .string (⟨#[]⟩ : ByteArray), .string (⟨#[]⟩ : ByteArray)]) ?_ 1 _ rfl; (with_reducible repeat (first | refine blk_drewN ?_ _ | refine blk_drew ?_ | refine blk_alloc ?_ _)); refine blk_put (cs := #[.int .i64 0, .string (⟨#[]⟩ : ByteArray), .string (⟨#[]⟩ : ByteArray)]) ?_ 0 _ rfl; (with_reducible repeat (first | refine blk_drewN ?_ _ | refine blk_drew ?_ | refine blk_alloc ?_ _)); refine blk_far ?_ NB236_235.out _; (with_reducible repeat (first | refine blk_drewN ?_ _ | refine blk_drew ?_ | refine blk_alloc ?_ _)); refine blk_far ?_ NB236_235.out _; (with_reducible repeat (first | refine blk_drewN ?_ _ | refine blk_drew ?_ | refine blk_alloc ?_ _)); refine blk_far ?_ NB236_235.out _; (with_reducible repeat (first | refine blk_drewN ?_ _ | refine blk_drew ?_ | refine blk_alloc ?_ _)); exact BK236.out⟩
              have n2_ : Aside0 (Below w.heap.size w ((((((w38.setCell ⟨gb235, 0, none⟩ (.int .i64 0)).setCell ⟨gb235, 1, none⟩ (.string a0)).setCell ⟨gb235, 2, none⟩ (.string a1)).setCell ⟨gb236, 0, none⟩ (.int .i64 1)).setCell ⟨gb236, 1, none⟩ (.string a0)).setCell ⟨gb236, 2, none⟩ (.string a1))) := ⟨by repeat (first | (with_reducible first | exact HB.out | apply below_alloc | apply pw_below_drewN | apply below_drew1 | refine below_set ?_ GE235.out | refine below_set ?_ GE236.out) | exact HB.out)⟩
              (try clear BK235)
              (try clear BK236)
              (try clear HB)
              generalize ((((((w38.setCell ⟨gb235, 0, none⟩ (.int .i64 0)).setCell ⟨gb235, 1, none⟩ (.string a0)).setCell ⟨gb235, 2, none⟩ (.string a1)).setCell ⟨gb236, 0, none⟩ (.int .i64 1)).setCell ⟨gb236, 1, none⟩ (.string a0)).setCell ⟨gb236, 2, none⟩ (.string a1)) = w42 at n0_ n1_ n2_ ⊢
              have BK235 := n0_
              have BK236 := n1_
              have HB := n2_
              clear n0_ n1_ n2_
              have n0_ := Aside0.mk (blk_drew BK235.out)
              have n1_ := Aside0.mk (blk_drew BK236.out)
              have n2_ := Aside0.mk (below_drew1 HB.out)
              clear BK235
              clear BK236
              clear HB
              have BK235 := n0_
              have BK236 := n1_
              have HB := n2_
              clear n0_ n1_ n2_
              refine start_ (n := 27) (S := fun w' => True) (ds := []) #[false, false, false, false, false, false, false, false, false, false, false, false, false, false, false, false, false, false, false, false, false, false, false, false, false, false, false] (by kernel_rfl) rfl rfl trivial (fun hHeld => ?_); refine with_tabW laws_FnMatchDuals.tab6 laws_FnMatchDuals.bits6 (fun HT_ HW_ => ?_)
              generalize w42.drew = w43 at BK235 BK236 HB hHeld ⊢
              refine pure_ (i := 2) (N := some 33) (v := ?_) (a' := ?_) #[false, false, true, false, false, false, false, false, false, false, false, false, false, false, false, false, false, false, false, false, false, false, false, false, false, false, false] rfl rfl (any_of HT_.out (by kernel_rfl)) (fun _ _ _ h => h) (Or.inl ⟨by rfl, ?_⟩) ?_ ?_
              rotate_left
              · intro w'
                go_simp
                with_reducible rfl
              rotate_left
              · simp only [Act.put, List.setIfInBounds_toArray, List.set_cons_zero, List.set_cons_succ, i64_w, i32_w]
                rfl
              refine pure_ (i := 6) (N := some 37) (v := ?_) (a' := ?_) #[false, false, true, false, false, false, true, false, false, false, false, false, false, false, false, false, false, false, false, false, false, false, false, false, false, false, false] rfl rfl (any_of HT_.out (by kernel_rfl)) (fun _ _ _ h => h) (Or.inl ⟨by rfl, ?_⟩) ?_ ?_
              rotate_left
              · intro w'
                go_simp
                with_reducible rfl
              rotate_left
              · simp only [Act.put, List.setIfInBounds_toArray, List.set_cons_zero, List.set_cons_succ, i64_w, i32_w]
                rfl
              refine inv_at [0, 1, 3, 4, 5, 7, 8, 9, 10, 11, 12, 13, 14, 15, 16, 17, 18, 19, 20, 21, 22, 23, 24, 25, 26] (fun a0_ b a w' => ∃ (v238 : Value) (v242 : Value) (v246 : Value) (v250 : Value) (v253 : Value) (v256 : Value), a = putSel a0_ b [(0, 31, .agg #[.int .i64 0, .string a0, .string a1]), (1, 32, v238), (3, 34, .bool t240), (4, 35, .agg #[.int .i64 1, .string a0, .string a1]), (5, 36, v242), (7, 38, .bool t244), (8, 39, .bool (t240 != t244)), (9, 40, .bool (t240 != t244)), (10, 41, .agg #[.int .i64 0, .string a0, .string a1]), (11, 42, .agg #[.int .i64 1, .string a0, .string a1]), (12, 43, v246), (13, 44, .slice A2 l2.length c2), (14, 45, .bool false), (15, 46, .bool (!false)), (16, 47, .bool (!false)), (17, 48, .bool (!false)), (18, 49, .agg #[.int .i64 0, .string a0, .string a1]), (19, 50, v250), (20, 51, .agg #[.int .i64 1, .string a0, .string a1]), (21, 52, v253), (22, 53, v256), (23, 54, .slice A2 l2.length c2), (24, 55, .bool t258), (25, 56, .bool t258), (26, 6, .bool t258)] ∧ (w'.heap[gb235]? = some (.cells #[.int .i64 0, .string a0, .string a1] 30 (0, 0))) ∧ (w'.heap[gb236]? = some (.cells #[.int .i64 1, .string a0, .string a1] 30 (0, 0))) ∧ (Below w.heap.size w w') ∧ (b 1 = true → Kd.R k30 30 w' w.heap.size (fun k_ => k_ ≠ gb235 ∧ k_ ≠ gb236) v238 y237) ∧ (b 5 = true → Kd.R k30 30 w' w.heap.size (fun k_ => k_ ≠ gb235 ∧ k_ ≠ gb236) v242 y241) ∧ (b 12 = true → Kd.R k30 30 w' w.heap.size (fun k_ => k_ ≠ gb235 ∧ k_ ≠ gb236) v246 y245) ∧ (b 19 = true → b 22 = false → Kd.R k30 30 w' w.heap.size (fun k_ => k_ ≠ gb235 ∧ k_ ≠ gb236) v250 y249) ∧ (b 21 = true → b 22 = false → Kd.R k30 30 w' w.heap.size (fun k_ => k_ ≠ gb235 ∧ k_ ≠ gb236) v253 y252) ∧ (b 22 = true → Kd.N (Kd.slice 30 k30) 41 w' w.heap.size (fun k_ => k_ ≠ gb235 ∧ k_ ≠ gb236) v256 y255)) HT_.out HW_.out (by kernel_rfl) (by kernel_rfl) ?_ ?_ ?_
              · exact ⟨.bool false, .bool false, .bool false, .bool false, .bool false, .bool false, by simp only [putSel, Bool.false_eq_true, if_false], BK235.out, BK236.out, HB.out, fun h_ => absurd h_ (by decide), fun h_ => absurd h_ (by decide), fun h_ => absurd h_ (by decide), fun h_ => absurd h_ (by decide), fun h_ => absurd h_ (by decide), fun h_ => absurd h_ (by decide)⟩
              · skip
                clear BK235 BK236 HB
                refine steps_cons ?_ ?_
                · rintro b a w' ⟨v238, v242, v246, v250, v253, v256, ha, Q_BK235, Q_BK236, Q_HB, Q_HO239, Q_HO243, Q_HO247, Q_HO251, Q_HO254, Q_HO257⟩ hb_ hon hoff
                  refine ⟨_, rfl, fun K hK => ?_⟩
                  have e7 : a.tmps[7]? = some (.pointer (some ⟨gb235, 0, none⟩)) := by rw [ha]; exact (putSel_off rfl).trans rfl
                  replace ha := Aside0.mk ha
                  have BK235 := Aside0.mk Q_BK235
                  have BK236 := Aside0.mk Q_BK236
                  have HB := Aside0.mk Q_HB
                  have hc0_ : w'.cell? ⟨gb235, 0, none⟩ = some (.int .i64 0) := (blk_cell BK235.out 0).trans rfl
                  have hc1_ : w'.cell? ⟨gb235, 1, none⟩ = some (.string a0) := (blk_cell BK235.out 1).trans rfl
                  have hc2_ : w'.cell? ⟨gb235, 2, none⟩ = some (.string a1) := (blk_cell BK235.out 2).trans rfl
                  refine value_ (w1 := w') (v := .agg #[.int .i64 0, .string a0, .string a1]) (by rfl) rfl ?_ ?_
                  · go_simp
                    (try simp only [i64_w])
                    try rfl
                  refine hK.out _ _ ⟨v238, v242, v246, v250, v253, v256, (by rw [ha.out]; exact putSel_upk 0 hb_ rfl rfl rfl), Q_BK235, Q_BK236, Q_HB, fun h0_ => absurd ((hoff 1 (by kernel_rfl)).symm.trans h0_) (by decide), Q_HO243, fun h0_ => absurd ((hoff 12 (by kernel_rfl)).symm.trans h0_) (by decide), fun h0_ _ => absurd ((hoff 19 (by kernel_rfl)).symm.trans h0_) (by decide), fun h0_ _ => absurd ((hoff 21 (by kernel_rfl)).symm.trans h0_) (by decide), fun h0_ => absurd ((hoff 22 (by kernel_rfl)).symm.trans h0_) (by decide)⟩
                refine steps_cons ?_ ?_
                · rintro b a w' ⟨v238, v242, v246, v250, v253, v256, ha, Q_BK235, Q_BK236, Q_HB, Q_HO239, Q_HO243, Q_HO247, Q_HO251, Q_HO254, Q_HO257⟩ hb_ hon hoff
                  refine ⟨_, rfl, fun K hK => ?_⟩
                  have e31 : a.tmps[31]? = some (.agg #[.int .i64 0, .string a0, .string a1]) := by rw [ha]; exact putSel_on (e := (0, 31, .agg #[.int .i64 0, .string a0, .string a1])) 0 rfl rfl (hon 0 (by kernel_rfl)) rfl
                  replace ha := Aside0.mk ha
                  have BK235 := Aside0.mk Q_BK235
                  have BK236 := Aside0.mk Q_BK236
                  have HB := Aside0.mk Q_HB
                  refine Kd.R_lit_step k30 _ 30 ?hg (N := 32) ?hd (xs := ([(⟨0, a0, a1⟩ : S30)] : List (S30))) (inner := [.int .i64 0, .string a0, .string a1]) (ok := fun _ => True) (okp := fun _ => True) ?hr ?hp (fun _ hk => hk) trivial (Below.refl _ _) (Nat.le_refl _) (by simp) ?_; (case hd => rfl); (case hg => first | rfl | exact wanted_on rfl rfl rfl (e34.trans (by first | rfl | (simp [*]; done))) | exact wanted_on rfl rfl rfl (e38.trans (by first | rfl | (simp [*]; done))) | exact wanted_on rfl rfl rfl (e39.trans (by first | rfl | (simp [*]; done))) | exact wanted_on rfl rfl rfl (e40.trans (by first | rfl | (simp [*]; done))) | exact wanted_on rfl rfl rfl (e45.trans (by first | rfl | (simp [*]; done))) | exact wanted_on rfl rfl rfl (e46.trans (by first | rfl | (simp [*]; done))) | exact wanted_on rfl rfl rfl (e47.trans (by first | rfl | (simp [*]; done))) | exact wanted_on rfl rfl rfl (e48.trans (by first | rfl | (simp [*]; done))) | exact wanted_on rfl rfl rfl (e55.trans (by first | rfl | (simp [*]; done))) | exact wanted_on rfl rfl rfl (e56.trans (by first | rfl | (simp [*]; done)))); (case hr => first | (go_simp; done) | (go_simp; rfl)); (case hp => exact (Reps.c3 (show Kd.M k30 _ _ _ (⟨0, a0, a1⟩ : S30) [.int .i64 0, .string a0, .string a1] from (k30_mkM _ _ _ (⟨0, a0, a1⟩ : S30) )) (Reps.none _ _)))
                  intro v238 w44 ho45 hb hg_ hnew_
                  clear hg_ hnew_
                  (first | rw [← Ny237.out] at ho45 | (simp only [Int.reduceToNat] at ho45; rw [← Ny237.out] at ho45))
                  have n0_ := Aside0.mk (Kd.R_lower (Kd.R_newB (Kd.R_newB ho45 (g := gb235) (o := .cells #[.int .i64 0, .string a0, .string a1] 30 (0, 0)) (by (with_reducible repeat (first | refine blk_drewN ?_ _ | refine blk_drew ?_ | refine blk_alloc ?_ _)); exact BK235.out)) (g := gb236) (o := .cells #[.int .i64 1, .string a0, .string a1] 30 (0, 0)) (by (with_reducible repeat (first | refine blk_drewN ?_ _ | refine blk_drew ?_ | refine blk_alloc ?_ _)); exact BK236.out)) (below_size (by repeat (first | (with_reducible first | exact HB.out | apply below_alloc | apply pw_below_drewN | apply below_drew1 | refine below_set ?_ GE235.out | refine below_set ?_ GE236.out) | exact HB.out))))
                  have n1_ := Aside0.mk (blk_below (g := gb235) (o := .cells #[.int .i64 0, .string a0, .string a1] 30 (0, 0)) (by (with_reducible repeat (first | refine blk_drewN ?_ _ | refine blk_drew ?_ | refine blk_alloc ?_ _)); exact BK235.out) hb)
                  have n2_ := Aside0.mk (blk_below (g := gb236) (o := .cells #[.int .i64 1, .string a0, .string a1] 30 (0, 0)) (by (with_reducible repeat (first | refine blk_drewN ?_ _ | refine blk_drew ?_ | refine blk_alloc ?_ _)); exact BK236.out) hb)
                  have n3_ := Aside0.mk (below_step (by repeat (first | (with_reducible first | exact HB.out | apply below_alloc | apply pw_below_drewN | apply below_drew1 | refine below_set ?_ GE235.out | refine below_set ?_ GE236.out) | exact HB.out)) hb)
                  have z_HO243 := fun (h0_ : b 5 = true) => (show Kd.R k30 30 w44 w.heap.size (fun k_ => k_ ≠ gb235 ∧ k_ ≠ gb236) v242 y241 from by first | exact (Kd.R_elder' (by (with_reducible repeat (first | apply Kd.R_alloc | apply Kd.R_drewN | apply Kd.R_drew)); exact (Q_HO243 h0_)) (Kd.R_base ho45) hb) | exact Kd.R_mono (Kd.R_elder' (by (with_reducible repeat (first | apply Kd.R_alloc | apply Kd.R_drewN | apply Kd.R_drew)); exact (Q_HO243 h0_)) (Kd.R_base ho45) hb) (fun _ h_ => by first | trivial | exact h_ | exact h_.1))
                  clear BK235
                  clear BK236
                  clear HB
                  have HO239 := n0_
                  have BK235 := n1_
                  have BK236 := n2_
                  have HB := n3_
                  clear n0_ n1_ n2_ n3_
                  clear hb ho45
                  refine hK.out _ _ ⟨v238, v242, v246, v250, v253, v256, (by rw [ha.out]; exact putSel_upk 1 hb_ rfl rfl rfl), (by (with_reducible repeat (first | refine blk_drewN ?_ _ | refine blk_drew ?_ | refine blk_alloc ?_ _)); exact BK235.out), (by (with_reducible repeat (first | refine blk_drewN ?_ _ | refine blk_drew ?_ | refine blk_alloc ?_ _)); exact BK236.out), (by repeat (first | (with_reducible first | exact HB.out | apply below_alloc | apply pw_below_drewN | apply below_drew1 | refine below_set ?_ GE235.out | refine below_set ?_ GE236.out) | exact HB.out)), fun _ => (by (with_reducible repeat (first | apply Kd.R_alloc | apply Kd.R_drewN | apply Kd.R_drew)); exact Kd.R_mono HO239.out (fun _ hk => by first | exact ⟨hk.1.2, hk.2⟩ | (simp [hk]; done))), z_HO243, fun h0_ => absurd ((hoff 12 (by kernel_rfl)).symm.trans h0_) (by decide), fun h0_ _ => absurd ((hoff 19 (by kernel_rfl)).symm.trans h0_) (by decide), fun h0_ _ => absurd ((hoff 21 (by kernel_rfl)).symm.trans h0_) (by decide), fun h0_ => absurd ((hoff 22 (by kernel_rfl)).symm.trans h0_) (by decide)⟩
                refine steps_cons ?_ ?_
                · rintro b a w' ⟨v238, v242, v246, v250, v253, v256, ha, Q_BK235, Q_BK236, Q_HB, Q_HO239, Q_HO243, Q_HO247, Q_HO251, Q_HO254, Q_HO257⟩ hb_ hon hoff
                  refine ⟨_, rfl, fun K hK => ?_⟩
                  have e32 : a.tmps[32]? = some (v238) := by rw [ha]; exact putSel_on (e := (1, 32, v238)) 1 rfl rfl (hon 1 (by kernel_rfl)) rfl
                  have e33 : a.tmps[33]? = some (.slice A2 l2.length c2) := by rw [ha]; exact (putSel_off rfl).trans rfl
                  replace ha := Aside0.mk ha
                  have BK235 := Aside0.mk Q_BK235
                  have BK236 := Aside0.mk Q_BK236
                  have HB := Aside0.mk Q_HB
                  have HO239 := Aside0.mk (Q_HO239 (hon 1 (by kernel_rfl)))
                  obtain ⟨Ao47, co47, eo47⟩ := Kd.R_slice HO239.out
                  (first | subst eo47 | (injection eo47 with f1_ f2_ f3_; have f4_ := f1_.symm; have f5_ := f3_.symm; clear f1_ f2_ f3_; subst f4_; subst f5_))
                  refine goes_ Try.func38 (by kernel_rfl) rfl #[.slice Ao47 y237.length co47, .slice A2 l2.length c2] (by first | rfl | exact wanted_on rfl rfl rfl (e34.trans (by first | rfl | (simp [*]; done))) | exact wanted_on rfl rfl rfl (e38.trans (by first | rfl | (simp [*]; done))) | exact wanted_on rfl rfl rfl (e39.trans (by first | rfl | (simp [*]; done))) | exact wanted_on rfl rfl rfl (e40.trans (by first | rfl | (simp [*]; done))) | exact wanted_on rfl rfl rfl (e45.trans (by first | rfl | (simp [*]; done))) | exact wanted_on rfl rfl rfl (e46.trans (by first | rfl | (simp [*]; done))) | exact wanted_on rfl rfl rfl (e47.trans (by first | rfl | (simp [*]; done))) | exact wanted_on rfl rfl rfl (e48.trans (by first | rfl | (simp [*]; done))) | exact wanted_on rfl rfl rfl (e55.trans (by first | rfl | (simp [*]; done))) | exact wanted_on rfl rfl rfl (e56.trans (by first | rfl | (simp [*]; done)))) rfl rfl (by first | (simp only [List.map_toArray, List.map_cons, List.map_nil, Act.eval, Array.getD_eq_getD_getElem?, Option.getD_some, e32, e33]; done) | (simp only [List.map_toArray, List.map_cons, List.map_nil, Act.eval, Array.getD_eq_getD_getElem?, Option.getD_some, e32, e33]; rfl)) ?_
                  with_reducible refine (impl_MatchAll.calls _ _ y237 _ _ l2 t240 _ ?side1 ?side2 ?side3 ?side4 A11.out).mono ?_
                  (case side1 => repeat (first | exact (Kd.R_reads' HO239.out).2.2 | (with_reducible refine Kd.C_alloc ?_ _) | (with_reducible refine Kd.C_drewN ?_ _) | (with_reducible refine Kd.C_drew ?_)))
                  (case side2 => exact (Kd.R_reads' HO239.out).2.1)
                  (case side3 => repeat (first | exact (Kd.C_below HR2.out HB.out) | (with_reducible refine Kd.C_alloc ?_ _) | (with_reducible refine Kd.C_drewN ?_ _) | (with_reducible refine Kd.C_drew ?_)))
                  (case side4 => exact HC2.out)
                  rintro e w48 ⟨rfl, hb⟩
                  refine ⟨_, rfl, ?_⟩
                  have n0_ := Aside0.mk (Kd.R_below (by (with_reducible repeat (first | apply Kd.R_alloc | apply Kd.R_drewN | apply Kd.R_drew)); exact HO239.out) hb)
                  have n1_ := Aside0.mk (blk_below (g := gb235) (o := .cells #[.int .i64 0, .string a0, .string a1] 30 (0, 0)) (by (with_reducible repeat (first | refine blk_drewN ?_ _ | refine blk_drew ?_ | refine blk_alloc ?_ _)); exact BK235.out) hb)
                  have n2_ := Aside0.mk (blk_below (g := gb236) (o := .cells #[.int .i64 1, .string a0, .string a1] 30 (0, 0)) (by (with_reducible repeat (first | refine blk_drewN ?_ _ | refine blk_drew ?_ | refine blk_alloc ?_ _)); exact BK236.out) hb)
                  have n3_ := Aside0.mk (below_step (by repeat (first | (with_reducible first | exact HB.out | apply below_alloc | apply pw_below_drewN | apply below_drew1 | refine below_set ?_ GE235.out | refine below_set ?_ GE236.out) | exact HB.out)) hb)
                  have z_HO243 := fun (h0_ : b 5 = true) => (show Kd.R k30 30 w48 w.heap.size (fun k_ => k_ ≠ gb235 ∧ k_ ≠ gb236) v242 y241 from by first | exact (Kd.R_below (by (with_reducible repeat (first | apply Kd.R_alloc | apply Kd.R_drewN | apply Kd.R_drew)); exact (Q_HO243 h0_)) hb) | exact Kd.R_mono (Kd.R_below (by (with_reducible repeat (first | apply Kd.R_alloc | apply Kd.R_drewN | apply Kd.R_drew)); exact (Q_HO243 h0_)) hb) (fun _ h_ => by first | trivial | exact h_ | exact h_.1))
                  clear HO239
                  clear BK235
                  clear BK236
                  clear HB
                  have HO239 := n0_
                  have BK235 := n1_
                  have BK236 := n2_
                  have HB := n3_
                  clear n0_ n1_ n2_ n3_
                  (try clear hb)
                  (try clear hb2)
                  (try clear hk)
                  (try clear hi)
                  refine hK.out _ _ ⟨.slice Ao47 y237.length co47, v242, v246, v250, v253, v256, (by rw [ha.out]; exact putSel_upk 2 hb_ rfl rfl rfl), (by (with_reducible repeat (first | refine blk_drewN ?_ _ | refine blk_drew ?_ | refine blk_alloc ?_ _)); exact BK235.out), (by (with_reducible repeat (first | refine blk_drewN ?_ _ | refine blk_drew ?_ | refine blk_alloc ?_ _)); exact BK236.out), (by repeat (first | (with_reducible first | exact HB.out | apply below_alloc | apply pw_below_drewN | apply below_drew1 | refine below_set ?_ GE235.out | refine below_set ?_ GE236.out) | exact HB.out)), fun _ => (by (with_reducible repeat (first | apply Kd.R_alloc | apply Kd.R_drewN | apply Kd.R_drew)); exact HO239.out), z_HO243, fun h0_ => absurd ((hoff 12 (by kernel_rfl)).symm.trans h0_) (by decide), fun h0_ _ => absurd ((hoff 19 (by kernel_rfl)).symm.trans h0_) (by decide), fun h0_ _ => absurd ((hoff 21 (by kernel_rfl)).symm.trans h0_) (by decide), fun h0_ => absurd ((hoff 22 (by kernel_rfl)).symm.trans h0_) (by decide)⟩
                refine steps_cons ?_ ?_
                · rintro b a w' ⟨v238, v242, v246, v250, v253, v256, ha, Q_BK235, Q_BK236, Q_HB, Q_HO239, Q_HO243, Q_HO247, Q_HO251, Q_HO254, Q_HO257⟩ hb_ hon hoff
                  refine ⟨_, rfl, fun K hK => ?_⟩
                  have e8 : a.tmps[8]? = some (.pointer (some ⟨gb236, 0, none⟩)) := by rw [ha]; exact (putSel_off rfl).trans rfl
                  replace ha := Aside0.mk ha
                  have BK235 := Aside0.mk Q_BK235
                  have BK236 := Aside0.mk Q_BK236
                  have HB := Aside0.mk Q_HB
                  have hc0_ : w'.cell? ⟨gb236, 0, none⟩ = some (.int .i64 1) := (blk_cell BK236.out 0).trans rfl
                  have hc1_ : w'.cell? ⟨gb236, 1, none⟩ = some (.string a0) := (blk_cell BK236.out 1).trans rfl
                  have hc2_ : w'.cell? ⟨gb236, 2, none⟩ = some (.string a1) := (blk_cell BK236.out 2).trans rfl
                  refine value_ (w1 := w') (v := .agg #[.int .i64 1, .string a0, .string a1]) (by rfl) rfl ?_ ?_
                  · go_simp
                    (try simp only [i64_w])
                    try rfl
                  refine hK.out _ _ ⟨v238, v242, v246, v250, v253, v256, (by rw [ha.out]; exact putSel_upk 3 hb_ rfl rfl rfl), Q_BK235, Q_BK236, Q_HB, Q_HO239, fun h0_ => absurd ((hoff 5 (by kernel_rfl)).symm.trans h0_) (by decide), fun h0_ => absurd ((hoff 12 (by kernel_rfl)).symm.trans h0_) (by decide), fun h0_ _ => absurd ((hoff 19 (by kernel_rfl)).symm.trans h0_) (by decide), fun h0_ _ => absurd ((hoff 21 (by kernel_rfl)).symm.trans h0_) (by decide), fun h0_ => absurd ((hoff 22 (by kernel_rfl)).symm.trans h0_) (by decide)⟩
                refine steps_cons ?_ ?_
                · rintro b a w' ⟨v238, v242, v246, v250, v253, v256, ha, Q_BK235, Q_BK236, Q_HB, Q_HO239, Q_HO243, Q_HO247, Q_HO251, Q_HO254, Q_HO257⟩ hb_ hon hoff
                  refine ⟨_, rfl, fun K hK => ?_⟩
                  have e35 : a.tmps[35]? = some (.agg #[.int .i64 1, .string a0, .string a1]) := by rw [ha]; exact putSel_on (e := (4, 35, .agg #[.int .i64 1, .string a0, .string a1])) 3 rfl rfl (hon 4 (by kernel_rfl)) rfl
                  replace ha := Aside0.mk ha
                  have BK235 := Aside0.mk Q_BK235
                  have BK236 := Aside0.mk Q_BK236
                  have HB := Aside0.mk Q_HB
                  refine Kd.R_lit_step k30 _ 30 ?hg (N := 36) ?hd (xs := ([(⟨1, a0, a1⟩ : S30)] : List (S30))) (inner := [.int .i64 1, .string a0, .string a1]) (ok := fun _ => True) (okp := fun _ => True) ?hr ?hp (fun _ hk => hk) trivial (Below.refl _ _) (Nat.le_refl _) (by simp) ?_; (case hd => rfl); (case hg => first | rfl | exact wanted_on rfl rfl rfl (e34.trans (by first | rfl | (simp [*]; done))) | exact wanted_on rfl rfl rfl (e38.trans (by first | rfl | (simp [*]; done))) | exact wanted_on rfl rfl rfl (e39.trans (by first | rfl | (simp [*]; done))) | exact wanted_on rfl rfl rfl (e40.trans (by first | rfl | (simp [*]; done))) | exact wanted_on rfl rfl rfl (e45.trans (by first | rfl | (simp [*]; done))) | exact wanted_on rfl rfl rfl (e46.trans (by first | rfl | (simp [*]; done))) | exact wanted_on rfl rfl rfl (e47.trans (by first | rfl | (simp [*]; done))) | exact wanted_on rfl rfl rfl (e48.trans (by first | rfl | (simp [*]; done))) | exact wanted_on rfl rfl rfl (e55.trans (by first | rfl | (simp [*]; done))) | exact wanted_on rfl rfl rfl (e56.trans (by first | rfl | (simp [*]; done)))); (case hr => first | (go_simp; done) | (go_simp; rfl)); (case hp => exact (Reps.c3 (show Kd.M k30 _ _ _ (⟨1, a0, a1⟩ : S30) [.int .i64 1, .string a0, .string a1] from (k30_mkM _ _ _ (⟨1, a0, a1⟩ : S30) )) (Reps.none _ _)))
                  intro v242 w44 ho45 hb hg_ hnew_
                  clear hg_ hnew_
                  (first | rw [← Ny241.out] at ho45 | (simp only [Int.reduceToNat] at ho45; rw [← Ny241.out] at ho45))
                  have n0_ := Aside0.mk (Kd.R_lower (Kd.R_newB (Kd.R_newB ho45 (g := gb235) (o := .cells #[.int .i64 0, .string a0, .string a1] 30 (0, 0)) (by (with_reducible repeat (first | refine blk_drewN ?_ _ | refine blk_drew ?_ | refine blk_alloc ?_ _)); exact BK235.out)) (g := gb236) (o := .cells #[.int .i64 1, .string a0, .string a1] 30 (0, 0)) (by (with_reducible repeat (first | refine blk_drewN ?_ _ | refine blk_drew ?_ | refine blk_alloc ?_ _)); exact BK236.out)) (below_size (by repeat (first | (with_reducible first | exact HB.out | apply below_alloc | apply pw_below_drewN | apply below_drew1 | refine below_set ?_ GE235.out | refine below_set ?_ GE236.out) | exact HB.out))))
                  have n1_ := Aside0.mk (blk_below (g := gb235) (o := .cells #[.int .i64 0, .string a0, .string a1] 30 (0, 0)) (by (with_reducible repeat (first | refine blk_drewN ?_ _ | refine blk_drew ?_ | refine blk_alloc ?_ _)); exact BK235.out) hb)
                  have n2_ := Aside0.mk (blk_below (g := gb236) (o := .cells #[.int .i64 1, .string a0, .string a1] 30 (0, 0)) (by (with_reducible repeat (first | refine blk_drewN ?_ _ | refine blk_drew ?_ | refine blk_alloc ?_ _)); exact BK236.out) hb)
                  have n3_ := Aside0.mk (below_step (by repeat (first | (with_reducible first | exact HB.out | apply below_alloc | apply pw_below_drewN | apply below_drew1 | refine below_set ?_ GE235.out | refine below_set ?_ GE236.out) | exact HB.out)) hb)
                  have z_HO239 := fun (h0_ : b 1 = true) => (show Kd.R k30 30 w44 w.heap.size (fun k_ => k_ ≠ gb235 ∧ k_ ≠ gb236) v238 y237 from by first | exact (Kd.R_elder' (by (with_reducible repeat (first | apply Kd.R_alloc | apply Kd.R_drewN | apply Kd.R_drew)); exact (Q_HO239 h0_)) (Kd.R_base ho45) hb) | exact Kd.R_mono (Kd.R_elder' (by (with_reducible repeat (first | apply Kd.R_alloc | apply Kd.R_drewN | apply Kd.R_drew)); exact (Q_HO239 h0_)) (Kd.R_base ho45) hb) (fun _ h_ => by first | trivial | exact h_ | exact h_.1))
                  clear BK235
                  clear BK236
                  clear HB
                  have HO243 := n0_
                  have BK235 := n1_
                  have BK236 := n2_
                  have HB := n3_
                  clear n0_ n1_ n2_ n3_
                  clear hb ho45
                  refine hK.out _ _ ⟨v238, v242, v246, v250, v253, v256, (by rw [ha.out]; exact putSel_upk 4 hb_ rfl rfl rfl), (by (with_reducible repeat (first | refine blk_drewN ?_ _ | refine blk_drew ?_ | refine blk_alloc ?_ _)); exact BK235.out), (by (with_reducible repeat (first | refine blk_drewN ?_ _ | refine blk_drew ?_ | refine blk_alloc ?_ _)); exact BK236.out), (by repeat (first | (with_reducible first | exact HB.out | apply below_alloc | apply pw_below_drewN | apply below_drew1 | refine below_set ?_ GE235.out | refine below_set ?_ GE236.out) | exact HB.out)), z_HO239, fun _ => (by (with_reducible repeat (first | apply Kd.R_alloc | apply Kd.R_drewN | apply Kd.R_drew)); exact Kd.R_mono HO243.out (fun _ hk => by first | exact ⟨hk.1.2, hk.2⟩ | (simp [hk]; done))), fun h0_ => absurd ((hoff 12 (by kernel_rfl)).symm.trans h0_) (by decide), fun h0_ _ => absurd ((hoff 19 (by kernel_rfl)).symm.trans h0_) (by decide), fun h0_ _ => absurd ((hoff 21 (by kernel_rfl)).symm.trans h0_) (by decide), fun h0_ => absurd ((hoff 22 (by kernel_rfl)).symm.trans h0_) (by decide)⟩
                refine steps_cons ?_ ?_
                · rintro b a w' ⟨v238, v242, v246, v250, v253, v256, ha, Q_BK235, Q_BK236, Q_HB, Q_HO239, Q_HO243, Q_HO247, Q_HO251, Q_HO254, Q_HO257⟩ hb_ hon hoff
                  refine ⟨_, rfl, fun K hK => ?_⟩
                  have e36 : a.tmps[36]? = some (v242) := by rw [ha]; exact putSel_on (e := (5, 36, v242)) 4 rfl rfl (hon 5 (by kernel_rfl)) rfl
                  have e37 : a.tmps[37]? = some (.slice A2 l2.length c2) := by rw [ha]; exact (putSel_off rfl).trans rfl
                  replace ha := Aside0.mk ha
                  have BK235 := Aside0.mk Q_BK235
                  have BK236 := Aside0.mk Q_BK236
                  have HB := Aside0.mk Q_HB
                  have HO239 := Aside0.mk (Q_HO239 (hon 1 (by kernel_rfl)))
                  have HO243 := Aside0.mk (Q_HO243 (hon 5 (by kernel_rfl)))
                  obtain ⟨Ao51, co51, eo51⟩ := Kd.R_slice HO243.out
                  (first | subst eo51 | (injection eo51 with f1_ f2_ f3_; have f4_ := f1_.symm; have f5_ := f3_.symm; clear f1_ f2_ f3_; subst f4_; subst f5_))
                  refine goes_ Try.func38 (by kernel_rfl) rfl #[.slice Ao51 y241.length co51, .slice A2 l2.length c2] (by first | rfl | exact wanted_on rfl rfl rfl (e34.trans (by first | rfl | (simp [*]; done))) | exact wanted_on rfl rfl rfl (e38.trans (by first | rfl | (simp [*]; done))) | exact wanted_on rfl rfl rfl (e39.trans (by first | rfl | (simp [*]; done))) | exact wanted_on rfl rfl rfl (e40.trans (by first | rfl | (simp [*]; done))) | exact wanted_on rfl rfl rfl (e45.trans (by first | rfl | (simp [*]; done))) | exact wanted_on rfl rfl rfl (e46.trans (by first | rfl | (simp [*]; done))) | exact wanted_on rfl rfl rfl (e47.trans (by first | rfl | (simp [*]; done))) | exact wanted_on rfl rfl rfl (e48.trans (by first | rfl | (simp [*]; done))) | exact wanted_on rfl rfl rfl (e55.trans (by first | rfl | (simp [*]; done))) | exact wanted_on rfl rfl rfl (e56.trans (by first | rfl | (simp [*]; done)))) rfl rfl (by first | (simp only [List.map_toArray, List.map_cons, List.map_nil, Act.eval, Array.getD_eq_getD_getElem?, Option.getD_some, e36, e37]; done) | (simp only [List.map_toArray, List.map_cons, List.map_nil, Act.eval, Array.getD_eq_getD_getElem?, Option.getD_some, e36, e37]; rfl)) ?_
                  with_reducible refine (impl_MatchAll.calls _ _ y241 _ _ l2 t244 _ ?side1 ?side2 ?side3 ?side4 A12.out).mono ?_
                  (case side1 => repeat (first | exact (Kd.R_reads' HO243.out).2.2 | (with_reducible refine Kd.C_alloc ?_ _) | (with_reducible refine Kd.C_drewN ?_ _) | (with_reducible refine Kd.C_drew ?_)))
                  (case side2 => exact (Kd.R_reads' HO243.out).2.1)
                  (case side3 => repeat (first | exact (Kd.C_below HR2.out HB.out) | (with_reducible refine Kd.C_alloc ?_ _) | (with_reducible refine Kd.C_drewN ?_ _) | (with_reducible refine Kd.C_drew ?_)))
                  (case side4 => exact HC2.out)
                  rintro e w52 ⟨rfl, hb⟩
                  refine ⟨_, rfl, ?_⟩
                  have n0_ := Aside0.mk (Kd.R_below (by (with_reducible repeat (first | apply Kd.R_alloc | apply Kd.R_drewN | apply Kd.R_drew)); exact HO239.out) hb)
                  have n1_ := Aside0.mk (Kd.R_below (by (with_reducible repeat (first | apply Kd.R_alloc | apply Kd.R_drewN | apply Kd.R_drew)); exact HO243.out) hb)
                  have n2_ := Aside0.mk (blk_below (g := gb235) (o := .cells #[.int .i64 0, .string a0, .string a1] 30 (0, 0)) (by (with_reducible repeat (first | refine blk_drewN ?_ _ | refine blk_drew ?_ | refine blk_alloc ?_ _)); exact BK235.out) hb)
                  have n3_ := Aside0.mk (blk_below (g := gb236) (o := .cells #[.int .i64 1, .string a0, .string a1] 30 (0, 0)) (by (with_reducible repeat (first | refine blk_drewN ?_ _ | refine blk_drew ?_ | refine blk_alloc ?_ _)); exact BK236.out) hb)
                  have n4_ := Aside0.mk (below_step (by repeat (first | (with_reducible first | exact HB.out | apply below_alloc | apply pw_below_drewN | apply below_drew1 | refine below_set ?_ GE235.out | refine below_set ?_ GE236.out) | exact HB.out)) hb)
                  clear HO239
                  clear HO243
                  clear BK235
                  clear BK236
                  clear HB
                  have HO239 := n0_
                  have HO243 := n1_
                  have BK235 := n2_
                  have BK236 := n3_
                  have HB := n4_
                  clear n0_ n1_ n2_ n3_ n4_
                  (try clear hb)
                  (try clear hb2)
                  (try clear hk)
                  (try clear hi)
                  refine hK.out _ _ ⟨v238, .slice Ao51 y241.length co51, v246, v250, v253, v256, (by rw [ha.out]; exact putSel_upk 5 hb_ rfl rfl rfl), (by (with_reducible repeat (first | refine blk_drewN ?_ _ | refine blk_drew ?_ | refine blk_alloc ?_ _)); exact BK235.out), (by (with_reducible repeat (first | refine blk_drewN ?_ _ | refine blk_drew ?_ | refine blk_alloc ?_ _)); exact BK236.out), (by repeat (first | (with_reducible first | exact HB.out | apply below_alloc | apply pw_below_drewN | apply below_drew1 | refine below_set ?_ GE235.out | refine below_set ?_ GE236.out) | exact HB.out)), fun _ => (by (with_reducible repeat (first | apply Kd.R_alloc | apply Kd.R_drewN | apply Kd.R_drew)); exact HO239.out), fun _ => (by (with_reducible repeat (first | apply Kd.R_alloc | apply Kd.R_drewN | apply Kd.R_drew)); exact HO243.out), fun h0_ => absurd ((hoff 12 (by kernel_rfl)).symm.trans h0_) (by decide), fun h0_ _ => absurd ((hoff 19 (by kernel_rfl)).symm.trans h0_) (by decide), fun h0_ _ => absurd ((hoff 21 (by kernel_rfl)).symm.trans h0_) (by decide), fun h0_ => absurd ((hoff 22 (by kernel_rfl)).symm.trans h0_) (by decide)⟩
                refine steps_cons ?_ ?_
                · rintro b a w' ⟨v238, v242, v246, v250, v253, v256, ha, Q_BK235, Q_BK236, Q_HB, Q_HO239, Q_HO243, Q_HO247, Q_HO251, Q_HO254, Q_HO257⟩ hb_ hon hoff
                  refine ⟨_, rfl, fun K hK => ?_⟩
                  have e34 : a.tmps[34]? = some (.bool t240) := by rw [ha]; exact putSel_on (e := (3, 34, .bool t240)) 2 rfl rfl (hon 3 (by kernel_rfl)) rfl
                  have e38 : a.tmps[38]? = some (.bool t244) := by rw [ha]; exact putSel_on (e := (7, 38, .bool t244)) 5 rfl rfl (hon 7 (by kernel_rfl)) rfl
                  replace ha := Aside0.mk ha
                  have BK235 := Aside0.mk Q_BK235
                  have BK236 := Aside0.mk Q_BK236
                  have HB := Aside0.mk Q_HB
                  have HO239 := Aside0.mk (Q_HO239 (hon 1 (by kernel_rfl)))
                  have HO243 := Aside0.mk (Q_HO243 (hon 5 (by kernel_rfl)))
                  refine value_ (w1 := w') (v := .bool (t240 != t244)) (by rfl) rfl ?_ ?_
                  · go_simp
                    (try simp only [i64_w])
                    try rfl
                  refine hK.out _ _ ⟨v238, v242, v246, v250, v253, v256, (by rw [ha.out]; exact putSel_upk 6 hb_ rfl rfl rfl), Q_BK235, Q_BK236, Q_HB, Q_HO239, Q_HO243, fun h0_ => absurd ((hoff 12 (by kernel_rfl)).symm.trans h0_) (by decide), fun h0_ _ => absurd ((hoff 19 (by kernel_rfl)).symm.trans h0_) (by decide), fun h0_ _ => absurd ((hoff 21 (by kernel_rfl)).symm.trans h0_) (by decide), fun h0_ => absurd ((hoff 22 (by kernel_rfl)).symm.trans h0_) (by decide)⟩
                refine steps_cons ?_ ?_
                · rintro b a w' ⟨v238, v242, v246, v250, v253, v256, ha, Q_BK235, Q_BK236, Q_HB, Q_HO239, Q_HO243, Q_HO247, Q_HO251, Q_HO254, Q_HO257⟩ hb_ hon hoff
                  refine ⟨_, rfl, fun K hK => ?_⟩
                  have e39 : a.tmps[39]? = some (.bool (t240 != t244)) := by rw [ha]; exact putSel_on (e := (8, 39, .bool (t240 != t244))) 6 rfl rfl (hon 8 (by kernel_rfl)) rfl
                  replace ha := Aside0.mk ha
                  have BK235 := Aside0.mk Q_BK235
                  have BK236 := Aside0.mk Q_BK236
                  have HB := Aside0.mk Q_HB
                  have HO239 := Aside0.mk (Q_HO239 (hon 1 (by kernel_rfl)))
                  have HO243 := Aside0.mk (Q_HO243 (hon 5 (by kernel_rfl)))
                  refine value_ (w1 := w') (v := .bool (t240 != t244)) (by rfl) rfl ?_ ?_
                  · go_simp
                    (try simp only [i64_w])
                    try rfl
                  refine hK.out _ _ ⟨v238, v242, v246, v250, v253, v256, (by rw [ha.out]; exact putSel_upk 7 hb_ rfl rfl rfl), Q_BK235, Q_BK236, Q_HB, Q_HO239, Q_HO243, fun h0_ => absurd ((hoff 12 (by kernel_rfl)).symm.trans h0_) (by decide), fun h0_ _ => absurd ((hoff 19 (by kernel_rfl)).symm.trans h0_) (by decide), fun h0_ _ => absurd ((hoff 21 (by kernel_rfl)).symm.trans h0_) (by decide), fun h0_ => absurd ((hoff 22 (by kernel_rfl)).symm.trans h0_) (by decide)⟩
                refine steps_cons ?_ ?_
                · rintro b a w' ⟨v238, v242, v246, v250, v253, v256, ha, Q_BK235, Q_BK236, Q_HB, Q_HO239, Q_HO243, Q_HO247, Q_HO251, Q_HO254, Q_HO257⟩ hb_ hon hoff
                  refine ⟨_, rfl, fun K hK => ?_⟩
                  have e7 : a.tmps[7]? = some (.pointer (some ⟨gb235, 0, none⟩)) := by rw [ha]; exact (putSel_off rfl).trans rfl
                  have e40 : a.tmps[40]? = some (.bool (t240 != t244)) := by rw [ha]; exact putSel_on (e := (9, 40, .bool (t240 != t244))) 7 rfl rfl (hon 9 (by kernel_rfl)) rfl
                  replace ha := Aside0.mk ha
                  have BK235 := Aside0.mk Q_BK235
                  have BK236 := Aside0.mk Q_BK236
                  have HB := Aside0.mk Q_HB
                  have HO239 := Aside0.mk (Q_HO239 (hon 1 (by kernel_rfl)))
                  have HO243 := Aside0.mk (Q_HO243 (hon 5 (by kernel_rfl)))
                  have hc0_ : w'.cell? ⟨gb235, 0, none⟩ = some (.int .i64 0) := (blk_cell BK235.out 0).trans rfl
                  have hc1_ : w'.cell? ⟨gb235, 1, none⟩ = some (.string a0) := (blk_cell BK235.out 1).trans rfl
                  have hc2_ : w'.cell? ⟨gb235, 2, none⟩ = some (.string a1) := (blk_cell BK235.out 2).trans rfl
                  refine value_ (w1 := w') (v := .agg #[.int .i64 0, .string a0, .string a1]) (wanted_on rfl rfl rfl (e40.trans (by first | rfl | (simp [*]; done) | (simp [*, q_isEmpty]; done)))) rfl ?_ ?_
                  · go_simp
                    (try simp only [i64_w])
                    try rfl
                  refine hK.out _ _ ⟨v238, v242, v246, v250, v253, v256, (by rw [ha.out]; exact putSel_upk 8 hb_ rfl rfl rfl), Q_BK235, Q_BK236, Q_HB, Q_HO239, Q_HO243, fun h0_ => absurd ((hoff 12 (by kernel_rfl)).symm.trans h0_) (by decide), fun h0_ _ => absurd ((hoff 19 (by kernel_rfl)).symm.trans h0_) (by decide), fun h0_ _ => absurd ((hoff 21 (by kernel_rfl)).symm.trans h0_) (by decide), fun h0_ => absurd ((hoff 22 (by kernel_rfl)).symm.trans h0_) (by decide)⟩
                refine steps_cons ?_ ?_
                · rintro b a w' ⟨v238, v242, v246, v250, v253, v256, ha, Q_BK235, Q_BK236, Q_HB, Q_HO239, Q_HO243, Q_HO247, Q_HO251, Q_HO254, Q_HO257⟩ hb_ hon hoff
                  refine ⟨_, rfl, fun K hK => ?_⟩
                  have e8 : a.tmps[8]? = some (.pointer (some ⟨gb236, 0, none⟩)) := by rw [ha]; exact (putSel_off rfl).trans rfl
                  have e40 : a.tmps[40]? = some (.bool (t240 != t244)) := by rw [ha]; exact putSel_on (e := (9, 40, .bool (t240 != t244))) 7 rfl rfl (hon 9 (by kernel_rfl)) rfl
                  replace ha := Aside0.mk ha
                  have BK235 := Aside0.mk Q_BK235
                  have BK236 := Aside0.mk Q_BK236
                  have HB := Aside0.mk Q_HB
                  have HO239 := Aside0.mk (Q_HO239 (hon 1 (by kernel_rfl)))
                  have HO243 := Aside0.mk (Q_HO243 (hon 5 (by kernel_rfl)))
                  have hc0_ : w'.cell? ⟨gb236, 0, none⟩ = some (.int .i64 1) := (blk_cell BK236.out 0).trans rfl
                  have hc1_ : w'.cell? ⟨gb236, 1, none⟩ = some (.string a0) := (blk_cell BK236.out 1).trans rfl
                  have hc2_ : w'.cell? ⟨gb236, 2, none⟩ = some (.string a1) := (blk_cell BK236.out 2).trans rfl
                  refine value_ (w1 := w') (v := .agg #[.int .i64 1, .string a0, .string a1]) (wanted_on rfl rfl rfl (e40.trans (by first | rfl | (simp [*]; done) | (simp [*, q_isEmpty]; done)))) rfl ?_ ?_
                  · go_simp
                    (try simp only [i64_w])
                    try rfl
                  refine hK.out _ _ ⟨v238, v242, v246, v250, v253, v256, (by rw [ha.out]; exact putSel_upk 9 hb_ rfl rfl rfl), Q_BK235, Q_BK236, Q_HB, Q_HO239, Q_HO243, fun h0_ => absurd ((hoff 12 (by kernel_rfl)).symm.trans h0_) (by decide), fun h0_ _ => absurd ((hoff 19 (by kernel_rfl)).symm.trans h0_) (by decide), fun h0_ _ => absurd ((hoff 21 (by kernel_rfl)).symm.trans h0_) (by decide), fun h0_ => absurd ((hoff 22 (by kernel_rfl)).symm.trans h0_) (by decide)⟩
                refine steps_cons ?_ ?_
                · rintro b a w' ⟨v238, v242, v246, v250, v253, v256, ha, Q_BK235, Q_BK236, Q_HB, Q_HO239, Q_HO243, Q_HO247, Q_HO251, Q_HO254, Q_HO257⟩ hb_ hon hoff
                  refine ⟨_, rfl, fun K hK => ?_⟩
                  have e41 : a.tmps[41]? = some (.agg #[.int .i64 0, .string a0, .string a1]) := by rw [ha]; exact putSel_on (e := (10, 41, .agg #[.int .i64 0, .string a0, .string a1])) 8 rfl rfl (hon 10 (by kernel_rfl)) rfl
                  have e42 : a.tmps[42]? = some (.agg #[.int .i64 1, .string a0, .string a1]) := by rw [ha]; exact putSel_on (e := (11, 42, .agg #[.int .i64 1, .string a0, .string a1])) 9 rfl rfl (hon 11 (by kernel_rfl)) rfl
                  have e40 : a.tmps[40]? = some (.bool (t240 != t244)) := by rw [ha]; exact putSel_on (e := (9, 40, .bool (t240 != t244))) 7 rfl rfl (hon 9 (by kernel_rfl)) rfl
                  replace ha := Aside0.mk ha
                  have BK235 := Aside0.mk Q_BK235
                  have BK236 := Aside0.mk Q_BK236
                  have HB := Aside0.mk Q_HB
                  have HO239 := Aside0.mk (Q_HO239 (hon 1 (by kernel_rfl)))
                  have HO243 := Aside0.mk (Q_HO243 (hon 5 (by kernel_rfl)))
                  refine Kd.R_lit_step k30 _ 30 ?hg (N := 43) ?hd (xs := ([(⟨0, a0, a1⟩ : S30), (⟨1, a0, a1⟩ : S30)] : List (S30))) (inner := [.int .i64 0, .string a0, .string a1, .int .i64 1, .string a0, .string a1]) (ok := fun _ => True) (okp := fun _ => True) ?hr ?hp (fun _ hk => hk) trivial (Below.refl _ _) (Nat.le_refl _) (by simp) ?_; (case hd => rfl); (case hg => first | rfl | exact wanted_on rfl rfl rfl (e34.trans (by first | rfl | (simp [*]; done))) | exact wanted_on rfl rfl rfl (e38.trans (by first | rfl | (simp [*]; done))) | exact wanted_on rfl rfl rfl (e39.trans (by first | rfl | (simp [*]; done))) | exact wanted_on rfl rfl rfl (e40.trans (by first | rfl | (simp [*]; done))) | exact wanted_on rfl rfl rfl (e45.trans (by first | rfl | (simp [*]; done))) | exact wanted_on rfl rfl rfl (e46.trans (by first | rfl | (simp [*]; done))) | exact wanted_on rfl rfl rfl (e47.trans (by first | rfl | (simp [*]; done))) | exact wanted_on rfl rfl rfl (e48.trans (by first | rfl | (simp [*]; done))) | exact wanted_on rfl rfl rfl (e55.trans (by first | rfl | (simp [*]; done))) | exact wanted_on rfl rfl rfl (e56.trans (by first | rfl | (simp [*]; done)))); (case hr => first | (go_simp; done) | (go_simp; rfl)); (case hp => exact (Reps.c3 (show Kd.M k30 _ _ _ (⟨0, a0, a1⟩ : S30) [.int .i64 0, .string a0, .string a1] from (k30_mkM _ _ _ (⟨0, a0, a1⟩ : S30) )) (Reps.c3 (show Kd.M k30 _ _ _ (⟨1, a0, a1⟩ : S30) [.int .i64 1, .string a0, .string a1] from (k30_mkM _ _ _ (⟨1, a0, a1⟩ : S30) )) (Reps.none _ _))))
                  intro v246 w53 ho54 hb hg_ hnew_
                  clear hg_ hnew_
                  (first | rw [← Ny245.out] at ho54 | (simp only [Int.reduceToNat] at ho54; rw [← Ny245.out] at ho54))
                  have n0_ := Aside0.mk (Kd.R_elder' (by (with_reducible repeat (first | apply Kd.R_alloc | apply Kd.R_drewN | apply Kd.R_drew)); exact HO239.out) (Kd.R_base ho54) hb)
                  have n1_ := Aside0.mk (Kd.R_elder' (by (with_reducible repeat (first | apply Kd.R_alloc | apply Kd.R_drewN | apply Kd.R_drew)); exact HO243.out) (Kd.R_base ho54) hb)
                  have n2_ := Aside0.mk (Kd.R_lower (Kd.R_newB (Kd.R_newB (Kd.R_new' (Kd.R_new' ho54 (Kd.R_lt (by (with_reducible repeat (first | apply Kd.R_alloc | apply Kd.R_drewN | apply Kd.R_drew)); exact HO239.out))) (Kd.R_lt (by (with_reducible repeat (first | apply Kd.R_alloc | apply Kd.R_drewN | apply Kd.R_drew)); exact HO243.out))) (g := gb235) (o := .cells #[.int .i64 0, .string a0, .string a1] 30 (0, 0)) (by (with_reducible repeat (first | refine blk_drewN ?_ _ | refine blk_drew ?_ | refine blk_alloc ?_ _)); exact BK235.out)) (g := gb236) (o := .cells #[.int .i64 1, .string a0, .string a1] 30 (0, 0)) (by (with_reducible repeat (first | refine blk_drewN ?_ _ | refine blk_drew ?_ | refine blk_alloc ?_ _)); exact BK236.out)) (below_size (by repeat (first | (with_reducible first | exact HB.out | apply below_alloc | apply pw_below_drewN | apply below_drew1 | refine below_set ?_ GE235.out | refine below_set ?_ GE236.out) | exact HB.out))))
                  have n3_ := Aside0.mk (blk_below (g := gb235) (o := .cells #[.int .i64 0, .string a0, .string a1] 30 (0, 0)) (by (with_reducible repeat (first | refine blk_drewN ?_ _ | refine blk_drew ?_ | refine blk_alloc ?_ _)); exact BK235.out) hb)
                  have n4_ := Aside0.mk (blk_below (g := gb236) (o := .cells #[.int .i64 1, .string a0, .string a1] 30 (0, 0)) (by (with_reducible repeat (first | refine blk_drewN ?_ _ | refine blk_drew ?_ | refine blk_alloc ?_ _)); exact BK236.out) hb)
                  have n5_ := Aside0.mk (below_step (by repeat (first | (with_reducible first | exact HB.out | apply below_alloc | apply pw_below_drewN | apply below_drew1 | refine below_set ?_ GE235.out | refine below_set ?_ GE236.out) | exact HB.out)) hb)
                  clear HO239
                  clear HO243
                  clear BK235
                  clear BK236
                  clear HB
                  have HO239 := n0_
                  have HO243 := n1_
                  have HO247 := n2_
                  have BK235 := n3_
                  have BK236 := n4_
                  have HB := n5_
                  clear n0_ n1_ n2_ n3_ n4_ n5_
                  clear hb ho54
                  refine hK.out _ _ ⟨v238, v242, v246, v250, v253, v256, (by rw [ha.out]; exact putSel_upk 10 hb_ rfl rfl rfl), (by (with_reducible repeat (first | refine blk_drewN ?_ _ | refine blk_drew ?_ | refine blk_alloc ?_ _)); exact BK235.out), (by (with_reducible repeat (first | refine blk_drewN ?_ _ | refine blk_drew ?_ | refine blk_alloc ?_ _)); exact BK236.out), (by repeat (first | (with_reducible first | exact HB.out | apply below_alloc | apply pw_below_drewN | apply below_drew1 | refine below_set ?_ GE235.out | refine below_set ?_ GE236.out) | exact HB.out)), fun _ => (by (with_reducible repeat (first | apply Kd.R_alloc | apply Kd.R_drewN | apply Kd.R_drew)); exact Kd.R_mono HO239.out (fun _ hk => by first | exact ⟨hk.1.1, ⟨hk.2, ⟨hk.1.2.1, hk.1.2.2⟩⟩⟩ | (simp [hk]; done))), fun _ => (by (with_reducible repeat (first | apply Kd.R_alloc | apply Kd.R_drewN | apply Kd.R_drew)); exact Kd.R_mono HO243.out (fun _ hk => by first | exact ⟨hk.1.1, ⟨hk.2, ⟨hk.1.2.1, hk.1.2.2⟩⟩⟩ | (simp [hk]; done))), fun _ => (by (with_reducible repeat (first | apply Kd.R_alloc | apply Kd.R_drewN | apply Kd.R_drew)); exact Kd.R_mono HO247.out (fun _ hk => by first | exact ⟨hk.1.1.1.2, ⟨hk.1.1.2, ⟨hk.1.2, hk.2⟩⟩⟩ | (simp [hk]; done))), fun h0_ _ => absurd ((hoff 19 (by kernel_rfl)).symm.trans h0_) (by decide), fun h0_ _ => absurd ((hoff 21 (by kernel_rfl)).symm.trans h0_) (by decide), fun h0_ => absurd ((hoff 22 (by kernel_rfl)).symm.trans h0_) (by decide)⟩
                refine steps_cons ?_ ?_
                · rintro b a w' ⟨v238, v242, v246, v250, v253, v256, ha, Q_BK235, Q_BK236, Q_HB, Q_HO239, Q_HO243, Q_HO247, Q_HO251, Q_HO254, Q_HO257⟩ hb_ hon hoff
                  refine ⟨_, rfl, fun K hK => ?_⟩
                  have e2 : a.tmps[2]? = some (.slice A2 l2.length c2) := by rw [ha]; exact (putSel_off rfl).trans rfl
                  have e40 : a.tmps[40]? = some (.bool (t240 != t244)) := by rw [ha]; exact putSel_on (e := (9, 40, .bool (t240 != t244))) 7 rfl rfl (hon 9 (by kernel_rfl)) rfl
                  replace ha := Aside0.mk ha
                  have BK235 := Aside0.mk Q_BK235
                  have BK236 := Aside0.mk Q_BK236
                  have HB := Aside0.mk Q_HB
                  have HO239 := Aside0.mk (Q_HO239 (hon 1 (by kernel_rfl)))
                  have HO243 := Aside0.mk (Q_HO243 (hon 5 (by kernel_rfl)))
                  refine value_ (w1 := w') (v := .slice A2 l2.length c2) (wanted_on rfl rfl rfl (e40.trans (by first | rfl | (simp [*]; done) | (simp [*, q_isEmpty]; done)))) rfl ?_ ?_
                  · go_simp
                    (try simp only [i64_w])
                    try rfl
                  refine hK.out _ _ ⟨v238, v242, v246, v250, v253, v256, (by rw [ha.out]; exact putSel_upk 11 hb_ rfl rfl rfl), Q_BK235, Q_BK236, Q_HB, Q_HO239, Q_HO243, Q_HO247, fun h0_ _ => absurd ((hoff 19 (by kernel_rfl)).symm.trans h0_) (by decide), fun h0_ _ => absurd ((hoff 21 (by kernel_rfl)).symm.trans h0_) (by decide), fun h0_ => absurd ((hoff 22 (by kernel_rfl)).symm.trans h0_) (by decide)⟩
                refine steps_cons ?_ ?_
                · rintro b a w' ⟨v238, v242, v246, v250, v253, v256, ha, Q_BK235, Q_BK236, Q_HB, Q_HO239, Q_HO243, Q_HO247, Q_HO251, Q_HO254, Q_HO257⟩ hb_ hon hoff
                  refine ⟨_, rfl, fun K hK => ?_⟩
                  have e43 : a.tmps[43]? = some (v246) := by rw [ha]; exact putSel_on (e := (12, 43, v246)) 10 rfl rfl (hon 12 (by kernel_rfl)) rfl
                  have e44 : a.tmps[44]? = some (.slice A2 l2.length c2) := by rw [ha]; exact putSel_on (e := (13, 44, .slice A2 l2.length c2)) 11 rfl rfl (hon 13 (by kernel_rfl)) rfl
                  have e40 : a.tmps[40]? = some (.bool (t240 != t244)) := by rw [ha]; exact putSel_on (e := (9, 40, .bool (t240 != t244))) 7 rfl rfl (hon 9 (by kernel_rfl)) rfl
                  replace ha := Aside0.mk ha
                  have BK235 := Aside0.mk Q_BK235
                  have BK236 := Aside0.mk Q_BK236
                  have HB := Aside0.mk Q_HB
                  have HO239 := Aside0.mk (Q_HO239 (hon 1 (by kernel_rfl)))
                  have HO243 := Aside0.mk (Q_HO243 (hon 5 (by kernel_rfl)))
                  have HO247 := Aside0.mk (Q_HO247 (hon 12 (by kernel_rfl)))
                  obtain ⟨Ao55, co55, eo55⟩ := Kd.R_slice HO247.out
                  (first | subst eo55 | (injection eo55 with f1_ f2_ f3_; have f4_ := f1_.symm; have f5_ := f3_.symm; clear f1_ f2_ f3_; subst f4_; subst f5_))
                  refine goes_ Try.func38 (by kernel_rfl) rfl #[.slice Ao55 y245.length co55, .slice A2 l2.length c2] (by first | rfl | exact wanted_on rfl rfl rfl (e34.trans (by first | rfl | (simp [*]; done))) | exact wanted_on rfl rfl rfl (e38.trans (by first | rfl | (simp [*]; done))) | exact wanted_on rfl rfl rfl (e39.trans (by first | rfl | (simp [*]; done))) | exact wanted_on rfl rfl rfl (e40.trans (by first | rfl | (simp [*]; done))) | exact wanted_on rfl rfl rfl (e45.trans (by first | rfl | (simp [*]; done))) | exact wanted_on rfl rfl rfl (e46.trans (by first | rfl | (simp [*]; done))) | exact wanted_on rfl rfl rfl (e47.trans (by first | rfl | (simp [*]; done))) | exact wanted_on rfl rfl rfl (e48.trans (by first | rfl | (simp [*]; done))) | exact wanted_on rfl rfl rfl (e55.trans (by first | rfl | (simp [*]; done))) | exact wanted_on rfl rfl rfl (e56.trans (by first | rfl | (simp [*]; done)))) rfl rfl (by first | (simp only [List.map_toArray, List.map_cons, List.map_nil, Act.eval, Array.getD_eq_getD_getElem?, Option.getD_some, e43, e44, e40]; done) | (simp only [List.map_toArray, List.map_cons, List.map_nil, Act.eval, Array.getD_eq_getD_getElem?, Option.getD_some, e43, e44, e40]; rfl)) ?_
                  with_reducible refine (impl_MatchAll.calls _ _ y245 _ _ l2 false _ ?side1 ?side2 ?side3 ?side4 A14.out).mono ?_
                  (case side1 => repeat (first | exact (Kd.R_reads' HO247.out).2.2 | (with_reducible refine Kd.C_alloc ?_ _) | (with_reducible refine Kd.C_drewN ?_ _) | (with_reducible refine Kd.C_drew ?_)))
                  (case side2 => exact (Kd.R_reads' HO247.out).2.1)
                  (case side3 => repeat (first | exact (Kd.C_below HR2.out HB.out) | (with_reducible refine Kd.C_alloc ?_ _) | (with_reducible refine Kd.C_drewN ?_ _) | (with_reducible refine Kd.C_drew ?_)))
                  (case side4 => exact HC2.out)
                  rintro e w56 ⟨rfl, hb⟩
                  refine ⟨_, rfl, ?_⟩
                  have n0_ := Aside0.mk (Kd.R_below (by (with_reducible repeat (first | apply Kd.R_alloc | apply Kd.R_drewN | apply Kd.R_drew)); exact HO239.out) hb)
                  have n1_ := Aside0.mk (Kd.R_below (by (with_reducible repeat (first | apply Kd.R_alloc | apply Kd.R_drewN | apply Kd.R_drew)); exact HO243.out) hb)
                  have n2_ := Aside0.mk (Kd.R_below (by (with_reducible repeat (first | apply Kd.R_alloc | apply Kd.R_drewN | apply Kd.R_drew)); exact HO247.out) hb)
                  have n3_ := Aside0.mk (blk_below (g := gb235) (o := .cells #[.int .i64 0, .string a0, .string a1] 30 (0, 0)) (by (with_reducible repeat (first | refine blk_drewN ?_ _ | refine blk_drew ?_ | refine blk_alloc ?_ _)); exact BK235.out) hb)
                  have n4_ := Aside0.mk (blk_below (g := gb236) (o := .cells #[.int .i64 1, .string a0, .string a1] 30 (0, 0)) (by (with_reducible repeat (first | refine blk_drewN ?_ _ | refine blk_drew ?_ | refine blk_alloc ?_ _)); exact BK236.out) hb)
                  have n5_ := Aside0.mk (below_step (by repeat (first | (with_reducible first | exact HB.out | apply below_alloc | apply pw_below_drewN | apply below_drew1 | refine below_set ?_ GE235.out | refine below_set ?_ GE236.out) | exact HB.out)) hb)
                  clear HO239
                  clear HO243
                  clear HO247
                  clear BK235
                  clear BK236
                  clear HB
                  have HO239 := n0_
                  have HO243 := n1_
                  have HO247 := n2_
                  have BK235 := n3_
                  have BK236 := n4_
                  have HB := n5_
                  clear n0_ n1_ n2_ n3_ n4_ n5_
                  (try clear hb)
                  (try clear hb2)
                  (try clear hk)
                  (try clear hi)
                  refine hK.out _ _ ⟨v238, v242, .slice Ao55 y245.length co55, v250, v253, v256, (by rw [ha.out]; exact putSel_upk 12 hb_ rfl rfl rfl), (by (with_reducible repeat (first | refine blk_drewN ?_ _ | refine blk_drew ?_ | refine blk_alloc ?_ _)); exact BK235.out), (by (with_reducible repeat (first | refine blk_drewN ?_ _ | refine blk_drew ?_ | refine blk_alloc ?_ _)); exact BK236.out), (by repeat (first | (with_reducible first | exact HB.out | apply below_alloc | apply pw_below_drewN | apply below_drew1 | refine below_set ?_ GE235.out | refine below_set ?_ GE236.out) | exact HB.out)), fun _ => (by (with_reducible repeat (first | apply Kd.R_alloc | apply Kd.R_drewN | apply Kd.R_drew)); exact HO239.out), fun _ => (by (with_reducible repeat (first | apply Kd.R_alloc | apply Kd.R_drewN | apply Kd.R_drew)); exact HO243.out), fun _ => (by (with_reducible repeat (first | apply Kd.R_alloc | apply Kd.R_drewN | apply Kd.R_drew)); exact HO247.out), fun h0_ _ => absurd ((hoff 19 (by kernel_rfl)).symm.trans h0_) (by decide), fun h0_ _ => absurd ((hoff 21 (by kernel_rfl)).symm.trans h0_) (by decide), fun h0_ => absurd ((hoff 22 (by kernel_rfl)).symm.trans h0_) (by decide)⟩
                refine steps_cons ?_ ?_
                · rintro b a w' ⟨v238, v242, v246, v250, v253, v256, ha, Q_BK235, Q_BK236, Q_HB, Q_HO239, Q_HO243, Q_HO247, Q_HO251, Q_HO254, Q_HO257⟩ hb_ hon hoff
                  refine ⟨_, rfl, fun K hK => ?_⟩
                  have e45 : a.tmps[45]? = some (.bool false) := by rw [ha]; exact putSel_on (e := (14, 45, .bool false)) 12 rfl rfl (hon 14 (by kernel_rfl)) rfl
                  have e40 : a.tmps[40]? = some (.bool (t240 != t244)) := by rw [ha]; exact putSel_on (e := (9, 40, .bool (t240 != t244))) 7 rfl rfl (hon 9 (by kernel_rfl)) rfl
                  replace ha := Aside0.mk ha
                  have BK235 := Aside0.mk Q_BK235
                  have BK236 := Aside0.mk Q_BK236
                  have HB := Aside0.mk Q_HB
                  have HO239 := Aside0.mk (Q_HO239 (hon 1 (by kernel_rfl)))
                  have HO243 := Aside0.mk (Q_HO243 (hon 5 (by kernel_rfl)))
                  have HO247 := Aside0.mk (Q_HO247 (hon 12 (by kernel_rfl)))
                  refine value_ (w1 := w') (v := .bool (!false)) (wanted_on rfl rfl rfl (e40.trans (by first | rfl | (simp [*]; done) | (simp [*, q_isEmpty]; done)))) rfl ?_ ?_
                  · go_simp
                    (try simp only [i64_w])
                    try rfl
                  refine hK.out _ _ ⟨v238, v242, v246, v250, v253, v256, (by rw [ha.out]; exact putSel_upk 13 hb_ rfl rfl rfl), Q_BK235, Q_BK236, Q_HB, Q_HO239, Q_HO243, Q_HO247, fun h0_ _ => absurd ((hoff 19 (by kernel_rfl)).symm.trans h0_) (by decide), fun h0_ _ => absurd ((hoff 21 (by kernel_rfl)).symm.trans h0_) (by decide), fun h0_ => absurd ((hoff 22 (by kernel_rfl)).symm.trans h0_) (by decide)⟩
                refine steps_cons ?_ ?_
                · rintro b a w' ⟨v238, v242, v246, v250, v253, v256, ha, Q_BK235, Q_BK236, Q_HB, Q_HO239, Q_HO243, Q_HO247, Q_HO251, Q_HO254, Q_HO257⟩ hb_ hon hoff
                  refine ⟨_, rfl, fun K hK => ?_⟩
                  have e40 : a.tmps[40]? = some (.bool (t240 != t244)) := by rw [ha]; exact putSel_on (e := (9, 40, .bool (t240 != t244))) 7 rfl rfl (hon 9 (by kernel_rfl)) rfl
                  have e46 : a.tmps[46]? = some (.bool (!false)) := by rw [ha]; exact putSel_on (e := (15, 46, .bool (!false))) 13 rfl rfl (hon 15 (by kernel_rfl)) rfl
                  replace ha := Aside0.mk ha
                  have BK235 := Aside0.mk Q_BK235
                  have BK236 := Aside0.mk Q_BK236
                  have HB := Aside0.mk Q_HB
                  have HO239 := Aside0.mk (Q_HO239 (hon 1 (by kernel_rfl)))
                  have HO243 := Aside0.mk (Q_HO243 (hon 5 (by kernel_rfl)))
                  have HO247 := Aside0.mk (Q_HO247 (hon 12 (by kernel_rfl)))
                  refine value_ (w1 := w') (v := .bool (!false)) (by rfl) rfl ?_ ?_
                  · go_simp
                    (try simp only [i64_w])
                    try rfl
                  refine hK.out _ _ ⟨v238, v242, v246, v250, v253, v256, (by rw [ha.out]; exact putSel_upk 14 hb_ rfl rfl rfl), Q_BK235, Q_BK236, Q_HB, Q_HO239, Q_HO243, Q_HO247, fun h0_ _ => absurd ((hoff 19 (by kernel_rfl)).symm.trans h0_) (by decide), fun h0_ _ => absurd ((hoff 21 (by kernel_rfl)).symm.trans h0_) (by decide), fun h0_ => absurd ((hoff 22 (by kernel_rfl)).symm.trans h0_) (by decide)⟩
                refine steps_cons ?_ ?_
                · rintro b a w' ⟨v238, v242, v246, v250, v253, v256, ha, Q_BK235, Q_BK236, Q_HB, Q_HO239, Q_HO243, Q_HO247, Q_HO251, Q_HO254, Q_HO257⟩ hb_ hon hoff
                  refine ⟨_, rfl, fun K hK => ?_⟩
                  have e47 : a.tmps[47]? = some (.bool (!false)) := by rw [ha]; exact putSel_on (e := (16, 47, .bool (!false))) 14 rfl rfl (hon 16 (by kernel_rfl)) rfl
                  replace ha := Aside0.mk ha
                  have BK235 := Aside0.mk Q_BK235
                  have BK236 := Aside0.mk Q_BK236
                  have HB := Aside0.mk Q_HB
                  have HO239 := Aside0.mk (Q_HO239 (hon 1 (by kernel_rfl)))
                  have HO243 := Aside0.mk (Q_HO243 (hon 5 (by kernel_rfl)))
                  have HO247 := Aside0.mk (Q_HO247 (hon 12 (by kernel_rfl)))
                  refine value_ (w1 := w') (v := .bool (!false)) (by rfl) rfl ?_ ?_
                  · go_simp
                    (try simp only [i64_w])
                    try rfl
                  refine hK.out _ _ ⟨v238, v242, v246, v250, v253, v256, (by rw [ha.out]; exact putSel_upk 15 hb_ rfl rfl rfl), Q_BK235, Q_BK236, Q_HB, Q_HO239, Q_HO243, Q_HO247, fun h0_ _ => absurd ((hoff 19 (by kernel_rfl)).symm.trans h0_) (by decide), fun h0_ _ => absurd ((hoff 21 (by kernel_rfl)).symm.trans h0_) (by decide), fun h0_ => absurd ((hoff 22 (by kernel_rfl)).symm.trans h0_) (by decide)⟩
                refine steps_cons ?_ ?_
                · rintro b a w' ⟨v238, v242, v246, v250, v253, v256, ha, Q_BK235, Q_BK236, Q_HB, Q_HO239, Q_HO243, Q_HO247, Q_HO251, Q_HO254, Q_HO257⟩ hb_ hon hoff
                  refine ⟨_, rfl, fun K hK => ?_⟩
                  have e7 : a.tmps[7]? = some (.pointer (some ⟨gb235, 0, none⟩)) := by rw [ha]; exact (putSel_off rfl).trans rfl
                  have e48 : a.tmps[48]? = some (.bool (!false)) := by rw [ha]; exact putSel_on (e := (17, 48, .bool (!false))) 15 rfl rfl (hon 17 (by kernel_rfl)) rfl
                  replace ha := Aside0.mk ha
                  have BK235 := Aside0.mk Q_BK235
                  have BK236 := Aside0.mk Q_BK236
                  have HB := Aside0.mk Q_HB
                  have HO239 := Aside0.mk (Q_HO239 (hon 1 (by kernel_rfl)))
                  have HO243 := Aside0.mk (Q_HO243 (hon 5 (by kernel_rfl)))
                  have HO247 := Aside0.mk (Q_HO247 (hon 12 (by kernel_rfl)))
                  have hc0_ : w'.cell? ⟨gb235, 0, none⟩ = some (.int .i64 0) := (blk_cell BK235.out 0).trans rfl
                  have hc1_ : w'.cell? ⟨gb235, 1, none⟩ = some (.string a0) := (blk_cell BK235.out 1).trans rfl
                  have hc2_ : w'.cell? ⟨gb235, 2, none⟩ = some (.string a1) := (blk_cell BK235.out 2).trans rfl
                  refine value_ (w1 := w') (v := .agg #[.int .i64 0, .string a0, .string a1]) (wanted_on rfl rfl rfl (e48.trans (by first | rfl | (simp [*]; done) | (simp [*, q_isEmpty]; done)))) rfl ?_ ?_
                  · go_simp
                    (try simp only [i64_w])
                    try rfl
                  refine hK.out _ _ ⟨v238, v242, v246, v250, v253, v256, (by rw [ha.out]; exact putSel_upk 16 hb_ rfl rfl rfl), Q_BK235, Q_BK236, Q_HB, Q_HO239, Q_HO243, Q_HO247, fun h0_ _ => absurd ((hoff 19 (by kernel_rfl)).symm.trans h0_) (by decide), Q_HO254, fun h0_ => absurd ((hoff 22 (by kernel_rfl)).symm.trans h0_) (by decide)⟩
                refine steps_cons ?_ ?_
                · rintro b a w' ⟨v238, v242, v246, v250, v253, v256, ha, Q_BK235, Q_BK236, Q_HB, Q_HO239, Q_HO243, Q_HO247, Q_HO251, Q_HO254, Q_HO257⟩ hb_ hon hoff
                  refine ⟨_, rfl, fun K hK => ?_⟩
                  have e49 : a.tmps[49]? = some (.agg #[.int .i64 0, .string a0, .string a1]) := by rw [ha]; exact putSel_on (e := (18, 49, .agg #[.int .i64 0, .string a0, .string a1])) 16 rfl rfl (hon 18 (by kernel_rfl)) rfl
                  have e48 : a.tmps[48]? = some (.bool (!false)) := by rw [ha]; exact putSel_on (e := (17, 48, .bool (!false))) 15 rfl rfl (hon 17 (by kernel_rfl)) rfl
                  replace ha := Aside0.mk ha
                  have BK235 := Aside0.mk Q_BK235
                  have BK236 := Aside0.mk Q_BK236
                  have HB := Aside0.mk Q_HB
                  have HO239 := Aside0.mk (Q_HO239 (hon 1 (by kernel_rfl)))
                  have HO243 := Aside0.mk (Q_HO243 (hon 5 (by kernel_rfl)))
                  have HO247 := Aside0.mk (Q_HO247 (hon 12 (by kernel_rfl)))
                  refine Kd.R_lit_step k30 _ 30 ?hg (N := 50) ?hd (xs := ([(⟨0, a0, a1⟩ : S30)] : List (S30))) (inner := [.int .i64 0, .string a0, .string a1]) (ok := fun _ => True) (okp := fun _ => True) ?hr ?hp (fun _ hk => hk) trivial (Below.refl _ _) (Nat.le_refl _) (by simp) ?_; (case hd => rfl); (case hg => first | rfl | exact wanted_on rfl rfl rfl (e34.trans (by first | rfl | (simp [*]; done))) | exact wanted_on rfl rfl rfl (e38.trans (by first | rfl | (simp [*]; done))) | exact wanted_on rfl rfl rfl (e39.trans (by first | rfl | (simp [*]; done))) | exact wanted_on rfl rfl rfl (e40.trans (by first | rfl | (simp [*]; done))) | exact wanted_on rfl rfl rfl (e45.trans (by first | rfl | (simp [*]; done))) | exact wanted_on rfl rfl rfl (e46.trans (by first | rfl | (simp [*]; done))) | exact wanted_on rfl rfl rfl (e47.trans (by first | rfl | (simp [*]; done))) | exact wanted_on rfl rfl rfl (e48.trans (by first | rfl | (simp [*]; done))) | exact wanted_on rfl rfl rfl (e55.trans (by first | rfl | (simp [*]; done))) | exact wanted_on rfl rfl rfl (e56.trans (by first | rfl | (simp [*]; done)))); (case hr => first | (go_simp; done) | (go_simp; rfl)); (case hp => exact (Reps.c3 (show Kd.M k30 _ _ _ (⟨0, a0, a1⟩ : S30) [.int .i64 0, .string a0, .string a1] from (k30_mkM _ _ _ (⟨0, a0, a1⟩ : S30) )) (Reps.none _ _)))
                  intro v250 w57 ho58 hb hg_ hnew_
                  clear hg_ hnew_
                  (first | rw [← Ny249.out] at ho58 | (simp only [Int.reduceToNat] at ho58; rw [← Ny249.out] at ho58))
                  have n0_ := Aside0.mk (Kd.R_elder' (by (with_reducible repeat (first | apply Kd.R_alloc | apply Kd.R_drewN | apply Kd.R_drew)); exact HO239.out) (Kd.R_base ho58) hb)
                  have n1_ := Aside0.mk (Kd.R_elder' (by (with_reducible repeat (first | apply Kd.R_alloc | apply Kd.R_drewN | apply Kd.R_drew)); exact HO243.out) (Kd.R_base ho58) hb)
                  have n2_ := Aside0.mk (Kd.R_elder' (by (with_reducible repeat (first | apply Kd.R_alloc | apply Kd.R_drewN | apply Kd.R_drew)); exact HO247.out) (Kd.R_base ho58) hb)
                  have n3_ := Aside0.mk (Kd.R_lower (Kd.R_newB (Kd.R_newB (Kd.R_new' (Kd.R_new' (Kd.R_new' ho58 (Kd.R_lt (by (with_reducible repeat (first | apply Kd.R_alloc | apply Kd.R_drewN | apply Kd.R_drew)); exact HO239.out))) (Kd.R_lt (by (with_reducible repeat (first | apply Kd.R_alloc | apply Kd.R_drewN | apply Kd.R_drew)); exact HO243.out))) (Kd.R_lt (by (with_reducible repeat (first | apply Kd.R_alloc | apply Kd.R_drewN | apply Kd.R_drew)); exact HO247.out))) (g := gb235) (o := .cells #[.int .i64 0, .string a0, .string a1] 30 (0, 0)) (by (with_reducible repeat (first | refine blk_drewN ?_ _ | refine blk_drew ?_ | refine blk_alloc ?_ _)); exact BK235.out)) (g := gb236) (o := .cells #[.int .i64 1, .string a0, .string a1] 30 (0, 0)) (by (with_reducible repeat (first | refine blk_drewN ?_ _ | refine blk_drew ?_ | refine blk_alloc ?_ _)); exact BK236.out)) (below_size (by repeat (first | (with_reducible first | exact HB.out | apply below_alloc | apply pw_below_drewN | apply below_drew1 | refine below_set ?_ GE235.out | refine below_set ?_ GE236.out) | exact HB.out))))
                  have n4_ := Aside0.mk (blk_below (g := gb235) (o := .cells #[.int .i64 0, .string a0, .string a1] 30 (0, 0)) (by (with_reducible repeat (first | refine blk_drewN ?_ _ | refine blk_drew ?_ | refine blk_alloc ?_ _)); exact BK235.out) hb)
                  have n5_ := Aside0.mk (blk_below (g := gb236) (o := .cells #[.int .i64 1, .string a0, .string a1] 30 (0, 0)) (by (with_reducible repeat (first | refine blk_drewN ?_ _ | refine blk_drew ?_ | refine blk_alloc ?_ _)); exact BK236.out) hb)
                  have n6_ := Aside0.mk (below_step (by repeat (first | (with_reducible first | exact HB.out | apply below_alloc | apply pw_below_drewN | apply below_drew1 | refine below_set ?_ GE235.out | refine below_set ?_ GE236.out) | exact HB.out)) hb)
                  have z_HO254 := fun (h0_ : b 21 = true) (h1_ : b 22 = false) => (show Kd.R k30 30 w57 w.heap.size (fun k_ => k_ ≠ gb235 ∧ k_ ≠ gb236) v253 y252 from by first | exact (Kd.R_elder' (by (with_reducible repeat (first | apply Kd.R_alloc | apply Kd.R_drewN | apply Kd.R_drew)); exact (Q_HO254 h0_ h1_)) (Kd.R_base ho58) hb) | exact Kd.R_mono (Kd.R_elder' (by (with_reducible repeat (first | apply Kd.R_alloc | apply Kd.R_drewN | apply Kd.R_drew)); exact (Q_HO254 h0_ h1_)) (Kd.R_base ho58) hb) (fun _ h_ => by first | trivial | exact h_ | exact h_.1))
                  clear HO239
                  clear HO243
                  clear HO247
                  clear BK235
                  clear BK236
                  clear HB
                  have HO239 := n0_
                  have HO243 := n1_
                  have HO247 := n2_
                  have HO251 := n3_
                  have BK235 := n4_
                  have BK236 := n5_
                  have HB := n6_
                  clear n0_ n1_ n2_ n3_ n4_ n5_ n6_
                  clear hb ho58
                  refine hK.out _ _ ⟨v238, v242, v246, v250, v253, v256, (by rw [ha.out]; exact putSel_upk 17 hb_ rfl rfl rfl), (by (with_reducible repeat (first | refine blk_drewN ?_ _ | refine blk_drew ?_ | refine blk_alloc ?_ _)); exact BK235.out), (by (with_reducible repeat (first | refine blk_drewN ?_ _ | refine blk_drew ?_ | refine blk_alloc ?_ _)); exact BK236.out), (by repeat (first | (with_reducible first | exact HB.out | apply below_alloc | apply pw_below_drewN | apply below_drew1 | refine below_set ?_ GE235.out | refine below_set ?_ GE236.out) | exact HB.out)), fun _ => (by (with_reducible repeat (first | apply Kd.R_alloc | apply Kd.R_drewN | apply Kd.R_drew)); exact Kd.R_mono HO239.out (fun _ hk => by first | exact ⟨hk.1.1, ⟨hk.1.2.1, ⟨hk.2, ⟨hk.1.2.2.1, hk.1.2.2.2⟩⟩⟩⟩ | (simp [hk]; done))), fun _ => (by (with_reducible repeat (first | apply Kd.R_alloc | apply Kd.R_drewN | apply Kd.R_drew)); exact Kd.R_mono HO243.out (fun _ hk => by first | exact ⟨hk.1.1, ⟨hk.1.2.1, ⟨hk.2, ⟨hk.1.2.2.1, hk.1.2.2.2⟩⟩⟩⟩ | (simp [hk]; done))), fun _ => (by (with_reducible repeat (first | apply Kd.R_alloc | apply Kd.R_drewN | apply Kd.R_drew)); exact Kd.R_mono HO247.out (fun _ hk => by first | exact ⟨hk.1.1, ⟨hk.1.2.1, ⟨hk.2, ⟨hk.1.2.2.1, hk.1.2.2.2⟩⟩⟩⟩ | (simp [hk]; done))), fun _ _ => (by (with_reducible repeat (first | apply Kd.R_alloc | apply Kd.R_drewN | apply Kd.R_drew)); exact Kd.R_mono HO251.out (fun _ hk => by first | exact ⟨hk.1.1.1.1.2, ⟨hk.1.1.1.2, ⟨hk.1.1.2, ⟨hk.1.2, hk.2⟩⟩⟩⟩ | (simp [hk]; done))), z_HO254, fun h0_ => absurd ((hoff 22 (by kernel_rfl)).symm.trans h0_) (by decide)⟩
                refine steps_cons ?_ ?_
                · rintro b a w' ⟨v238, v242, v246, v250, v253, v256, ha, Q_BK235, Q_BK236, Q_HB, Q_HO239, Q_HO243, Q_HO247, Q_HO251, Q_HO254, Q_HO257⟩ hb_ hon hoff
                  refine ⟨_, rfl, fun K hK => ?_⟩
                  have e8 : a.tmps[8]? = some (.pointer (some ⟨gb236, 0, none⟩)) := by rw [ha]; exact (putSel_off rfl).trans rfl
                  have e48 : a.tmps[48]? = some (.bool (!false)) := by rw [ha]; exact putSel_on (e := (17, 48, .bool (!false))) 15 rfl rfl (hon 17 (by kernel_rfl)) rfl
                  replace ha := Aside0.mk ha
                  have BK235 := Aside0.mk Q_BK235
                  have BK236 := Aside0.mk Q_BK236
                  have HB := Aside0.mk Q_HB
                  have HO239 := Aside0.mk (Q_HO239 (hon 1 (by kernel_rfl)))
                  have HO243 := Aside0.mk (Q_HO243 (hon 5 (by kernel_rfl)))
                  have HO247 := Aside0.mk (Q_HO247 (hon 12 (by kernel_rfl)))
                  have hc0_ : w'.cell? ⟨gb236, 0, none⟩ = some (.int .i64 1) := (blk_cell BK236.out 0).trans rfl
                  have hc1_ : w'.cell? ⟨gb236, 1, none⟩ = some (.string a0) := (blk_cell BK236.out 1).trans rfl
                  have hc2_ : w'.cell? ⟨gb236, 2, none⟩ = some (.string a1) := (blk_cell BK236.out 2).trans rfl
                  refine value_ (w1 := w') (v := .agg #[.int .i64 1, .string a0, .string a1]) (wanted_on rfl rfl rfl (e48.trans (by first | rfl | (simp [*]; done) | (simp [*, q_isEmpty]; done)))) rfl ?_ ?_
                  · go_simp
                    (try simp only [i64_w])
                    try rfl
                  refine hK.out _ _ ⟨v238, v242, v246, v250, v253, v256, (by rw [ha.out]; exact putSel_upk 18 hb_ rfl rfl rfl), Q_BK235, Q_BK236, Q_HB, Q_HO239, Q_HO243, Q_HO247, Q_HO251, fun h0_ _ => absurd ((hoff 21 (by kernel_rfl)).symm.trans h0_) (by decide), fun h0_ => absurd ((hoff 22 (by kernel_rfl)).symm.trans h0_) (by decide)⟩
                refine steps_cons ?_ ?_
                · rintro b a w' ⟨v238, v242, v246, v250, v253, v256, ha, Q_BK235, Q_BK236, Q_HB, Q_HO239, Q_HO243, Q_HO247, Q_HO251, Q_HO254, Q_HO257⟩ hb_ hon hoff
                  refine ⟨_, rfl, fun K hK => ?_⟩
                  have e51 : a.tmps[51]? = some (.agg #[.int .i64 1, .string a0, .string a1]) := by rw [ha]; exact putSel_on (e := (20, 51, .agg #[.int .i64 1, .string a0, .string a1])) 18 rfl rfl (hon 20 (by kernel_rfl)) rfl
                  have e48 : a.tmps[48]? = some (.bool (!false)) := by rw [ha]; exact putSel_on (e := (17, 48, .bool (!false))) 15 rfl rfl (hon 17 (by kernel_rfl)) rfl
                  replace ha := Aside0.mk ha
                  have BK235 := Aside0.mk Q_BK235
                  have BK236 := Aside0.mk Q_BK236
                  have HB := Aside0.mk Q_HB
                  have HO239 := Aside0.mk (Q_HO239 (hon 1 (by kernel_rfl)))
                  have HO243 := Aside0.mk (Q_HO243 (hon 5 (by kernel_rfl)))
                  have HO247 := Aside0.mk (Q_HO247 (hon 12 (by kernel_rfl)))
                  refine Kd.R_lit_step k30 _ 30 ?hg (N := 52) ?hd (xs := ([(⟨1, a0, a1⟩ : S30)] : List (S30))) (inner := [.int .i64 1, .string a0, .string a1]) (ok := fun _ => True) (okp := fun _ => True) ?hr ?hp (fun _ hk => hk) trivial (Below.refl _ _) (Nat.le_refl _) (by simp) ?_; (case hd => rfl); (case hg => first | rfl | exact wanted_on rfl rfl rfl (e34.trans (by first | rfl | (simp [*]; done))) | exact wanted_on rfl rfl rfl (e38.trans (by first | rfl | (simp [*]; done))) | exact wanted_on rfl rfl rfl (e39.trans (by first | rfl | (simp [*]; done))) | exact wanted_on rfl rfl rfl (e40.trans (by first | rfl | (simp [*]; done))) | exact wanted_on rfl rfl rfl (e45.trans (by first | rfl | (simp [*]; done))) | exact wanted_on rfl rfl rfl (e46.trans (by first | rfl | (simp [*]; done))) | exact wanted_on rfl rfl rfl (e47.trans (by first | rfl | (simp [*]; done))) | exact wanted_on rfl rfl rfl (e48.trans (by first | rfl | (simp [*]; done))) | exact wanted_on rfl rfl rfl (e55.trans (by first | rfl | (simp [*]; done))) | exact wanted_on rfl rfl rfl (e56.trans (by first | rfl | (simp [*]; done)))); (case hr => first | (go_simp; done) | (go_simp; rfl)); (case hp => exact (Reps.c3 (show Kd.M k30 _ _ _ (⟨1, a0, a1⟩ : S30) [.int .i64 1, .string a0, .string a1] from (k30_mkM _ _ _ (⟨1, a0, a1⟩ : S30) )) (Reps.none _ _)))
                  intro v253 w57 ho58 hb hg_ hnew_
                  clear hg_ hnew_
                  (first | rw [← Ny252.out] at ho58 | (simp only [Int.reduceToNat] at ho58; rw [← Ny252.out] at ho58))
                  have n0_ := Aside0.mk (Kd.R_elder' (by (with_reducible repeat (first | apply Kd.R_alloc | apply Kd.R_drewN | apply Kd.R_drew)); exact HO239.out) (Kd.R_base ho58) hb)
                  have n1_ := Aside0.mk (Kd.R_elder' (by (with_reducible repeat (first | apply Kd.R_alloc | apply Kd.R_drewN | apply Kd.R_drew)); exact HO243.out) (Kd.R_base ho58) hb)
                  have n2_ := Aside0.mk (Kd.R_elder' (by (with_reducible repeat (first | apply Kd.R_alloc | apply Kd.R_drewN | apply Kd.R_drew)); exact HO247.out) (Kd.R_base ho58) hb)
                  have n3_ := Aside0.mk (Kd.R_lower (Kd.R_newB (Kd.R_newB (Kd.R_new' (Kd.R_new' (Kd.R_new' ho58 (Kd.R_lt (by (with_reducible repeat (first | apply Kd.R_alloc | apply Kd.R_drewN | apply Kd.R_drew)); exact HO239.out))) (Kd.R_lt (by (with_reducible repeat (first | apply Kd.R_alloc | apply Kd.R_drewN | apply Kd.R_drew)); exact HO243.out))) (Kd.R_lt (by (with_reducible repeat (first | apply Kd.R_alloc | apply Kd.R_drewN | apply Kd.R_drew)); exact HO247.out))) (g := gb235) (o := .cells #[.int .i64 0, .string a0, .string a1] 30 (0, 0)) (by (with_reducible repeat (first | refine blk_drewN ?_ _ | refine blk_drew ?_ | refine blk_alloc ?_ _)); exact BK235.out)) (g := gb236) (o := .cells #[.int .i64 1, .string a0, .string a1] 30 (0, 0)) (by (with_reducible repeat (first | refine blk_drewN ?_ _ | refine blk_drew ?_ | refine blk_alloc ?_ _)); exact BK236.out)) (below_size (by repeat (first | (with_reducible first | exact HB.out | apply below_alloc | apply pw_below_drewN | apply below_drew1 | refine below_set ?_ GE235.out | refine below_set ?_ GE236.out) | exact HB.out))))
                  have n4_ := Aside0.mk (blk_below (g := gb235) (o := .cells #[.int .i64 0, .string a0, .string a1] 30 (0, 0)) (by (with_reducible repeat (first | refine blk_drewN ?_ _ | refine blk_drew ?_ | refine blk_alloc ?_ _)); exact BK235.out) hb)
                  have n5_ := Aside0.mk (blk_below (g := gb236) (o := .cells #[.int .i64 1, .string a0, .string a1] 30 (0, 0)) (by (with_reducible repeat (first | refine blk_drewN ?_ _ | refine blk_drew ?_ | refine blk_alloc ?_ _)); exact BK236.out) hb)
                  have n6_ := Aside0.mk (below_step (by repeat (first | (with_reducible first | exact HB.out | apply below_alloc | apply pw_below_drewN | apply below_drew1 | refine below_set ?_ GE235.out | refine below_set ?_ GE236.out) | exact HB.out)) hb)
                  have z_HO251 := fun (h0_ : b 19 = true) (h1_ : b 22 = false) => (show Kd.R k30 30 w57 w.heap.size (fun k_ => k_ ≠ gb235 ∧ k_ ≠ gb236) v250 y249 from by first | exact (Kd.R_elder' (by (with_reducible repeat (first | apply Kd.R_alloc | apply Kd.R_drewN | apply Kd.R_drew)); exact (Q_HO251 h0_ h1_)) (Kd.R_base ho58) hb) | exact Kd.R_mono (Kd.R_elder' (by (with_reducible repeat (first | apply Kd.R_alloc | apply Kd.R_drewN | apply Kd.R_drew)); exact (Q_HO251 h0_ h1_)) (Kd.R_base ho58) hb) (fun _ h_ => by first | trivial | exact h_ | exact h_.1))
                  clear HO239
                  clear HO243
                  clear HO247
                  clear BK235
                  clear BK236
                  clear HB
                  have HO239 := n0_
                  have HO243 := n1_
                  have HO247 := n2_
                  have HO254 := n3_
                  have BK235 := n4_
                  have BK236 := n5_
                  have HB := n6_
                  clear n0_ n1_ n2_ n3_ n4_ n5_ n6_
                  clear hb ho58
                  refine hK.out _ _ ⟨v238, v242, v246, v250, v253, v256, (by rw [ha.out]; exact putSel_upk 19 hb_ rfl rfl rfl), (by (with_reducible repeat (first | refine blk_drewN ?_ _ | refine blk_drew ?_ | refine blk_alloc ?_ _)); exact BK235.out), (by (with_reducible repeat (first | refine blk_drewN ?_ _ | refine blk_drew ?_ | refine blk_alloc ?_ _)); exact BK236.out), (by repeat (first | (with_reducible first | exact HB.out | apply below_alloc | apply pw_below_drewN | apply below_drew1 | refine below_set ?_ GE235.out | refine below_set ?_ GE236.out) | exact HB.out)), fun _ => (by (with_reducible repeat (first | apply Kd.R_alloc | apply Kd.R_drewN | apply Kd.R_drew)); exact Kd.R_mono HO239.out (fun _ hk => by first | exact ⟨hk.1.1, ⟨hk.1.2.1, ⟨hk.2, ⟨hk.1.2.2.1, hk.1.2.2.2⟩⟩⟩⟩ | (simp [hk]; done))), fun _ => (by (with_reducible repeat (first | apply Kd.R_alloc | apply Kd.R_drewN | apply Kd.R_drew)); exact Kd.R_mono HO243.out (fun _ hk => by first | exact ⟨hk.1.1, ⟨hk.1.2.1, ⟨hk.2, ⟨hk.1.2.2.1, hk.1.2.2.2⟩⟩⟩⟩ | (simp [hk]; done))), fun _ => (by (with_reducible repeat (first | apply Kd.R_alloc | apply Kd.R_drewN | apply Kd.R_drew)); exact Kd.R_mono HO247.out (fun _ hk => by first | exact ⟨hk.1.1, ⟨hk.1.2.1, ⟨hk.2, ⟨hk.1.2.2.1, hk.1.2.2.2⟩⟩⟩⟩ | (simp [hk]; done))), z_HO251, fun _ _ => (by (with_reducible repeat (first | apply Kd.R_alloc | apply Kd.R_drewN | apply Kd.R_drew)); exact Kd.R_mono HO254.out (fun _ hk => by first | exact ⟨hk.1.1.1.1.2, ⟨hk.1.1.1.2, ⟨hk.1.1.2, ⟨hk.1.2, hk.2⟩⟩⟩⟩ | (simp [hk]; done))), fun h0_ => absurd ((hoff 22 (by kernel_rfl)).symm.trans h0_) (by decide)⟩
                refine steps_cons ?_ ?_
                · rintro b a w' ⟨v238, v242, v246, v250, v253, v256, ha, Q_BK235, Q_BK236, Q_HB, Q_HO239, Q_HO243, Q_HO247, Q_HO251, Q_HO254, Q_HO257⟩ hb_ hon hoff
                  refine ⟨_, rfl, fun K hK => ?_⟩
                  have e50 : a.tmps[50]? = some (v250) := by rw [ha]; exact putSel_on (e := (19, 50, v250)) 17 rfl rfl (hon 19 (by kernel_rfl)) rfl
                  have e52 : a.tmps[52]? = some (v253) := by rw [ha]; exact putSel_on (e := (21, 52, v253)) 19 rfl rfl (hon 21 (by kernel_rfl)) rfl
                  have e48 : a.tmps[48]? = some (.bool (!false)) := by rw [ha]; exact putSel_on (e := (17, 48, .bool (!false))) 15 rfl rfl (hon 17 (by kernel_rfl)) rfl
                  replace ha := Aside0.mk ha
                  have BK235 := Aside0.mk Q_BK235
                  have BK236 := Aside0.mk Q_BK236
                  have HB := Aside0.mk Q_HB
                  have HO239 := Aside0.mk (Q_HO239 (hon 1 (by kernel_rfl)))
                  have HO243 := Aside0.mk (Q_HO243 (hon 5 (by kernel_rfl)))
                  have HO247 := Aside0.mk (Q_HO247 (hon 12 (by kernel_rfl)))
                  have HO251 := Aside0.mk (Q_HO251 (hon 19 (by kernel_rfl)) hb_)
                  have HO254 := Aside0.mk (Q_HO254 (hon 21 (by kernel_rfl)) hb_)
                  obtain ⟨Ao61, co61, eo61⟩ := Kd.R_slice HO251.out
                  (first | subst eo61 | (injection eo61 with f1_ f2_ f3_; have f4_ := f1_.symm; have f5_ := f3_.symm; clear f1_ f2_ f3_; subst f4_; subst f5_))
                  obtain ⟨Ao62, co62, eo62⟩ := Kd.R_slice HO254.out
                  (first | subst eo62 | (injection eo62 with f1_ f2_ f3_; have f4_ := f1_.symm; have f5_ := f3_.symm; clear f1_ f2_ f3_; subst f4_; subst f5_))
                  refine Kd.N_lit_step (Kd.slice 30 k30) _ 41 ?hg (N' := 53) ?hd (xs := ([y249, y252] : List (List (S30)))) (inner := [.slice Ao61 y249.length co61, .slice Ao62 y252.length co62]) (ok := (fun k_ => k_ ≠ gb235 ∧ k_ ≠ gb236)) (okp := (fun k_ => k_ ≠ gb235 ∧ k_ ≠ gb236)) ?hr ?hp (fun _ hk => hk) ((show ∀ k_, w'.heap.size ≤ k_ → (fun k_ => k_ ≠ gb235 ∧ k_ ≠ gb236) k_ from fun k_ hk => ⟨Kd.freshB (g := gb235) (o := .cells #[.int .i64 0, .string a0, .string a1] 30 (0, 0)) (by (with_reducible repeat (first | refine blk_drewN ?_ _ | refine blk_drew ?_ | refine blk_alloc ?_ _)); exact BK235.out) k_ hk, Kd.freshB (g := gb236) (o := .cells #[.int .i64 1, .string a0, .string a1] 30 (0, 0)) (by (with_reducible repeat (first | refine blk_drewN ?_ _ | refine blk_drew ?_ | refine blk_alloc ?_ _)); exact BK236.out) k_ hk⟩) _ (Nat.le_refl _)) (Below.refl _ _) (Nat.le_refl _) (by simp) ?_; (case hd => rfl); (case hg => first | rfl | exact wanted_on rfl rfl rfl (e34.trans (by first | rfl | (simp [*]; done))) | exact wanted_on rfl rfl rfl (e38.trans (by first | rfl | (simp [*]; done))) | exact wanted_on rfl rfl rfl (e39.trans (by first | rfl | (simp [*]; done))) | exact wanted_on rfl rfl rfl (e40.trans (by first | rfl | (simp [*]; done))) | exact wanted_on rfl rfl rfl (e45.trans (by first | rfl | (simp [*]; done))) | exact wanted_on rfl rfl rfl (e46.trans (by first | rfl | (simp [*]; done))) | exact wanted_on rfl rfl rfl (e47.trans (by first | rfl | (simp [*]; done))) | exact wanted_on rfl rfl rfl (e48.trans (by first | rfl | (simp [*]; done))) | exact wanted_on rfl rfl rfl (e55.trans (by first | rfl | (simp [*]; done))) | exact wanted_on rfl rfl rfl (e56.trans (by first | rfl | (simp [*]; done)))); (case hr => first | (go_simp; done) | (go_simp; rfl)); (case hp => exact (Reps.one (show Kd.FK (Kd.slice 30 k30) _ _ y249 [.slice Ao61 y249.length co61] from (Kd.FK_slice_mk (Kd.R_reads' (Kd.R_mono (ok' := (fun k_ => k_ ≠ gb235 ∧ k_ ≠ gb236)) (HO251.out) (fun k_ hk => by first | exact ⟨hk.1, ⟨hk.2.1, ⟨hk.2.2.1, ⟨hk.2.2.2.2.1, hk.2.2.2.2.2⟩⟩⟩⟩ | (simp [hk]; done)))).2.1 (Kd.R_F (Kd.R_mono (ok' := (fun k_ => k_ ≠ gb235 ∧ k_ ≠ gb236)) (HO251.out) (fun k_ hk => by first | exact ⟨hk.1, ⟨hk.2.1, ⟨hk.2.2.1, ⟨hk.2.2.2.2.1, hk.2.2.2.2.2⟩⟩⟩⟩ | (simp [hk]; done)))))) (Reps.one (show Kd.FK (Kd.slice 30 k30) _ _ y252 [.slice Ao62 y252.length co62] from (Kd.FK_slice_mk (Kd.R_reads' (Kd.R_mono (ok' := (fun k_ => k_ ≠ gb235 ∧ k_ ≠ gb236)) (HO254.out) (fun k_ hk => by first | exact ⟨hk.1, ⟨hk.2.1, ⟨hk.2.2.1, ⟨hk.2.2.2.2.1, hk.2.2.2.2.2⟩⟩⟩⟩ | (simp [hk]; done)))).2.1 (Kd.R_F (Kd.R_mono (ok' := (fun k_ => k_ ≠ gb235 ∧ k_ ≠ gb236)) (HO254.out) (fun k_ hk => by first | exact ⟨hk.1, ⟨hk.2.1, ⟨hk.2.2.1, ⟨hk.2.2.2.2.1, hk.2.2.2.2.2⟩⟩⟩⟩ | (simp [hk]; done)))))) (Reps.none _ _))))
                  intro v256 w63 ho64 hb hg_ hnew_
                  clear hg_ hnew_
                  (first | rw [← Ny255.out] at ho64 | (simp only [Int.reduceToNat] at ho64; rw [← Ny255.out] at ho64))
                  have n0_ := Aside0.mk (Kd.R_below (by (with_reducible repeat (first | apply Kd.R_alloc | apply Kd.R_drewN | apply Kd.R_drew)); exact HO239.out) hb)
                  have n1_ := Aside0.mk (Kd.R_below (by (with_reducible repeat (first | apply Kd.R_alloc | apply Kd.R_drewN | apply Kd.R_drew)); exact HO243.out) hb)
                  have n2_ := Aside0.mk (Kd.R_below (by (with_reducible repeat (first | apply Kd.R_alloc | apply Kd.R_drewN | apply Kd.R_drew)); exact HO247.out) hb)
                  have n3_ := Aside0.mk (Kd.N_lower ho64 (below_size (by repeat (first | (with_reducible first | exact HB.out | apply below_alloc | apply pw_below_drewN | apply below_drew1 | refine below_set ?_ GE235.out | refine below_set ?_ GE236.out) | exact HB.out))))
                  have n4_ := Aside0.mk (blk_below (g := gb235) (o := .cells #[.int .i64 0, .string a0, .string a1] 30 (0, 0)) (by (with_reducible repeat (first | refine blk_drewN ?_ _ | refine blk_drew ?_ | refine blk_alloc ?_ _)); exact BK235.out) hb)
                  have n5_ := Aside0.mk (blk_below (g := gb236) (o := .cells #[.int .i64 1, .string a0, .string a1] 30 (0, 0)) (by (with_reducible repeat (first | refine blk_drewN ?_ _ | refine blk_drew ?_ | refine blk_alloc ?_ _)); exact BK236.out) hb)
                  have n6_ := Aside0.mk (below_step (by repeat (first | (with_reducible first | exact HB.out | apply below_alloc | apply pw_below_drewN | apply below_drew1 | refine below_set ?_ GE235.out | refine below_set ?_ GE236.out) | exact HB.out)) hb)
                  clear HO239
                  clear HO243
                  clear HO247
                  clear BK235
                  clear BK236
                  clear HB
                  clear HO251
                  clear HO254
                  have HO239 := n0_
                  have HO243 := n1_
                  have HO247 := n2_
                  have HO257 := n3_
                  have BK235 := n4_
                  have BK236 := n5_
                  have HB := n6_
                  clear n0_ n1_ n2_ n3_ n4_ n5_ n6_
                  clear hb ho64
                  refine hK.out _ _ ⟨v238, v242, v246, .slice Ao61 y249.length co61, .slice Ao62 y252.length co62, v256, (by rw [ha.out]; exact putSel_upk 20 hb_ rfl rfl rfl), (by (with_reducible repeat (first | refine blk_drewN ?_ _ | refine blk_drew ?_ | refine blk_alloc ?_ _)); exact BK235.out), (by (with_reducible repeat (first | refine blk_drewN ?_ _ | refine blk_drew ?_ | refine blk_alloc ?_ _)); exact BK236.out), (by repeat (first | (with_reducible first | exact HB.out | apply below_alloc | apply pw_below_drewN | apply below_drew1 | refine below_set ?_ GE235.out | refine below_set ?_ GE236.out) | exact HB.out)), fun _ => (by (with_reducible repeat (first | apply Kd.R_alloc | apply Kd.R_drewN | apply Kd.R_drew)); exact Kd.R_mono HO239.out (fun _ hk => by first | exact ⟨hk.1, ⟨hk.2.1, ⟨hk.2.2.2.2.1, hk.2.2.2.2.2⟩⟩⟩ | (simp [hk]; done))), fun _ => (by (with_reducible repeat (first | apply Kd.R_alloc | apply Kd.R_drewN | apply Kd.R_drew)); exact Kd.R_mono HO243.out (fun _ hk => by first | exact ⟨hk.1, ⟨hk.2.1, ⟨hk.2.2.2.2.1, hk.2.2.2.2.2⟩⟩⟩ | (simp [hk]; done))), fun _ => (by (with_reducible repeat (first | apply Kd.R_alloc | apply Kd.R_drewN | apply Kd.R_drew)); exact Kd.R_mono HO247.out (fun _ hk => by first | exact ⟨hk.1, ⟨hk.2.1, ⟨hk.2.2.2.2.1, hk.2.2.2.2.2⟩⟩⟩ | (simp [hk]; done))), fun _ h1_ => absurd ((up_self b 22).symm.trans h1_) (by decide), fun _ h1_ => absurd ((up_self b 22).symm.trans h1_) (by decide), fun _ => (by (with_reducible repeat (first | apply Kd.N_alloc | apply Kd.N_drewN | apply Kd.N_drew)); exact HO257.out)⟩
                refine steps_cons ?_ ?_
                · rintro b a w' ⟨v238, v242, v246, v250, v253, v256, ha, Q_BK235, Q_BK236, Q_HB, Q_HO239, Q_HO243, Q_HO247, Q_HO251, Q_HO254, Q_HO257⟩ hb_ hon hoff
                  refine ⟨_, rfl, fun K hK => ?_⟩
                  have e2 : a.tmps[2]? = some (.slice A2 l2.length c2) := by rw [ha]; exact (putSel_off rfl).trans rfl
                  have e48 : a.tmps[48]? = some (.bool (!false)) := by rw [ha]; exact putSel_on (e := (17, 48, .bool (!false))) 15 rfl rfl (hon 17 (by kernel_rfl)) rfl
                  replace ha := Aside0.mk ha
                  have BK235 := Aside0.mk Q_BK235
                  have BK236 := Aside0.mk Q_BK236
                  have HB := Aside0.mk Q_HB
                  have HO239 := Aside0.mk (Q_HO239 (hon 1 (by kernel_rfl)))
                  have HO243 := Aside0.mk (Q_HO243 (hon 5 (by kernel_rfl)))
                  have HO247 := Aside0.mk (Q_HO247 (hon 12 (by kernel_rfl)))
                  refine value_ (w1 := w') (v := .slice A2 l2.length c2) (wanted_on rfl rfl rfl (e48.trans (by first | rfl | (simp [*]; done) | (simp [*, q_isEmpty]; done)))) rfl ?_ ?_
                  · go_simp
                    (try simp only [i64_w])
                    try rfl
                  refine hK.out _ _ ⟨v238, v242, v246, v250, v253, v256, (by rw [ha.out]; exact putSel_upk 21 hb_ rfl rfl rfl), Q_BK235, Q_BK236, Q_HB, Q_HO239, Q_HO243, Q_HO247, Q_HO251, Q_HO254, Q_HO257⟩
                refine steps_cons ?_ ?_
                · rintro b a w' ⟨v238, v242, v246, v250, v253, v256, ha, Q_BK235, Q_BK236, Q_HB, Q_HO239, Q_HO243, Q_HO247, Q_HO251, Q_HO254, Q_HO257⟩ hb_ hon hoff
                  refine ⟨_, rfl, fun K hK => ?_⟩
                  have e53 : a.tmps[53]? = some (v256) := by rw [ha]; exact putSel_on (e := (22, 53, v256)) 20 rfl rfl (hon 22 (by kernel_rfl)) rfl
                  have e54 : a.tmps[54]? = some (.slice A2 l2.length c2) := by rw [ha]; exact putSel_on (e := (23, 54, .slice A2 l2.length c2)) 21 rfl rfl (hon 23 (by kernel_rfl)) rfl
                  have e48 : a.tmps[48]? = some (.bool (!false)) := by rw [ha]; exact putSel_on (e := (17, 48, .bool (!false))) 15 rfl rfl (hon 17 (by kernel_rfl)) rfl
                  replace ha := Aside0.mk ha
                  have BK235 := Aside0.mk Q_BK235
                  have BK236 := Aside0.mk Q_BK236
                  have HB := Aside0.mk Q_HB
                  have HO239 := Aside0.mk (Q_HO239 (hon 1 (by kernel_rfl)))
                  have HO243 := Aside0.mk (Q_HO243 (hon 5 (by kernel_rfl)))
                  have HO247 := Aside0.mk (Q_HO247 (hon 12 (by kernel_rfl)))
                  have HO257 := Aside0.mk (Q_HO257 (hon 22 (by kernel_rfl)))
                  obtain ⟨Ao65, co65, eo65⟩ := Kd.N_slice HO257.out
                  (first | subst eo65 | (injection eo65 with f1_ f2_ f3_; have f4_ := f1_.symm; have f5_ := f3_.symm; clear f1_ f2_ f3_; subst f4_; subst f5_))
                  refine goes_ Try.func39 (by kernel_rfl) rfl #[.slice Ao65 y255.length co65, .slice A2 l2.length c2] (by first | rfl | exact wanted_on rfl rfl rfl (e34.trans (by first | rfl | (simp [*]; done))) | exact wanted_on rfl rfl rfl (e38.trans (by first | rfl | (simp [*]; done))) | exact wanted_on rfl rfl rfl (e39.trans (by first | rfl | (simp [*]; done))) | exact wanted_on rfl rfl rfl (e40.trans (by first | rfl | (simp [*]; done))) | exact wanted_on rfl rfl rfl (e45.trans (by first | rfl | (simp [*]; done))) | exact wanted_on rfl rfl rfl (e46.trans (by first | rfl | (simp [*]; done))) | exact wanted_on rfl rfl rfl (e47.trans (by first | rfl | (simp [*]; done))) | exact wanted_on rfl rfl rfl (e48.trans (by first | rfl | (simp [*]; done))) | exact wanted_on rfl rfl rfl (e55.trans (by first | rfl | (simp [*]; done))) | exact wanted_on rfl rfl rfl (e56.trans (by first | rfl | (simp [*]; done)))) rfl rfl (by first | (simp only [List.map_toArray, List.map_cons, List.map_nil, Act.eval, Array.getD_eq_getD_getElem?, Option.getD_some, e53, e54, e48]; done) | (simp only [List.map_toArray, List.map_cons, List.map_nil, Act.eval, Array.getD_eq_getD_getElem?, Option.getD_some, e53, e54, e48]; rfl)) ?_
                  with_reducible refine (impl_MatchAny.calls _ _ y255 _ _ l2 t258 _ ?side1 ?side2 ?side3 ?side4 A36.out).mono ?_
                  (case side1 => repeat (first | exact (Kd.N_reads' HO257.out).2.2 | (with_reducible refine Kd.C_alloc ?_ _) | (with_reducible refine Kd.C_drewN ?_ _) | (with_reducible refine Kd.C_drew ?_)))
                  (case side2 => exact (Kd.N_reads' HO257.out).2.1)
                  (case side3 => repeat (first | exact (Kd.C_below HR2.out HB.out) | (with_reducible refine Kd.C_alloc ?_ _) | (with_reducible refine Kd.C_drewN ?_ _) | (with_reducible refine Kd.C_drew ?_)))
                  (case side4 => exact HC2.out)
                  rintro e w66 ⟨rfl, hb⟩
                  refine ⟨_, rfl, ?_⟩
                  have n0_ := Aside0.mk (Kd.R_below (by (with_reducible repeat (first | apply Kd.R_alloc | apply Kd.R_drewN | apply Kd.R_drew)); exact HO239.out) hb)
                  have n1_ := Aside0.mk (Kd.R_below (by (with_reducible repeat (first | apply Kd.R_alloc | apply Kd.R_drewN | apply Kd.R_drew)); exact HO243.out) hb)
                  have n2_ := Aside0.mk (Kd.R_below (by (with_reducible repeat (first | apply Kd.R_alloc | apply Kd.R_drewN | apply Kd.R_drew)); exact HO247.out) hb)
                  have n3_ := Aside0.mk (Kd.N_below (by (with_reducible repeat (first | apply Kd.N_alloc | apply Kd.N_drewN | apply Kd.N_drew)); exact HO257.out) hb)
                  have n4_ := Aside0.mk (blk_below (g := gb235) (o := .cells #[.int .i64 0, .string a0, .string a1] 30 (0, 0)) (by (with_reducible repeat (first | refine blk_drewN ?_ _ | refine blk_drew ?_ | refine blk_alloc ?_ _)); exact BK235.out) hb)
                  have n5_ := Aside0.mk (blk_below (g := gb236) (o := .cells #[.int .i64 1, .string a0, .string a1] 30 (0, 0)) (by (with_reducible repeat (first | refine blk_drewN ?_ _ | refine blk_drew ?_ | refine blk_alloc ?_ _)); exact BK236.out) hb)
                  have n6_ := Aside0.mk (below_step (by repeat (first | (with_reducible first | exact HB.out | apply below_alloc | apply pw_below_drewN | apply below_drew1 | refine below_set ?_ GE235.out | refine below_set ?_ GE236.out) | exact HB.out)) hb)
                  clear HO239
                  clear HO243
                  clear HO247
                  clear HO257
                  clear BK235
                  clear BK236
                  clear HB
                  have HO239 := n0_
                  have HO243 := n1_
                  have HO247 := n2_
                  have HO257 := n3_
                  have BK235 := n4_
                  have BK236 := n5_
                  have HB := n6_
                  clear n0_ n1_ n2_ n3_ n4_ n5_ n6_
                  (try clear hb)
                  (try clear hb2)
                  (try clear hk)
                  (try clear hi)
                  refine hK.out _ _ ⟨v238, v242, v246, v250, v253, .slice Ao65 y255.length co65, (by rw [ha.out]; exact putSel_upk 22 hb_ rfl rfl rfl), (by (with_reducible repeat (first | refine blk_drewN ?_ _ | refine blk_drew ?_ | refine blk_alloc ?_ _)); exact BK235.out), (by (with_reducible repeat (first | refine blk_drewN ?_ _ | refine blk_drew ?_ | refine blk_alloc ?_ _)); exact BK236.out), (by repeat (first | (with_reducible first | exact HB.out | apply below_alloc | apply pw_below_drewN | apply below_drew1 | refine below_set ?_ GE235.out | refine below_set ?_ GE236.out) | exact HB.out)), fun _ => (by (with_reducible repeat (first | apply Kd.R_alloc | apply Kd.R_drewN | apply Kd.R_drew)); exact HO239.out), fun _ => (by (with_reducible repeat (first | apply Kd.R_alloc | apply Kd.R_drewN | apply Kd.R_drew)); exact HO243.out), fun _ => (by (with_reducible repeat (first | apply Kd.R_alloc | apply Kd.R_drewN | apply Kd.R_drew)); exact HO247.out), fun _ h1_ => absurd ((hon 22 (by kernel_rfl)).symm.trans h1_) (by decide), fun _ h1_ => absurd ((hon 22 (by kernel_rfl)).symm.trans h1_) (by decide), fun _ => (by (with_reducible repeat (first | apply Kd.N_alloc | apply Kd.N_drewN | apply Kd.N_drew)); exact HO257.out)⟩
                refine steps_cons ?_ ?_
                · rintro b a w' ⟨v238, v242, v246, v250, v253, v256, ha, Q_BK235, Q_BK236, Q_HB, Q_HO239, Q_HO243, Q_HO247, Q_HO251, Q_HO254, Q_HO257⟩ hb_ hon hoff
                  refine ⟨_, rfl, fun K hK => ?_⟩
                  have e48 : a.tmps[48]? = some (.bool (!false)) := by rw [ha]; exact putSel_on (e := (17, 48, .bool (!false))) 15 rfl rfl (hon 17 (by kernel_rfl)) rfl
                  have e55 : a.tmps[55]? = some (.bool t258) := by rw [ha]; exact putSel_on (e := (24, 55, .bool t258)) 22 rfl rfl (hon 24 (by kernel_rfl)) rfl
                  replace ha := Aside0.mk ha
                  have BK235 := Aside0.mk Q_BK235
                  have BK236 := Aside0.mk Q_BK236
                  have HB := Aside0.mk Q_HB
                  have HO239 := Aside0.mk (Q_HO239 (hon 1 (by kernel_rfl)))
                  have HO243 := Aside0.mk (Q_HO243 (hon 5 (by kernel_rfl)))
                  have HO247 := Aside0.mk (Q_HO247 (hon 12 (by kernel_rfl)))
                  have HO257 := Aside0.mk (Q_HO257 (hon 22 (by kernel_rfl)))
                  refine value_ (w1 := w') (v := .bool t258) (by rfl) rfl ?_ ?_
                  · go_simp
                    (try simp only [i64_w])
                    try rfl
                  refine hK.out _ _ ⟨v238, v242, v246, v250, v253, v256, (by rw [ha.out]; exact putSel_upk 23 hb_ rfl rfl rfl), Q_BK235, Q_BK236, Q_HB, Q_HO239, Q_HO243, Q_HO247, fun _ h1_ => absurd ((hon 22 (by kernel_rfl)).symm.trans h1_) (by decide), fun _ h1_ => absurd ((hon 22 (by kernel_rfl)).symm.trans h1_) (by decide), Q_HO257⟩
                refine steps_cons ?_ ?_
                · rintro b a w' ⟨v238, v242, v246, v250, v253, v256, ha, Q_BK235, Q_BK236, Q_HB, Q_HO239, Q_HO243, Q_HO247, Q_HO251, Q_HO254, Q_HO257⟩ hb_ hon hoff
                  refine ⟨_, rfl, fun K hK => ?_⟩
                  have e56 : a.tmps[56]? = some (.bool t258) := by rw [ha]; exact putSel_on (e := (25, 56, .bool t258)) 23 rfl rfl (hon 25 (by kernel_rfl)) rfl
                  replace ha := Aside0.mk ha
                  have BK235 := Aside0.mk Q_BK235
                  have BK236 := Aside0.mk Q_BK236
                  have HB := Aside0.mk Q_HB
                  have HO239 := Aside0.mk (Q_HO239 (hon 1 (by kernel_rfl)))
                  have HO243 := Aside0.mk (Q_HO243 (hon 5 (by kernel_rfl)))
                  have HO247 := Aside0.mk (Q_HO247 (hon 12 (by kernel_rfl)))
                  have HO257 := Aside0.mk (Q_HO257 (hon 22 (by kernel_rfl)))
                  refine value_ (w1 := w') (v := .bool t258) (by rfl) rfl ?_ ?_
                  · go_simp
                    (try simp only [i64_w])
                    try rfl
                  refine hK.out _ _ ⟨v238, v242, v246, v250, v253, v256, (by rw [ha.out]; exact putSel_upk 24 hb_ rfl rfl rfl), Q_BK235, Q_BK236, Q_HB, Q_HO239, Q_HO243, Q_HO247, fun _ h1_ => absurd ((hon 22 (by kernel_rfl)).symm.trans h1_) (by decide), fun _ h1_ => absurd ((hon 22 (by kernel_rfl)).symm.trans h1_) (by decide), Q_HO257⟩
                exact steps_nil
              rintro b a w66 hall ⟨v238, v242, v246, v250, v253, v256, ha, Q_BK235, Q_BK236, Q_HB, Q_HO239, Q_HO243, Q_HO247, Q_HO251, Q_HO254, Q_HO257⟩
              clear BK235 BK236 HB
              have hb0_ := hall 0 (by kernel_rfl)
              have hb1_ := hall 1 (by kernel_rfl)
              have hb3_ := hall 3 (by kernel_rfl)
              have hb4_ := hall 4 (by kernel_rfl)
              have hb5_ := hall 5 (by kernel_rfl)
              have hb7_ := hall 7 (by kernel_rfl)
              have hb8_ := hall 8 (by kernel_rfl)
              have hb9_ := hall 9 (by kernel_rfl)
              have hb10_ := hall 10 (by kernel_rfl)
              have hb11_ := hall 11 (by kernel_rfl)
              have hb12_ := hall 12 (by kernel_rfl)
              have hb13_ := hall 13 (by kernel_rfl)
              have hb14_ := hall 14 (by kernel_rfl)
              have hb15_ := hall 15 (by kernel_rfl)
              have hb16_ := hall 16 (by kernel_rfl)
              have hb17_ := hall 17 (by kernel_rfl)
              have hb18_ := hall 18 (by kernel_rfl)
              have hb19_ := hall 19 (by kernel_rfl)
              have hb20_ := hall 20 (by kernel_rfl)
              have hb21_ := hall 21 (by kernel_rfl)
              have hb22_ := hall 22 (by kernel_rfl)
              have hb23_ := hall 23 (by kernel_rfl)
              have hb24_ := hall 24 (by kernel_rfl)
              have hb25_ := hall 25 (by kernel_rfl)
              have hb26_ := hall 26 (by kernel_rfl)
              subst ha
              simp only [putSel, hb0_, hb1_, hb3_, hb4_, hb5_, hb7_, hb8_, hb9_, hb10_, hb11_, hb12_, hb13_, hb14_, hb15_, hb16_, hb17_, hb18_, hb19_, hb20_, hb21_, hb22_, hb23_, hb24_, hb25_, hb26_, if_true, Act.put, List.setIfInBounds_toArray, List.set_cons_zero, List.set_cons_succ]
              have BK235 := Aside0.mk Q_BK235
              clear Q_BK235
              have BK236 := Aside0.mk Q_BK236
              clear Q_BK236
              have HB := Aside0.mk Q_HB
              clear Q_HB
              have HO239 := Aside0.mk (Q_HO239 hb1_)
              clear Q_HO239
              have HO243 := Aside0.mk (Q_HO243 hb5_)
              clear Q_HO243
              have HO247 := Aside0.mk (Q_HO247 hb12_)
              clear Q_HO247
              clear Q_HO251
              clear Q_HO254
              have HO257 := Aside0.mk (Q_HO257 hb22_)
              clear Q_HO257
              clear hall hb0_ hb1_ hb3_ hb4_ hb5_ hb7_ hb8_ hb9_ hb10_ hb11_ hb12_ hb13_ hb14_ hb15_ hb16_ hb17_ hb18_ hb19_ hb20_ hb21_ hb22_ hb23_ hb24_ hb25_ hb26_
              try go_wp2
              go_ret
              exact ⟨by first | rfl | (simp [errW_none, errW_some] <;> rfl) | (simp [*, errW_none, errW_some] <;> rfl) | (simp [*, q_isEmpty]; done), by repeat (first | (with_reducible first | exact HB.out | apply below_alloc | apply pw_below_drewN | apply below_drew1 | refine below_set ?_ GE235.out | refine below_set ?_ GE236.out) | exact HB.out)⟩
          · rw [if_neg c13] at H
            have c13b0 : (t240 != t244) = false := by simpa using c13
            (try (have c13b1 : decide (t240 = t244) = true := by simpa using c13))
            (try (have c13b2 : (t240 == t244) = true := by simpa using c13))
            clear c13
            obtain rfl := Option.some.inj H
            try go_wp2_with (first | ((with_reducible refine gate_dst (N := 7) rfl ?_); (try (refine gate_guard (by rfl) ?_; dsimp only)); refine box_event ?hg (N := 7) ?hd (cs := #[.int .i64 0, .string (⟨#[]⟩ : ByteArray), .string (⟨#[]⟩ : ByteArray)]) (t := 30) ?hr ?_; (case hd => rfl); (case hg => first | rfl | exact wanted_on rfl rfl rfl (e34.trans (by first | rfl | (simp [*]; done))) | exact wanted_on rfl rfl rfl (e38.trans (by first | rfl | (simp [*]; done))) | exact wanted_on rfl rfl rfl (e39.trans (by first | rfl | (simp [*]; done))) | exact wanted_on rfl rfl rfl (e40.trans (by first | rfl | (simp [*]; done))) | exact wanted_on rfl rfl rfl (e45.trans (by first | rfl | (simp [*]; done))) | exact wanted_on rfl rfl rfl (e46.trans (by first | rfl | (simp [*]; done))) | exact wanted_on rfl rfl rfl (e47.trans (by first | rfl | (simp [*]; done))) | exact wanted_on rfl rfl rfl (e48.trans (by first | rfl | (simp [*]; done))) | exact wanted_on rfl rfl rfl (e55.trans (by first | rfl | (simp [*]; done))) | exact wanted_on rfl rfl rfl (e56.trans (by first | rfl | (simp [*]; done)))); (case hr => first | (go_simp; done) | (go_simp; rfl)); intro gb235 hg w67 hbox hb; have n0_ := Aside0.mk (below_step (by repeat (first | (with_reducible first | exact HB.out | apply below_alloc | apply pw_below_drewN | apply below_drew1) | exact HB.out)) hb); have n1_ := Aside0.mk (hbox); have n2_ := Aside0.mk ((by rw [hg]; exact (below_size (by repeat (first | (with_reducible first | exact HB.out | apply below_alloc | apply pw_below_drewN | apply below_drew1) | exact HB.out))) : w.heap.size ≤ gb235)); have n3_ := Aside0.mk ((by rw [hg]; exact (below_size (by repeat (first | (with_reducible first | exact HB.out | apply below_alloc | apply pw_below_drewN | apply below_drew1) | exact HB.out))) : w.heap.size ≤ gb235)); clear HB; have HB := n0_; have BK235 := n1_; have GW235 := n2_; have GE235 := n3_; clear n0_ n1_ n2_ n3_; clear hb hbox hg) | ((with_reducible refine gate_dst (N := 8) rfl ?_); (try (refine gate_guard (by rfl) ?_; dsimp only)); refine box_event ?hg (N := 8) ?hd (cs := #[.int .i64 0, .string (⟨#[]⟩ : ByteArray), .string (⟨#[]⟩ : ByteArray)]) (t := 30) ?hr ?_; (case hd => rfl); (case hg => first | rfl | exact wanted_on rfl rfl rfl (e34.trans (by first | rfl | (simp [*]; done))) | exact wanted_on rfl rfl rfl (e38.trans (by first | rfl | (simp [*]; done))) | exact wanted_on rfl rfl rfl (e39.trans (by first | rfl | (simp [*]; done))) | exact wanted_on rfl rfl rfl (e40.trans (by first | rfl | (simp [*]; done))) | exact wanted_on rfl rfl rfl (e45.trans (by first | rfl | (simp [*]; done))) | exact wanted_on rfl rfl rfl (e46.trans (by first | rfl | (simp [*]; done))) | exact wanted_on rfl rfl rfl (e47.trans (by first | rfl | (simp [*]; done))) | exact wanted_on rfl rfl rfl (e48.trans (by first | rfl | (simp [*]; done))) | exact wanted_on rfl rfl rfl (e55.trans (by first | rfl | (simp [*]; done))) | exact wanted_on rfl rfl rfl (e56.trans (by first | rfl | (simp [*]; done)))); (case hr => first | (go_simp; done) | (go_simp; rfl)); intro gb236 hg w68 hbox hb; have n0_ := Aside0.mk (blk_below (g := gb235) (o := .cells #[.int .i64 0, .string (⟨#[]⟩ : ByteArray), .string (⟨#[]⟩ : ByteArray)] 30 (0, 0)) (by (with_reducible repeat (first | refine blk_drewN ?_ _ | refine blk_drew ?_ | refine blk_alloc ?_ _)); exact BK235.out) hb); have n1_ := Aside0.mk (below_step (by repeat (first | (with_reducible first | exact HB.out | apply below_alloc | apply pw_below_drewN | apply below_drew1 | refine below_set ?_ GE235.out) | exact HB.out)) hb); have n2_ := Aside0.mk (hbox); have n3_ := Aside0.mk ((by rw [hg]; exact (below_size (by repeat (first | (with_reducible first | exact HB.out | apply below_alloc | apply pw_below_drewN | apply below_drew1 | refine below_set ?_ GE235.out) | exact HB.out))) : w.heap.size ≤ gb236)); have n4_ := Aside0.mk ((by rw [hg]; exact (below_size (by repeat (first | (with_reducible first | exact HB.out | apply below_alloc | apply pw_below_drewN | apply below_drew1 | refine below_set ?_ GE235.out) | exact HB.out))) : w.heap.size ≤ gb236)); have n5_ := Aside0.mk ((by rw [hg]; exact Nat.ne_of_lt (blk_lt (g := gb235) (o := .cells #[.int .i64 0, .string (⟨#[]⟩ : ByteArray), .string (⟨#[]⟩ : ByteArray)] 30 (0, 0)) (by (with_reducible repeat (first | refine blk_drewN ?_ _ | refine blk_drew ?_ | refine blk_alloc ?_ _)); exact BK235.out)) : gb235 ≠ gb236)); have n6_ := Aside0.mk ((by rw [hg]; exact Nat.ne_of_gt (blk_lt (g := gb235) (o := .cells #[.int .i64 0, .string (⟨#[]⟩ : ByteArray), .string (⟨#[]⟩ : ByteArray)] 30 (0, 0)) (by (with_reducible repeat (first | refine blk_drewN ?_ _ | refine blk_drew ?_ | refine blk_alloc ?_ _)); exact BK235.out)) : gb236 ≠ gb235)); clear BK235; clear HB; have BK235 := n0_; have HB := n1_; have BK236 := n2_; have GW236 := n3_; have GE236 := n4_; have NB235_236 := n5_; have NB236_235 := n6_; clear n0_ n1_ n2_ n3_ n4_ n5_ n6_; clear hb hbox hg; have hnb69 := NB235_236.out; have hnc69 := NB236_235.out; have hcz70_0 : w68.cell? ⟨gb235, 0, none⟩ = some (.int .i64 0) := (blk_cell BK235.out 0).trans rfl; have hcz70_1 : w68.cell? ⟨gb235, 1, none⟩ = some (.string (⟨#[]⟩ : ByteArray)) := (blk_cell BK235.out 1).trans rfl; have hcz70_2 : w68.cell? ⟨gb235, 2, none⟩ = some (.string (⟨#[]⟩ : ByteArray)) := (blk_cell BK235.out 2).trans rfl; have hfz70_0 := blk_frozen BK235.out 0; have hfz70_1 := blk_frozen BK235.out 1; have hfz70_2 := blk_frozen BK235.out 2; have hcz71_0 : w68.cell? ⟨gb236, 0, none⟩ = some (.int .i64 0) := (blk_cell BK236.out 0).trans rfl; have hcz71_1 : w68.cell? ⟨gb236, 1, none⟩ = some (.string (⟨#[]⟩ : ByteArray)) := (blk_cell BK236.out 1).trans rfl; have hcz71_2 : w68.cell? ⟨gb236, 2, none⟩ = some (.string (⟨#[]⟩ : ByteArray)) := (blk_cell BK236.out 2).trans rfl; have hfz71_0 := blk_frozen BK236.out 0; have hfz71_1 := blk_frozen BK236.out 1; have hfz71_2 := blk_frozen BK236.out 2))
            have n0_ : Aside0 (((((((w68.setCell ⟨gb235, 0, none⟩ (.int .i64 0)).setCell ⟨gb235, 1, none⟩ (.string a0)).setCell ⟨gb235, 2, none⟩ (.string a1)).setCell ⟨gb236, 0, none⟩ (.int .i64 1)).setCell ⟨gb236, 1, none⟩ (.string a0)).setCell ⟨gb236, 2, none⟩ (.string a1)).heap[gb235]? = some (.cells #[.int .i64 0, .string a0, .string a1] 30 (0, 0))) := ⟨by (with_reducible repeat (first | refine blk_drewN ?_ _ | refine blk_drew ?_ | refine blk_alloc ?_ _)); refine blk_far ?_ NB235_236.out _; (with_reducible repeat (first | refine blk_drewN ?_ _ | refine blk_drew ?_ | refine blk_alloc ?_ _)); refine blk_far ?_ NB235_236.out _; (with_reducible repeat (first | refine blk_drewN ?_ _ | refine blk_drew ?_ | refine blk_alloc ?_ _)); refine blk_far ?_ NB235_236.out _; (with_reducible repeat (first | refine blk_drewN ?_ _ | refine blk_drew ?_ | refine blk_alloc ?_ _)); refine blk_put (cs := #[.int .i64 0, .string a0, .string (⟨#[]⟩ : ByteArray)]) ?_ 2 _ rfl; (with_reducible repeat (first | refine blk_drewN ?_ _ | refine blk_drew ?_ | refine blk_alloc ?_ _)); refine blk_put (cs := #[.int .i64 0, .string (⟨#[]⟩ : ByteArray), .string (⟨#[]⟩ : ByteArray)]) ?_ 1 _ rfl; (with_reducible repeat (first | refine blk_drewN ?_ _ | refine blk_drew ?_ | refine blk_alloc ?_ _)); refine blk_put (cs := #[.int .i64 0, .string (⟨#[]⟩ : ByteArray), .string (⟨#[]⟩ : ByteArray)]) ?_ 0 _ rfl; (with_reducible repeat (first | refine blk_drewN ?_ _ | refine blk_drew ?_ | refine blk_alloc ?_ _)); exact BK235.out⟩
            have n1_ : Aside0 (((((((w68.setCell ⟨gb235, 0, none⟩ (.int .i64 0)).setCell ⟨gb235, 1, none⟩ (.string a0)).setCell ⟨gb235, 2, none⟩ (.string a1)).setCell ⟨gb236, 0, none⟩ (.int .i64 1)).setCell ⟨gb236, 1, none⟩ (.string a0)).setCell ⟨gb236, 2, none⟩ (.string a1)).heap[gb236]? = some (.cells #[.int .i64 1, .string a0, .string a1] 30 (0, 0))) := ⟨by (with_reducible repeat (first | refine blk_drewN ?_ _ | refine blk_drew ?_ | refine blk_alloc ?_ _)); refine blk_put (cs := #[.int .i64 1, .string a0, .string (⟨#[]⟩ : ByteArray)]) ?_ 2 _ rfl; (with_reducible repeat (first | refine blk_drewN ?_ _ | refine blk_drew ?_ | refine blk_alloc ?_ _)); refine blk_put (cs := #[.int .i64 1, .string (⟨#[]⟩ : ByteArray), .string (⟨#[]⟩ : ByteArray)]) ?_ 1 _ rfl; (with_reducible repeat (first | refine blk_drewN ?_ _ | refine blk_drew ?_ | refine blk_alloc ?_ _)); refine blk_put (cs := #[.int .i64 0, .string (⟨#[]⟩ : ByteArray), .string (⟨#[]⟩ : ByteArray)]) ?_ 0 _ rfl; (with_reducible repeat (first | refine blk_drewN ?_ _ | refine blk_drew ?_ | refine blk_alloc ?_ _)); refine blk_far ?_ NB236_235.out _; (with_reducible repeat (first | refine blk_drewN ?_ _ | refine blk_drew ?_ | refine blk_alloc ?_ _)); refine blk_far ?_ NB236_235.out _; (with_reducible repeat (first | refine blk_drewN ?_ _ | refine blk_drew ?_ | refine blk_alloc ?_ _)); refine blk_far ?_ NB236_235.out _; (with_reducible repeat (first | refine blk_drewN ?_ _ | refine blk_drew ?_ | refine blk_alloc ?_ _)); exact BK236.out⟩
            have n2_ : Aside0 (Below w.heap.size w ((((((w68.setCell ⟨gb235, 0, none⟩ (.int .i64 0)).setCell ⟨gb235, 1, none⟩ (.string a0)).setCell ⟨gb235, 2, none⟩ (.string a1)).setCell ⟨gb236, 0, none⟩ (.int .i64 1)).setCell ⟨gb236, 1, none⟩ (.string a0)).setCell ⟨gb236, 2, none⟩ (.string a1))) := ⟨by repeat (first | (with_reducible first | exact HB.out | apply below_alloc | apply pw_below_drewN | apply below_drew1 | refine below_set ?_ GE235.out | refine below_set ?_ GE236.out) | exact HB.out)⟩
            (try clear BK235)
            (try clear BK236)
            (try clear HB)
            generalize ((((((w68.setCell ⟨gb235, 0, none⟩ (.int .i64 0)).setCell ⟨gb235, 1, none⟩ (.string a0)).setCell ⟨gb235, 2, none⟩ (.string a1)).setCell ⟨gb236, 0, none⟩ (.int .i64 1)).setCell ⟨gb236, 1, none⟩ (.string a0)).setCell ⟨gb236, 2, none⟩ (.string a1)) = w72 at n0_ n1_ n2_ ⊢
            have BK235 := n0_
            have BK236 := n1_
            have HB := n2_
            clear n0_ n1_ n2_
            have n0_ := Aside0.mk (blk_drew BK235.out)
            have n1_ := Aside0.mk (blk_drew BK236.out)
            have n2_ := Aside0.mk (below_drew1 HB.out)
            clear BK235
            clear BK236
            clear HB
            have BK235 := n0_
            have BK236 := n1_
            have HB := n2_
            clear n0_ n1_ n2_
            refine start_ (n := 27) (S := fun w' => True) (ds := []) #[false, false, false, false, false, false, false, false, false, false, false, false, false, false, false, false, false, false, false, false, false, false, false, false, false, false, false] (by kernel_rfl) rfl rfl trivial (fun hHeld => ?_); refine with_tabW laws_FnMatchDuals.tab6 laws_FnMatchDuals.bits6 (fun HT_ HW_ => ?_)
            generalize w72.drew = w73 at BK235 BK236 HB hHeld ⊢
            refine pure_ (i := 2) (N := some 33) (v := ?_) (a' := ?_) #[false, false, true, false, false, false, false, false, false, false, false, false, false, false, false, false, false, false, false, false, false, false, false, false, false, false, false] rfl rfl (any_of HT_.out (by kernel_rfl)) (fun _ _ _ h => h) (Or.inl ⟨by rfl, ?_⟩) ?_ ?_
            rotate_left
            · intro w'
              go_simp
              with_reducible rfl
            rotate_left
            · simp only [Act.put, List.setIfInBounds_toArray, List.set_cons_zero, List.set_cons_succ, i64_w, i32_w]
              rfl
            refine pure_ (i := 6) (N := some 37) (v := ?_) (a' := ?_) #[false, false, true, false, false, false, true, false, false, false, false, false, false, false, false, false, false, false, false, false, false, false, false, false, false, false, false] rfl rfl (any_of HT_.out (by kernel_rfl)) (fun _ _ _ h => h) (Or.inl ⟨by rfl, ?_⟩) ?_ ?_
            rotate_left
            · intro w'
              go_simp
              with_reducible rfl
            rotate_left
            · simp only [Act.put, List.setIfInBounds_toArray, List.set_cons_zero, List.set_cons_succ, i64_w, i32_w]
              rfl
            refine inv_at [0, 1, 3, 4, 5, 7, 8, 9, 10, 11, 12, 13, 14, 15, 16, 17, 18, 19, 20, 21, 22, 23, 24, 25, 26] (fun a0_ b a w' => ∃ (v238 : Value) (v242 : Value), a = putSel a0_ b [(0, 31, .agg #[.int .i64 0, .string a0, .string a1]), (1, 32, v238), (3, 34, .bool t240), (4, 35, .agg #[.int .i64 1, .string a0, .string a1]), (5, 36, v242), (7, 38, .bool t244), (8, 39, .bool (t240 != t244)), (9, 40, .bool (t240 != t244)), (10, 41, undef), (11, 42, undef), (12, 43, undef), (13, 44, undef), (14, 45, undef), (15, 46, undef), (16, 47, .bool false), (17, 48, .bool false), (18, 49, undef), (19, 50, undef), (20, 51, undef), (21, 52, undef), (22, 53, undef), (23, 54, undef), (24, 55, undef), (25, 56, .bool false), (26, 6, .bool false)] ∧ (w'.heap[gb235]? = some (.cells #[.int .i64 0, .string a0, .string a1] 30 (0, 0))) ∧ (w'.heap[gb236]? = some (.cells #[.int .i64 1, .string a0, .string a1] 30 (0, 0))) ∧ (Below w.heap.size w w') ∧ (b 1 = true → Kd.R k30 30 w' w.heap.size (fun k_ => k_ ≠ gb235 ∧ k_ ≠ gb236) v238 y237) ∧ (b 5 = true → Kd.R k30 30 w' w.heap.size (fun k_ => k_ ≠ gb235 ∧ k_ ≠ gb236) v242 y241)) HT_.out HW_.out (by kernel_rfl) (by kernel_rfl) ?_ ?_ ?_
            · exact ⟨.bool false, .bool false, by simp only [putSel, Bool.false_eq_true, if_false], BK235.out, BK236.out, HB.out, fun h_ => absurd h_ (by decide), fun h_ => absurd h_ (by decide)⟩
            · skip
              clear BK235 BK236 HB
              refine steps_cons ?_ ?_
              · rintro b a w' ⟨v238, v242, ha, Q_BK235, Q_BK236, Q_HB, Q_HO239, Q_HO243⟩ hb_ hon hoff
                refine ⟨_, rfl, fun K hK => ?_⟩
                have e7 : a.tmps[7]? = some (.pointer (some ⟨gb235, 0, none⟩)) := by rw [ha]; exact (putSel_off rfl).trans rfl
                replace ha := Aside0.mk ha
                have BK235 := Aside0.mk Q_BK235
                have BK236 := Aside0.mk Q_BK236
                have HB := Aside0.mk Q_HB
                have hc0_ : w'.cell? ⟨gb235, 0, none⟩ = some (.int .i64 0) := (blk_cell BK235.out 0).trans rfl
                have hc1_ : w'.cell? ⟨gb235, 1, none⟩ = some (.string a0) := (blk_cell BK235.out 1).trans rfl
                have hc2_ : w'.cell? ⟨gb235, 2, none⟩ = some (.string a1) := (blk_cell BK235.out 2).trans rfl
                refine value_ (w1 := w') (v := .agg #[.int .i64 0, .string a0, .string a1]) (by rfl) rfl ?_ ?_
                · go_simp
                  (try simp only [i64_w])
                  try rfl
                refine hK.out _ _ ⟨v238, v242, (by rw [ha.out]; exact putSel_upk 0 hb_ rfl rfl rfl), Q_BK235, Q_BK236, Q_HB, fun h0_ => absurd ((hoff 1 (by kernel_rfl)).symm.trans h0_) (by decide), Q_HO243⟩
              refine steps_cons ?_ ?_
              · rintro b a w' ⟨v238, v242, ha, Q_BK235, Q_BK236, Q_HB, Q_HO239, Q_HO243⟩ hb_ hon hoff
                refine ⟨_, rfl, fun K hK => ?_⟩
                have e31 : a.tmps[31]? = some (.agg #[.int .i64 0, .string a0, .string a1]) := by rw [ha]; exact putSel_on (e := (0, 31, .agg #[.int .i64 0, .string a0, .string a1])) 0 rfl rfl (hon 0 (by kernel_rfl)) rfl
                replace ha := Aside0.mk ha
                have BK235 := Aside0.mk Q_BK235
                have BK236 := Aside0.mk Q_BK236
                have HB := Aside0.mk Q_HB
                refine Kd.R_lit_step k30 _ 30 ?hg (N := 32) ?hd (xs := ([(⟨0, a0, a1⟩ : S30)] : List (S30))) (inner := [.int .i64 0, .string a0, .string a1]) (ok := fun _ => True) (okp := fun _ => True) ?hr ?hp (fun _ hk => hk) trivial (Below.refl _ _) (Nat.le_refl _) (by simp) ?_; (case hd => rfl); (case hg => first | rfl | exact wanted_on rfl rfl rfl (e34.trans (by first | rfl | (simp [*]; done))) | exact wanted_on rfl rfl rfl (e38.trans (by first | rfl | (simp [*]; done))) | exact wanted_on rfl rfl rfl (e39.trans (by first | rfl | (simp [*]; done))) | exact wanted_on rfl rfl rfl (e40.trans (by first | rfl | (simp [*]; done))) | exact wanted_on rfl rfl rfl (e45.trans (by first | rfl | (simp [*]; done))) | exact wanted_on rfl rfl rfl (e46.trans (by first | rfl | (simp [*]; done))) | exact wanted_on rfl rfl rfl (e47.trans (by first | rfl | (simp [*]; done))) | exact wanted_on rfl rfl rfl (e48.trans (by first | rfl | (simp [*]; done))) | exact wanted_on rfl rfl rfl (e55.trans (by first | rfl | (simp [*]; done))) | exact wanted_on rfl rfl rfl (e56.trans (by first | rfl | (simp [*]; done)))); (case hr => first | (go_simp; done) | (go_simp; rfl)); (case hp => exact (Reps.c3 (show Kd.M k30 _ _ _ (⟨0, a0, a1⟩ : S30) [.int .i64 0, .string a0, .string a1] from (k30_mkM _ _ _ (⟨0, a0, a1⟩ : S30) )) (Reps.none _ _)))
                intro v238 w74 ho75 hb hg_ hnew_
                clear hg_ hnew_
                (first | rw [← Ny237.out] at ho75 | (simp only [Int.reduceToNat] at ho75; rw [← Ny237.out] at ho75))
                have n0_ := Aside0.mk (Kd.R_lower (Kd.R_newB (Kd.R_newB ho75 (g := gb235) (o := .cells #[.int .i64 0, .string a0, .string a1] 30 (0, 0)) (by (with_reducible repeat (first | refine blk_drewN ?_ _ | refine blk_drew ?_ | refine blk_alloc ?_ _)); exact BK235.out)) (g := gb236) (o := .cells #[.int .i64 1, .string a0, .string a1] 30 (0, 0)) (by (with_reducible repeat (first | refine blk_drewN ?_ _ | refine blk_drew ?_ | refine blk_alloc ?_ _)); exact BK236.out)) (below_size (by repeat (first | (with_reducible first | exact HB.out | apply below_alloc | apply pw_below_drewN | apply below_drew1 | refine below_set ?_ GE235.out | refine below_set ?_ GE236.out) | exact HB.out))))
                have n1_ := Aside0.mk (blk_below (g := gb235) (o := .cells #[.int .i64 0, .string a0, .string a1] 30 (0, 0)) (by (with_reducible repeat (first | refine blk_drewN ?_ _ | refine blk_drew ?_ | refine blk_alloc ?_ _)); exact BK235.out) hb)
                have n2_ := Aside0.mk (blk_below (g := gb236) (o := .cells #[.int .i64 1, .string a0, .string a1] 30 (0, 0)) (by (with_reducible repeat (first | refine blk_drewN ?_ _ | refine blk_drew ?_ | refine blk_alloc ?_ _)); exact BK236.out) hb)
                have n3_ := Aside0.mk (below_step (by repeat (first | (with_reducible first | exact HB.out | apply below_alloc | apply pw_below_drewN | apply below_drew1 | refine below_set ?_ GE235.out | refine below_set ?_ GE236.out) | exact HB.out)) hb)
                have z_HO243 := fun (h0_ : b 5 = true) => (show Kd.R k30 30 w74 w.heap.size (fun k_ => k_ ≠ gb235 ∧ k_ ≠ gb236) v242 y241 from by first | exact (Kd.R_elder' (by (with_reducible repeat (first | apply Kd.R_alloc | apply Kd.R_drewN | apply Kd.R_drew)); exact (Q_HO243 h0_)) (Kd.R_base ho75) hb) | exact Kd.R_mono (Kd.R_elder' (by (with_reducible repeat (first | apply Kd.R_alloc | apply Kd.R_drewN | apply Kd.R_drew)); exact (Q_HO243 h0_)) (Kd.R_base ho75) hb) (fun _ h_ => by first | trivial | exact h_ | exact h_.1))
                clear BK235
                clear BK236
                clear HB
                have HO239 := n0_
                have BK235 := n1_
                have BK236 := n2_
                have HB := n3_
                clear n0_ n1_ n2_ n3_
                clear hb ho75
                refine hK.out _ _ ⟨v238, v242, (by rw [ha.out]; exact putSel_upk 1 hb_ rfl rfl rfl), (by (with_reducible repeat (first | refine blk_drewN ?_ _ | refine blk_drew ?_ | refine blk_alloc ?_ _)); exact BK235.out), (by (with_reducible repeat (first | refine blk_drewN ?_ _ | refine blk_drew ?_ | refine blk_alloc ?_ _)); exact BK236.out), (by repeat (first | (with_reducible first | exact HB.out | apply below_alloc | apply pw_below_drewN | apply below_drew1 | refine below_set ?_ GE235.out | refine below_set ?_ GE236.out) | exact HB.out)), fun _ => (by (with_reducible repeat (first | apply Kd.R_alloc | apply Kd.R_drewN | apply Kd.R_drew)); exact Kd.R_mono HO239.out (fun _ hk => by first | exact ⟨hk.1.2, hk.2⟩ | (simp [hk]; done))), z_HO243⟩
              refine steps_cons ?_ ?_
              · rintro b a w' ⟨v238, v242, ha, Q_BK235, Q_BK236, Q_HB, Q_HO239, Q_HO243⟩ hb_ hon hoff
                refine ⟨_, rfl, fun K hK => ?_⟩
                have e32 : a.tmps[32]? = some (v238) := by rw [ha]; exact putSel_on (e := (1, 32, v238)) 1 rfl rfl (hon 1 (by kernel_rfl)) rfl
                have e33 : a.tmps[33]? = some (.slice A2 l2.length c2) := by rw [ha]; exact (putSel_off rfl).trans rfl
                replace ha := Aside0.mk ha
                have BK235 := Aside0.mk Q_BK235
                have BK236 := Aside0.mk Q_BK236
                have HB := Aside0.mk Q_HB
                have HO239 := Aside0.mk (Q_HO239 (hon 1 (by kernel_rfl)))
                obtain ⟨Ao77, co77, eo77⟩ := Kd.R_slice HO239.out
                (first | subst eo77 | (injection eo77 with f1_ f2_ f3_; have f4_ := f1_.symm; have f5_ := f3_.symm; clear f1_ f2_ f3_; subst f4_; subst f5_))
                refine goes_ Try.func38 (by kernel_rfl) rfl #[.slice Ao77 y237.length co77, .slice A2 l2.length c2] (by first | rfl | exact wanted_on rfl rfl rfl (e34.trans (by first | rfl | (simp [*]; done))) | exact wanted_on rfl rfl rfl (e38.trans (by first | rfl | (simp [*]; done))) | exact wanted_on rfl rfl rfl (e39.trans (by first | rfl | (simp [*]; done))) | exact wanted_on rfl rfl rfl (e40.trans (by first | rfl | (simp [*]; done))) | exact wanted_on rfl rfl rfl (e45.trans (by first | rfl | (simp [*]; done))) | exact wanted_on rfl rfl rfl (e46.trans (by first | rfl | (simp [*]; done))) | exact wanted_on rfl rfl rfl (e47.trans (by first | rfl | (simp [*]; done))) | exact wanted_on rfl rfl rfl (e48.trans (by first | rfl | (simp [*]; done))) | exact wanted_on rfl rfl rfl (e55.trans (by first | rfl | (simp [*]; done))) | exact wanted_on rfl rfl rfl (e56.trans (by first | rfl | (simp [*]; done)))) rfl rfl (by first | (simp only [List.map_toArray, List.map_cons, List.map_nil, Act.eval, Array.getD_eq_getD_getElem?, Option.getD_some, e32, e33]; done) | (simp only [List.map_toArray, List.map_cons, List.map_nil, Act.eval, Array.getD_eq_getD_getElem?, Option.getD_some, e32, e33]; rfl)) ?_
                with_reducible refine (impl_MatchAll.calls _ _ y237 _ _ l2 t240 _ ?side1 ?side2 ?side3 ?side4 A11.out).mono ?_
                (case side1 => repeat (first | exact (Kd.R_reads' HO239.out).2.2 | (with_reducible refine Kd.C_alloc ?_ _) | (with_reducible refine Kd.C_drewN ?_ _) | (with_reducible refine Kd.C_drew ?_)))
                (case side2 => exact (Kd.R_reads' HO239.out).2.1)
                (case side3 => repeat (first | exact (Kd.C_below HR2.out HB.out) | (with_reducible refine Kd.C_alloc ?_ _) | (with_reducible refine Kd.C_drewN ?_ _) | (with_reducible refine Kd.C_drew ?_)))
                (case side4 => exact HC2.out)
                rintro e w78 ⟨rfl, hb⟩
                refine ⟨_, rfl, ?_⟩
                have n0_ := Aside0.mk (Kd.R_below (by (with_reducible repeat (first | apply Kd.R_alloc | apply Kd.R_drewN | apply Kd.R_drew)); exact HO239.out) hb)
                have n1_ := Aside0.mk (blk_below (g := gb235) (o := .cells #[.int .i64 0, .string a0, .string a1] 30 (0, 0)) (by (with_reducible repeat (first | refine blk_drewN ?_ _ | refine blk_drew ?_ | refine blk_alloc ?_ _)); exact BK235.out) hb)
                have n2_ := Aside0.mk (blk_below (g := gb236) (o := .cells #[.int .i64 1, .string a0, .string a1] 30 (0, 0)) (by (with_reducible repeat (first | refine blk_drewN ?_ _ | refine blk_drew ?_ | refine blk_alloc ?_ _)); exact BK236.out) hb)
                have n3_ := Aside0.mk (below_step (by repeat (first | (with_reducible first | exact HB.out | apply below_alloc | apply pw_below_drewN | apply below_drew1 | refine below_set ?_ GE235.out | refine below_set ?_ GE236.out) | exact HB.out)) hb)
                have z_HO243 := fun (h0_ : b 5 = true) => (show Kd.R k30 30 w78 w.heap.size (fun k_ => k_ ≠ gb235 ∧ k_ ≠ gb236) v242 y241 from by first | exact (Kd.R_below (by (with_reducible repeat (first | apply Kd.R_alloc | apply Kd.R_drewN | apply Kd.R_drew)); exact (Q_HO243 h0_)) hb) | exact Kd.R_mono (Kd.R_below (by (with_reducible repeat (first | apply Kd.R_alloc | apply Kd.R_drewN | apply Kd.R_drew)); exact (Q_HO243 h0_)) hb) (fun _ h_ => by first | trivial | exact h_ | exact h_.1))
                clear HO239
                clear BK235
                clear BK236
                clear HB
                have HO239 := n0_
                have BK235 := n1_
                have BK236 := n2_
                have HB := n3_
                clear n0_ n1_ n2_ n3_
                (try clear hb)
                (try clear hb2)
                (try clear hk)
                (try clear hi)
                refine hK.out _ _ ⟨.slice Ao77 y237.length co77, v242, (by rw [ha.out]; exact putSel_upk 2 hb_ rfl rfl rfl), (by (with_reducible repeat (first | refine blk_drewN ?_ _ | refine blk_drew ?_ | refine blk_alloc ?_ _)); exact BK235.out), (by (with_reducible repeat (first | refine blk_drewN ?_ _ | refine blk_drew ?_ | refine blk_alloc ?_ _)); exact BK236.out), (by repeat (first | (with_reducible first | exact HB.out | apply below_alloc | apply pw_below_drewN | apply below_drew1 | refine below_set ?_ GE235.out | refine below_set ?_ GE236.out) | exact HB.out)), fun _ => (by (with_reducible repeat (first | apply Kd.R_alloc | apply Kd.R_drewN | apply Kd.R_drew)); exact HO239.out), z_HO243⟩
              refine steps_cons ?_ ?_
              · rintro b a w' ⟨v238, v242, ha, Q_BK235, Q_BK236, Q_HB, Q_HO239, Q_HO243⟩ hb_ hon hoff
                refine ⟨_, rfl, fun K hK => ?_⟩
                have e8 : a.tmps[8]? = some (.pointer (some ⟨gb236, 0, none⟩)) := by rw [ha]; exact (putSel_off rfl).trans rfl
                replace ha := Aside0.mk ha
                have BK235 := Aside0.mk Q_BK235
                have BK236 := Aside0.mk Q_BK236
                have HB := Aside0.mk Q_HB
                have hc0_ : w'.cell? ⟨gb236, 0, none⟩ = some (.int .i64 1) := (blk_cell BK236.out 0).trans rfl
                have hc1_ : w'.cell? ⟨gb236, 1, none⟩ = some (.string a0) := (blk_cell BK236.out 1).trans rfl
                have hc2_ : w'.cell? ⟨gb236, 2, none⟩ = some (.string a1) := (blk_cell BK236.out 2).trans rfl
                refine value_ (w1 := w') (v := .agg #[.int .i64 1, .string a0, .string a1]) (by rfl) rfl ?_ ?_
                · go_simp
                  (try simp only [i64_w])
                  try rfl
                refine hK.out _ _ ⟨v238, v242, (by rw [ha.out]; exact putSel_upk 3 hb_ rfl rfl rfl), Q_BK235, Q_BK236, Q_HB, Q_HO239, fun h0_ => absurd ((hoff 5 (by kernel_rfl)).symm.trans h0_) (by decide)⟩
              refine steps_cons ?_ ?_
              · rintro b a w' ⟨v238, v242, ha, Q_BK235, Q_BK236, Q_HB, Q_HO239, Q_HO243⟩ hb_ hon hoff
                refine ⟨_, rfl, fun K hK => ?_⟩
                have e35 : a.tmps[35]? = some (.agg #[.int .i64 1, .string a0, .string a1]) := by rw [ha]; exact putSel_on (e := (4, 35, .agg #[.int .i64 1, .string a0, .string a1])) 3 rfl rfl (hon 4 (by kernel_rfl)) rfl
                replace ha := Aside0.mk ha
                have BK235 := Aside0.mk Q_BK235
                have BK236 := Aside0.mk Q_BK236
                have HB := Aside0.mk Q_HB
                refine Kd.R_lit_step k30 _ 30 ?hg (N := 36) ?hd (xs := ([(⟨1, a0, a1⟩ : S30)] : List (S30))) (inner := [.int .i64 1, .string a0, .string a1]) (ok := fun _ => True) (okp := fun _ => True) ?hr ?hp (fun _ hk => hk) trivial (Below.refl _ _) (Nat.le_refl _) (by simp) ?_; (case hd => rfl); (case hg => first | rfl | exact wanted_on rfl rfl rfl (e34.trans (by first | rfl | (simp [*]; done))) | exact wanted_on rfl rfl rfl (e38.trans (by first | rfl | (simp [*]; done))) | exact wanted_on rfl rfl rfl (e39.trans (by first | rfl | (simp [*]; done))) | exact wanted_on rfl rfl rfl (e40.trans (by first | rfl | (simp [*]; done))) | exact wanted_on rfl rfl rfl (e45.trans (by first | rfl | (simp [*]; done))) | exact wanted_on rfl rfl rfl (e46.trans (by first | rfl | (simp [*]; done))) | exact wanted_on rfl rfl rfl (e47.trans (by first | rfl | (simp [*]; done))) | exact wanted_on rfl rfl rfl (e48.trans (by first | rfl | (simp [*]; done))) | exact wanted_on rfl rfl rfl (e55.trans (by first | rfl | (simp [*]; done))) | exact wanted_on rfl rfl rfl (e56.trans (by first | rfl | (simp [*]; done)))); (case hr => first | (go_simp; done) | (go_simp; rfl)); (case hp => exact (Reps.c3 (show Kd.M k30 _ _ _ (⟨1, a0, a1⟩ : S30) [.int .i64 1, .string a0, .string a1] from (k30_mkM _ _ _ (⟨1, a0, a1⟩ : S30) )) (Reps.none _ _)))
                intro v242 w74 ho75 hb hg_ hnew_
                clear hg_ hnew_
                (first | rw [← Ny241.out] at ho75 | (simp only [Int.reduceToNat] at ho75; rw [← Ny241.out] at ho75))
                have n0_ := Aside0.mk (Kd.R_lower (Kd.R_newB (Kd.R_newB ho75 (g := gb235) (o := .cells #[.int .i64 0, .string a0, .string a1] 30 (0, 0)) (by (with_reducible repeat (first | refine blk_drewN ?_ _ | refine blk_drew ?_ | refine blk_alloc ?_ _)); exact BK235.out)) (g := gb236) (o := .cells #[.int .i64 1, .string a0, .string a1] 30 (0, 0)) (by (with_reducible repeat (first | refine blk_drewN ?_ _ | refine blk_drew ?_ | refine blk_alloc ?_ _)); exact BK236.out)) (below_size (by repeat (first | (with_reducible first | exact HB.out | apply below_alloc | apply pw_below_drewN | apply below_drew1 | refine below_set ?_ GE235.out | refine below_set ?_ GE236.out) | exact HB.out))))
                have n1_ := Aside0.mk (blk_below (g := gb235) (o := .cells #[.int .i64 0, .string a0, .string a1] 30 (0, 0)) (by (with_reducible repeat (first | refine blk_drewN ?_ _ | refine blk_drew ?_ | refine blk_alloc ?_ _)); exact BK235.out) hb)
                have n2_ := Aside0.mk (blk_below (g := gb236) (o := .cells #[.int .i64 1, .string a0, .string a1] 30 (0, 0)) (by (with_reducible repeat (first | refine blk_drewN ?_ _ | refine blk_drew ?_ | refine blk_alloc ?_ _)); exact BK236.out) hb)
                have n3_ := Aside0.mk (below_step (by repeat (first | (with_reducible first | exact HB.out | apply below_alloc | apply pw_below_drewN | apply below_drew1 | refine below_set ?_ GE235.out | refine below_set ?_ GE236.out) | exact HB.out)) hb)
                have z_HO239 := fun (h0_ : b 1 = true) => (show Kd.R k30 30 w74 w.heap.size (fun k_ => k_ ≠ gb235 ∧ k_ ≠ gb236) v238 y237 from by first | exact (Kd.R_elder' (by (with_reducible repeat (first | apply Kd.R_alloc | apply Kd.R_drewN | apply Kd.R_drew)); exact (Q_HO239 h0_)) (Kd.R_base ho75) hb) | exact Kd.R_mono (Kd.R_elder' (by (with_reducible repeat (first | apply Kd.R_alloc | apply Kd.R_drewN | apply Kd.R_drew)); exact (Q_HO239 h0_)) (Kd.R_base ho75) hb) (fun _ h_ => by first | trivial | exact h_ | exact h_.1))
                clear BK235
                clear BK236
                clear HB
                have HO243 := n0_
                have BK235 := n1_
                have BK236 := n2_
                have HB := n3_
                clear n0_ n1_ n2_ n3_
                clear hb ho75
                refine hK.out _ _ ⟨v238, v242, (by rw [ha.out]; exact putSel_upk 4 hb_ rfl rfl rfl), (by (with_reducible repeat (first | refine blk_drewN ?_ _ | refine blk_drew ?_ | refine blk_alloc ?_ _)); exact BK235.out), (by (with_reducible repeat (first | refine blk_drewN ?_ _ | refine blk_drew ?_ | refine blk_alloc ?_ _)); exact BK236.out), (by repeat (first | (with_reducible first | exact HB.out | apply below_alloc | apply pw_below_drewN | apply below_drew1 | refine below_set ?_ GE235.out | refine below_set ?_ GE236.out) | exact HB.out)), z_HO239, fun _ => (by (with_reducible repeat (first | apply Kd.R_alloc | apply Kd.R_drewN | apply Kd.R_drew)); exact Kd.R_mono HO243.out (fun _ hk => by first | exact ⟨hk.1.2, hk.2⟩ | (simp [hk]; done)))⟩
              refine steps_cons ?_ ?_
              · rintro b a w' ⟨v238, v242, ha, Q_BK235, Q_BK236, Q_HB, Q_HO239, Q_HO243⟩ hb_ hon hoff
                refine ⟨_, rfl, fun K hK => ?_⟩
                have e36 : a.tmps[36]? = some (v242) := by rw [ha]; exact putSel_on (e := (5, 36, v242)) 4 rfl rfl (hon 5 (by kernel_rfl)) rfl
                have e37 : a.tmps[37]? = some (.slice A2 l2.length c2) := by rw [ha]; exact (putSel_off rfl).trans rfl
                replace ha := Aside0.mk ha
                have BK235 := Aside0.mk Q_BK235
                have BK236 := Aside0.mk Q_BK236
                have HB := Aside0.mk Q_HB
                have HO239 := Aside0.mk (Q_HO239 (hon 1 (by kernel_rfl)))
                have HO243 := Aside0.mk (Q_HO243 (hon 5 (by kernel_rfl)))
                obtain ⟨Ao81, co81, eo81⟩ := Kd.R_slice HO243.out
                (first | subst eo81 | (injection eo81 with f1_ f2_ f3_; have f4_ := f1_.symm; have f5_ := f3_.symm; clear f1_ f2_ f3_; subst f4_; subst f5_))
                refine goes_ Try.func38 (by kernel_rfl) rfl #[.slice Ao81 y241.length co81, .slice A2 l2.length c2] (by first | rfl | exact wanted_on rfl rfl rfl (e34.trans (by first | rfl | (simp [*]; done))) | exact wanted_on rfl rfl rfl (e38.trans (by first | rfl | (simp [*]; done))) | exact wanted_on rfl rfl rfl (e39.trans (by first | rfl | (simp [*]; done))) | exact wanted_on rfl rfl rfl (e40.trans (by first | rfl | (simp [*]; done))) | exact wanted_on rfl rfl rfl (e45.trans (by first | rfl | (simp [*]; done))) | exact wanted_on rfl rfl rfl (e46.trans (by first | rfl | (simp [*]; done))) | exact wanted_on rfl rfl rfl (e47.trans (by first | rfl | (simp [*]; done))) | exact wanted_on rfl rfl rfl (e48.trans (by first | rfl | (simp [*]; done))) | exact wanted_on rfl rfl rfl (e55.trans (by first | rfl | (simp [*]; done))) | exact wanted_on rfl rfl rfl (e56.trans (by first | rfl | (simp [*]; done)))) rfl rfl (by first | (simp only [List.map_toArray, List.map_cons, List.map_nil, Act.eval, Array.getD_eq_getD_getElem?, Option.getD_some, e36, e37]; done) | (simp only [List.map_toArray, List.map_cons, List.map_nil, Act.eval, Array.getD_eq_getD_getElem?, Option.getD_some, e36, e37]; rfl)) ?_
                with_reducible refine (impl_MatchAll.calls _ _ y241 _ _ l2 t244 _ ?side1 ?side2 ?side3 ?side4 A12.out).mono ?_
                (case side1 => repeat (first | exact (Kd.R_reads' HO243.out).2.2 | (with_reducible refine Kd.C_alloc ?_ _) | (with_reducible refine Kd.C_drewN ?_ _) | (with_reducible refine Kd.C_drew ?_)))
                (case side2 => exact (Kd.R_reads' HO243.out).2.1)
                (case side3 => repeat (first | exact (Kd.C_below HR2.out HB.out) | (with_reducible refine Kd.C_alloc ?_ _) | (with_reducible refine Kd.C_drewN ?_ _) | (with_reducible refine Kd.C_drew ?_)))
                (case side4 => exact HC2.out)
                rintro e w82 ⟨rfl, hb⟩
                refine ⟨_, rfl, ?_⟩
                have n0_ := Aside0.mk (Kd.R_below (by (with_reducible repeat (first | apply Kd.R_alloc | apply Kd.R_drewN | apply Kd.R_drew)); exact HO239.out) hb)
                have n1_ := Aside0.mk (Kd.R_below (by (with_reducible repeat (first | apply Kd.R_alloc | apply Kd.R_drewN | apply Kd.R_drew)); exact HO243.out) hb)
                have n2_ := Aside0.mk (blk_below (g := gb235) (o := .cells #[.int .i64 0, .string a0, .string a1] 30 (0, 0)) (by (with_reducible repeat (first | refine blk_drewN ?_ _ | refine blk_drew ?_ | refine blk_alloc ?_ _)); exact BK235.out) hb)
                have n3_ := Aside0.mk (blk_below (g := gb236) (o := .cells #[.int .i64 1, .string a0, .string a1] 30 (0, 0)) (by (with_reducible repeat (first | refine blk_drewN ?_ _ | refine blk_drew ?_ | refine blk_alloc ?_ _)); exact BK236.out) hb)
                have n4_ := Aside0.mk (below_step (by repeat (first | (with_reducible first | exact HB.out | apply below_alloc | apply pw_below_drewN | apply below_drew1 | refine below_set ?_ GE235.out | refine below_set ?_ GE236.out) | exact HB.out)) hb)
                clear HO239
                clear HO243
                clear BK235
                clear BK236
                clear HB
                have HO239 := n0_
                have HO243 := n1_
                have BK235 := n2_
                have BK236 := n3_
                have HB := n4_
                clear n0_ n1_ n2_ n3_ n4_
                (try clear hb)
                (try clear hb2)
                (try clear hk)
                (try clear hi)
                refine hK.out _ _ ⟨v238, .slice Ao81 y241.length co81, (by rw [ha.out]; exact putSel_upk 5 hb_ rfl rfl rfl), (by (with_reducible repeat (first | refine blk_drewN ?_ _ | refine blk_drew ?_ | refine blk_alloc ?_ _)); exact BK235.out), (by (with_reducible repeat (first | refine blk_drewN ?_ _ | refine blk_drew ?_ | refine blk_alloc ?_ _)); exact BK236.out), (by repeat (first | (with_reducible first | exact HB.out | apply below_alloc | apply pw_below_drewN | apply below_drew1 | refine below_set ?_ GE235.out | refine below_set ?_ GE236.out) | exact HB.out)), fun _ => (by (with_reducible repeat (first | apply Kd.R_alloc | apply Kd.R_drewN | apply Kd.R_drew)); exact HO239.out), fun _ => (by (with_reducible repeat (first | apply Kd.R_alloc | apply Kd.R_drewN | apply Kd.R_drew)); exact HO243.out)⟩
              refine steps_cons ?_ ?_
              · rintro b a w' ⟨v238, v242, ha, Q_BK235, Q_BK236, Q_HB, Q_HO239, Q_HO243⟩ hb_ hon hoff
                refine ⟨_, rfl, fun K hK => ?_⟩
                have e34 : a.tmps[34]? = some (.bool t240) := by rw [ha]; exact putSel_on (e := (3, 34, .bool t240)) 2 rfl rfl (hon 3 (by kernel_rfl)) rfl
                have e38 : a.tmps[38]? = some (.bool t244) := by rw [ha]; exact putSel_on (e := (7, 38, .bool t244)) 5 rfl rfl (hon 7 (by kernel_rfl)) rfl
                replace ha := Aside0.mk ha
                have BK235 := Aside0.mk Q_BK235
                have BK236 := Aside0.mk Q_BK236
                have HB := Aside0.mk Q_HB
                have HO239 := Aside0.mk (Q_HO239 (hon 1 (by kernel_rfl)))
                have HO243 := Aside0.mk (Q_HO243 (hon 5 (by kernel_rfl)))
                refine value_ (w1 := w') (v := .bool (t240 != t244)) (by rfl) rfl ?_ ?_
                · go_simp
                  (try simp only [i64_w])
                  try rfl
                refine hK.out _ _ ⟨v238, v242, (by rw [ha.out]; exact putSel_upk 6 hb_ rfl rfl rfl), Q_BK235, Q_BK236, Q_HB, Q_HO239, Q_HO243⟩
              refine steps_cons ?_ ?_
              · rintro b a w' ⟨v238, v242, ha, Q_BK235, Q_BK236, Q_HB, Q_HO239, Q_HO243⟩ hb_ hon hoff
                refine ⟨_, rfl, fun K hK => ?_⟩
                have e39 : a.tmps[39]? = some (.bool (t240 != t244)) := by rw [ha]; exact putSel_on (e := (8, 39, .bool (t240 != t244))) 6 rfl rfl (hon 8 (by kernel_rfl)) rfl
                replace ha := Aside0.mk ha
                have BK235 := Aside0.mk Q_BK235
                have BK236 := Aside0.mk Q_BK236
                have HB := Aside0.mk Q_HB
                have HO239 := Aside0.mk (Q_HO239 (hon 1 (by kernel_rfl)))
                have HO243 := Aside0.mk (Q_HO243 (hon 5 (by kernel_rfl)))
                refine value_ (w1 := w') (v := .bool (t240 != t244)) (by rfl) rfl ?_ ?_
                · go_simp
                  (try simp only [i64_w])
                  try rfl
                refine hK.out _ _ ⟨v238, v242, (by rw [ha.out]; exact putSel_upk 7 hb_ rfl rfl rfl), Q_BK235, Q_BK236, Q_HB, Q_HO239, Q_HO243⟩
              refine steps_cons ?_ ?_
              · rintro b a w' ⟨v238, v242, ha, Q_BK235, Q_BK236, Q_HB, Q_HO239, Q_HO243⟩ hb_ hon hoff
                refine ⟨_, rfl, fun K hK => ?_⟩
                have e40 : a.tmps[40]? = some (.bool (t240 != t244)) := by rw [ha]; exact putSel_on (e := (9, 40, .bool (t240 != t244))) 7 rfl rfl (hon 9 (by kernel_rfl)) rfl
                replace ha := Aside0.mk ha
                have BK235 := Aside0.mk Q_BK235
                have BK236 := Aside0.mk Q_BK236
                have HB := Aside0.mk Q_HB
                have HO239 := Aside0.mk (Q_HO239 (hon 1 (by kernel_rfl)))
                have HO243 := Aside0.mk (Q_HO243 (hon 5 (by kernel_rfl)))
                refine off_ (wanted_off rfl rfl rfl (e40.trans (by first | rfl | (simp [*]; done) | (simp [*, q_isEmpty]; done)))) ?_
                refine hK.out _ _ ⟨v238, v242, (by rw [ha.out]; exact putSel_upk 8 hb_ rfl rfl rfl), Q_BK235, Q_BK236, Q_HB, Q_HO239, Q_HO243⟩
              refine steps_cons ?_ ?_
              · rintro b a w' ⟨v238, v242, ha, Q_BK235, Q_BK236, Q_HB, Q_HO239, Q_HO243⟩ hb_ hon hoff
                refine ⟨_, rfl, fun K hK => ?_⟩
                have e40 : a.tmps[40]? = some (.bool (t240 != t244)) := by rw [ha]; exact putSel_on (e := (9, 40, .bool (t240 != t244))) 7 rfl rfl (hon 9 (by kernel_rfl)) rfl
                replace ha := Aside0.mk ha
                have BK235 := Aside0.mk Q_BK235
                have BK236 := Aside0.mk Q_BK236
                have HB := Aside0.mk Q_HB
                have HO239 := Aside0.mk (Q_HO239 (hon 1 (by kernel_rfl)))
                have HO243 := Aside0.mk (Q_HO243 (hon 5 (by kernel_rfl)))
                refine off_ (wanted_off rfl rfl rfl (e40.trans (by first | rfl | (simp [*]; done) | (simp [*, q_isEmpty]; done)))) ?_
                refine hK.out _ _ ⟨v238, v242, (by rw [ha.out]; exact putSel_upk 9 hb_ rfl rfl rfl), Q_BK235, Q_BK236, Q_HB, Q_HO239, Q_HO243⟩
              refine steps_cons ?_ ?_
              · rintro b a w' ⟨v238, v242, ha, Q_BK235, Q_BK236, Q_HB, Q_HO239, Q_HO243⟩ hb_ hon hoff
                refine ⟨_, rfl, fun K hK => ?_⟩
                have e40 : a.tmps[40]? = some (.bool (t240 != t244)) := by rw [ha]; exact putSel_on (e := (9, 40, .bool (t240 != t244))) 7 rfl rfl (hon 9 (by kernel_rfl)) rfl
                replace ha := Aside0.mk ha
                have BK235 := Aside0.mk Q_BK235
                have BK236 := Aside0.mk Q_BK236
                have HB := Aside0.mk Q_HB
                have HO239 := Aside0.mk (Q_HO239 (hon 1 (by kernel_rfl)))
                have HO243 := Aside0.mk (Q_HO243 (hon 5 (by kernel_rfl)))
                refine off_ (wanted_off rfl rfl rfl (e40.trans (by first | rfl | (simp [*]; done) | (simp [*, q_isEmpty]; done)))) ?_
                refine hK.out _ _ ⟨v238, v242, (by rw [ha.out]; exact putSel_upk 10 hb_ rfl rfl rfl), Q_BK235, Q_BK236, Q_HB, Q_HO239, Q_HO243⟩
              refine steps_cons ?_ ?_
              · rintro b a w' ⟨v238, v242, ha, Q_BK235, Q_BK236, Q_HB, Q_HO239, Q_HO243⟩ hb_ hon hoff
                refine ⟨_, rfl, fun K hK => ?_⟩
                have e40 : a.tmps[40]? = some (.bool (t240 != t244)) := by rw [ha]; exact putSel_on (e := (9, 40, .bool (t240 != t244))) 7 rfl rfl (hon 9 (by kernel_rfl)) rfl
                replace ha := Aside0.mk ha
                have BK235 := Aside0.mk Q_BK235
                have BK236 := Aside0.mk Q_BK236
                have HB := Aside0.mk Q_HB
                have HO239 := Aside0.mk (Q_HO239 (hon 1 (by kernel_rfl)))
                have HO243 := Aside0.mk (Q_HO243 (hon 5 (by kernel_rfl)))
                refine off_ (wanted_off rfl rfl rfl (e40.trans (by first | rfl | (simp [*]; done) | (simp [*, q_isEmpty]; done)))) ?_
                refine hK.out _ _ ⟨v238, v242, (by rw [ha.out]; exact putSel_upk 11 hb_ rfl rfl rfl), Q_BK235, Q_BK236, Q_HB, Q_HO239, Q_HO243⟩
              refine steps_cons ?_ ?_
              · rintro b a w' ⟨v238, v242, ha, Q_BK235, Q_BK236, Q_HB, Q_HO239, Q_HO243⟩ hb_ hon hoff
                refine ⟨_, rfl, fun K hK => ?_⟩
                have e40 : a.tmps[40]? = some (.bool (t240 != t244)) := by rw [ha]; exact putSel_on (e := (9, 40, .bool (t240 != t244))) 7 rfl rfl (hon 9 (by kernel_rfl)) rfl
                replace ha := Aside0.mk ha
                have BK235 := Aside0.mk Q_BK235
                have BK236 := Aside0.mk Q_BK236
                have HB := Aside0.mk Q_HB
                have HO239 := Aside0.mk (Q_HO239 (hon 1 (by kernel_rfl)))
                have HO243 := Aside0.mk (Q_HO243 (hon 5 (by kernel_rfl)))
                refine off_ (wanted_off rfl rfl rfl (e40.trans (by first | rfl | (simp [*]; done) | (simp [*, q_isEmpty]; done)))) ?_
                refine hK.out _ _ ⟨v238, v242, (by rw [ha.out]; exact putSel_upk 12 hb_ rfl rfl rfl), Q_BK235, Q_BK236, Q_HB, Q_HO239, Q_HO243⟩
              refine steps_cons ?_ ?_
              · rintro b a w' ⟨v238, v242, ha, Q_BK235, Q_BK236, Q_HB, Q_HO239, Q_HO243⟩ hb_ hon hoff
                refine ⟨_, rfl, fun K hK => ?_⟩
                have e40 : a.tmps[40]? = some (.bool (t240 != t244)) := by rw [ha]; exact putSel_on (e := (9, 40, .bool (t240 != t244))) 7 rfl rfl (hon 9 (by kernel_rfl)) rfl
                replace ha := Aside0.mk ha
                have BK235 := Aside0.mk Q_BK235
                have BK236 := Aside0.mk Q_BK236
                have HB := Aside0.mk Q_HB
                have HO239 := Aside0.mk (Q_HO239 (hon 1 (by kernel_rfl)))
                have HO243 := Aside0.mk (Q_HO243 (hon 5 (by kernel_rfl)))
                refine off_ (wanted_off rfl rfl rfl (e40.trans (by first | rfl | (simp [*]; done) | (simp [*, q_isEmpty]; done)))) ?_
                refine hK.out _ _ ⟨v238, v242, (by rw [ha.out]; exact putSel_upk 13 hb_ rfl rfl rfl), Q_BK235, Q_BK236, Q_HB, Q_HO239, Q_HO243⟩
              refine steps_cons ?_ ?_
              · rintro b a w' ⟨v238, v242, ha, Q_BK235, Q_BK236, Q_HB, Q_HO239, Q_HO243⟩ hb_ hon hoff
                refine ⟨_, rfl, fun K hK => ?_⟩
                have e40 : a.tmps[40]? = some (.bool (t240 != t244)) := by rw [ha]; exact putSel_on (e := (9, 40, .bool (t240 != t244))) 7 rfl rfl (hon 9 (by kernel_rfl)) rfl
                have e46 : a.tmps[46]? = some (undef) := by rw [ha]; exact putSel_on (e := (15, 46, undef)) 13 rfl rfl (hon 15 (by kernel_rfl)) rfl
                replace ha := Aside0.mk ha
                have BK235 := Aside0.mk Q_BK235
                have BK236 := Aside0.mk Q_BK236
                have HB := Aside0.mk Q_HB
                have HO239 := Aside0.mk (Q_HO239 (hon 1 (by kernel_rfl)))
                have HO243 := Aside0.mk (Q_HO243 (hon 5 (by kernel_rfl)))
                refine value_ (w1 := w') (v := .bool false) (by rfl) rfl ?_ ?_
                · go_simp
                  (try simp only [i64_w])
                  try rfl
                refine hK.out _ _ ⟨v238, v242, (by rw [ha.out]; exact putSel_upk 14 hb_ rfl rfl rfl), Q_BK235, Q_BK236, Q_HB, Q_HO239, Q_HO243⟩
              refine steps_cons ?_ ?_
              · rintro b a w' ⟨v238, v242, ha, Q_BK235, Q_BK236, Q_HB, Q_HO239, Q_HO243⟩ hb_ hon hoff
                refine ⟨_, rfl, fun K hK => ?_⟩
                have e47 : a.tmps[47]? = some (.bool false) := by rw [ha]; exact putSel_on (e := (16, 47, .bool false)) 14 rfl rfl (hon 16 (by kernel_rfl)) rfl
                replace ha := Aside0.mk ha
                have BK235 := Aside0.mk Q_BK235
                have BK236 := Aside0.mk Q_BK236
                have HB := Aside0.mk Q_HB
                have HO239 := Aside0.mk (Q_HO239 (hon 1 (by kernel_rfl)))
                have HO243 := Aside0.mk (Q_HO243 (hon 5 (by kernel_rfl)))
                refine value_ (w1 := w') (v := .bool false) (by rfl) rfl ?_ ?_
                · go_simp
                  (try simp only [i64_w])
                  try rfl
                refine hK.out _ _ ⟨v238, v242, (by rw [ha.out]; exact putSel_upk 15 hb_ rfl rfl rfl), Q_BK235, Q_BK236, Q_HB, Q_HO239, Q_HO243⟩
              refine steps_cons ?_ ?_
              · rintro b a w' ⟨v238, v242, ha, Q_BK235, Q_BK236, Q_HB, Q_HO239, Q_HO243⟩ hb_ hon hoff
                refine ⟨_, rfl, fun K hK => ?_⟩
                have e48 : a.tmps[48]? = some (.bool false) := by rw [ha]; exact putSel_on (e := (17, 48, .bool false)) 15 rfl rfl (hon 17 (by kernel_rfl)) rfl
                replace ha := Aside0.mk ha
                have BK235 := Aside0.mk Q_BK235
                have BK236 := Aside0.mk Q_BK236
                have HB := Aside0.mk Q_HB
                have HO239 := Aside0.mk (Q_HO239 (hon 1 (by kernel_rfl)))
                have HO243 := Aside0.mk (Q_HO243 (hon 5 (by kernel_rfl)))
                refine off_ (wanted_off rfl rfl rfl (e48.trans (by first | rfl | (simp [*]; done) | (simp [*, q_isEmpty]; done)))) ?_
                refine hK.out _ _ ⟨v238, v242, (by rw [ha.out]; exact putSel_upk 16 hb_ rfl rfl rfl), Q_BK235, Q_BK236, Q_HB, Q_HO239, Q_HO243⟩
              refine steps_cons ?_ ?_
              · rintro b a w' ⟨v238, v242, ha, Q_BK235, Q_BK236, Q_HB, Q_HO239, Q_HO243⟩ hb_ hon hoff
                refine ⟨_, rfl, fun K hK => ?_⟩
                have e48 : a.tmps[48]? = some (.bool false) := by rw [ha]; exact putSel_on (e := (17, 48, .bool false)) 15 rfl rfl (hon 17 (by kernel_rfl)) rfl
                replace ha := Aside0.mk ha
                have BK235 := Aside0.mk Q_BK235
                have BK236 := Aside0.mk Q_BK236
                have HB := Aside0.mk Q_HB
                have HO239 := Aside0.mk (Q_HO239 (hon 1 (by kernel_rfl)))
                have HO243 := Aside0.mk (Q_HO243 (hon 5 (by kernel_rfl)))
                refine off_ (wanted_off rfl rfl rfl (e48.trans (by first | rfl | (simp [*]; done) | (simp [*, q_isEmpty]; done)))) ?_
                refine hK.out _ _ ⟨v238, v242, (by rw [ha.out]; exact putSel_upk 17 hb_ rfl rfl rfl), Q_BK235, Q_BK236, Q_HB, Q_HO239, Q_HO243⟩
              refine steps_cons ?_ ?_
              · rintro b a w' ⟨v238, v242, ha, Q_BK235, Q_BK236, Q_HB, Q_HO239, Q_HO243⟩ hb_ hon hoff
                refine ⟨_, rfl, fun K hK => ?_⟩
                have e48 : a.tmps[48]? = some (.bool false) := by rw [ha]; exact putSel_on (e := (17, 48, .bool false)) 15 rfl rfl (hon 17 (by kernel_rfl)) rfl
                replace ha := Aside0.mk ha
                have BK235 := Aside0.mk Q_BK235
                have BK236 := Aside0.mk Q_BK236
                have HB := Aside0.mk Q_HB
                have HO239 := Aside0.mk (Q_HO239 (hon 1 (by kernel_rfl)))
                have HO243 := Aside0.mk (Q_HO243 (hon 5 (by kernel_rfl)))
                refine off_ (wanted_off rfl rfl rfl (e48.trans (by first | rfl | (simp [*]; done) | (simp [*, q_isEmpty]; done)))) ?_
                refine hK.out _ _ ⟨v238, v242, (by rw [ha.out]; exact putSel_upk 18 hb_ rfl rfl rfl), Q_BK235, Q_BK236, Q_HB, Q_HO239, Q_HO243⟩
              refine steps_cons ?_ ?_
              · rintro b a w' ⟨v238, v242, ha, Q_BK235, Q_BK236, Q_HB, Q_HO239, Q_HO243⟩ hb_ hon hoff
                refine ⟨_, rfl, fun K hK => ?_⟩
                have e48 : a.tmps[48]? = some (.bool false) := by rw [ha]; exact putSel_on (e := (17, 48, .bool false)) 15 rfl rfl (hon 17 (by kernel_rfl)) rfl
                replace ha := Aside0.mk ha
                have BK235 := Aside0.mk Q_BK235
                have BK236 := Aside0.mk Q_BK236
                have HB := Aside0.mk Q_HB
                have HO239 := Aside0.mk (Q_HO239 (hon 1 (by kernel_rfl)))
                have HO243 := Aside0.mk (Q_HO243 (hon 5 (by kernel_rfl)))
                refine off_ (wanted_off rfl rfl rfl (e48.trans (by first | rfl | (simp [*]; done) | (simp [*, q_isEmpty]; done)))) ?_
                refine hK.out _ _ ⟨v238, v242, (by rw [ha.out]; exact putSel_upk 19 hb_ rfl rfl rfl), Q_BK235, Q_BK236, Q_HB, Q_HO239, Q_HO243⟩
              refine steps_cons ?_ ?_
              · rintro b a w' ⟨v238, v242, ha, Q_BK235, Q_BK236, Q_HB, Q_HO239, Q_HO243⟩ hb_ hon hoff
                refine ⟨_, rfl, fun K hK => ?_⟩
                have e48 : a.tmps[48]? = some (.bool false) := by rw [ha]; exact putSel_on (e := (17, 48, .bool false)) 15 rfl rfl (hon 17 (by kernel_rfl)) rfl
                replace ha := Aside0.mk ha
                have BK235 := Aside0.mk Q_BK235
                have BK236 := Aside0.mk Q_BK236
                have HB := Aside0.mk Q_HB
                have HO239 := Aside0.mk (Q_HO239 (hon 1 (by kernel_rfl)))
                have HO243 := Aside0.mk (Q_HO243 (hon 5 (by kernel_rfl)))
                refine off_ (wanted_off rfl rfl rfl (e48.trans (by first | rfl | (simp [*]; done) | (simp [*, q_isEmpty]; done)))) ?_
                refine hK.out _ _ ⟨v238, v242, (by rw [ha.out]; exact putSel_upk 20 hb_ rfl rfl rfl), Q_BK235, Q_BK236, Q_HB, Q_HO239, Q_HO243⟩
              refine steps_cons ?_ ?_
              · rintro b a w' ⟨v238, v242, ha, Q_BK235, Q_BK236, Q_HB, Q_HO239, Q_HO243⟩ hb_ hon hoff
                refine ⟨_, rfl, fun K hK => ?_⟩
                have e48 : a.tmps[48]? = some (.bool false) := by rw [ha]; exact putSel_on (e := (17, 48, .bool false)) 15 rfl rfl (hon 17 (by kernel_rfl)) rfl
                replace ha := Aside0.mk ha
                have BK235 := Aside0.mk Q_BK235
                have BK236 := Aside0.mk Q_BK236
                have HB := Aside0.mk Q_HB
                have HO239 := Aside0.mk (Q_HO239 (hon 1 (by kernel_rfl)))
                have HO243 := Aside0.mk (Q_HO243 (hon 5 (by kernel_rfl)))
                refine off_ (wanted_off rfl rfl rfl (e48.trans (by first | rfl | (simp [*]; done) | (simp [*, q_isEmpty]; done)))) ?_
                refine hK.out _ _ ⟨v238, v242, (by rw [ha.out]; exact putSel_upk 21 hb_ rfl rfl rfl), Q_BK235, Q_BK236, Q_HB, Q_HO239, Q_HO243⟩
              refine steps_cons ?_ ?_
              · rintro b a w' ⟨v238, v242, ha, Q_BK235, Q_BK236, Q_HB, Q_HO239, Q_HO243⟩ hb_ hon hoff
                refine ⟨_, rfl, fun K hK => ?_⟩
                have e48 : a.tmps[48]? = some (.bool false) := by rw [ha]; exact putSel_on (e := (17, 48, .bool false)) 15 rfl rfl (hon 17 (by kernel_rfl)) rfl
                replace ha := Aside0.mk ha
                have BK235 := Aside0.mk Q_BK235
                have BK236 := Aside0.mk Q_BK236
                have HB := Aside0.mk Q_HB
                have HO239 := Aside0.mk (Q_HO239 (hon 1 (by kernel_rfl)))
                have HO243 := Aside0.mk (Q_HO243 (hon 5 (by kernel_rfl)))
                refine off_ (wanted_off rfl rfl rfl (e48.trans (by first | rfl | (simp [*]; done) | (simp [*, q_isEmpty]; done)))) ?_
                refine hK.out _ _ ⟨v238, v242, (by rw [ha.out]; exact putSel_upk 22 hb_ rfl rfl rfl), Q_BK235, Q_BK236, Q_HB, Q_HO239, Q_HO243⟩
              refine steps_cons ?_ ?_
              · rintro b a w' ⟨v238, v242, ha, Q_BK235, Q_BK236, Q_HB, Q_HO239, Q_HO243⟩ hb_ hon hoff
                refine ⟨_, rfl, fun K hK => ?_⟩
                have e48 : a.tmps[48]? = some (.bool false) := by rw [ha]; exact putSel_on (e := (17, 48, .bool false)) 15 rfl rfl (hon 17 (by kernel_rfl)) rfl
                have e55 : a.tmps[55]? = some (undef) := by rw [ha]; exact putSel_on (e := (24, 55, undef)) 22 rfl rfl (hon 24 (by kernel_rfl)) rfl
                replace ha := Aside0.mk ha
                have BK235 := Aside0.mk Q_BK235
                have BK236 := Aside0.mk Q_BK236
                have HB := Aside0.mk Q_HB
                have HO239 := Aside0.mk (Q_HO239 (hon 1 (by kernel_rfl)))
                have HO243 := Aside0.mk (Q_HO243 (hon 5 (by kernel_rfl)))
                refine value_ (w1 := w') (v := .bool false) (by rfl) rfl ?_ ?_
                · go_simp
                  (try simp only [i64_w])
                  try rfl
                refine hK.out _ _ ⟨v238, v242, (by rw [ha.out]; exact putSel_upk 23 hb_ rfl rfl rfl), Q_BK235, Q_BK236, Q_HB, Q_HO239, Q_HO243⟩
              refine steps_cons ?_ ?_
              · rintro b a w' ⟨v238, v242, ha, Q_BK235, Q_BK236, Q_HB, Q_HO239, Q_HO243⟩ hb_ hon hoff
                refine ⟨_, rfl, fun K hK => ?_⟩
                have e56 : a.tmps[56]? = some (.bool false) := by rw [ha]; exact putSel_on (e := (25, 56, .bool false)) 23 rfl rfl (hon 25 (by kernel_rfl)) rfl
                replace ha := Aside0.mk ha
                have BK235 := Aside0.mk Q_BK235
                have BK236 := Aside0.mk Q_BK236
                have HB := Aside0.mk Q_HB
                have HO239 := Aside0.mk (Q_HO239 (hon 1 (by kernel_rfl)))
                have HO243 := Aside0.mk (Q_HO243 (hon 5 (by kernel_rfl)))
                refine value_ (w1 := w') (v := .bool false) (by rfl) rfl ?_ ?_
                · go_simp
                  (try simp only [i64_w])
                  try rfl
                refine hK.out _ _ ⟨v238, v242, (by rw [ha.out]; exact putSel_upk 24 hb_ rfl rfl rfl), Q_BK235, Q_BK236, Q_HB, Q_HO239, Q_HO243⟩
              exact steps_nil
            rintro b a w82 hall ⟨v238, v242, ha, Q_BK235, Q_BK236, Q_HB, Q_HO239, Q_HO243⟩
            clear BK235 BK236 HB
            have hb0_ := hall 0 (by kernel_rfl)
            have hb1_ := hall 1 (by kernel_rfl)
            have hb3_ := hall 3 (by kernel_rfl)
            have hb4_ := hall 4 (by kernel_rfl)
            have hb5_ := hall 5 (by kernel_rfl)
            have hb7_ := hall 7 (by kernel_rfl)
            have hb8_ := hall 8 (by kernel_rfl)
            have hb9_ := hall 9 (by kernel_rfl)
            have hb10_ := hall 10 (by kernel_rfl)
            have hb11_ := hall 11 (by kernel_rfl)
            have hb12_ := hall 12 (by kernel_rfl)
            have hb13_ := hall 13 (by kernel_rfl)
            have hb14_ := hall 14 (by kernel_rfl)
            have hb15_ := hall 15 (by kernel_rfl)
            have hb16_ := hall 16 (by kernel_rfl)
            have hb17_ := hall 17 (by kernel_rfl)
            have hb18_ := hall 18 (by kernel_rfl)
            have hb19_ := hall 19 (by kernel_rfl)
            have hb20_ := hall 20 (by kernel_rfl)
            have hb21_ := hall 21 (by kernel_rfl)
            have hb22_ := hall 22 (by kernel_rfl)
            have hb23_ := hall 23 (by kernel_rfl)
            have hb24_ := hall 24 (by kernel_rfl)
            have hb25_ := hall 25 (by kernel_rfl)
            have hb26_ := hall 26 (by kernel_rfl)
            subst ha
            simp only [putSel, hb0_, hb1_, hb3_, hb4_, hb5_, hb7_, hb8_, hb9_, hb10_, hb11_, hb12_, hb13_, hb14_, hb15_, hb16_, hb17_, hb18_, hb19_, hb20_, hb21_, hb22_, hb23_, hb24_, hb25_, hb26_, if_true, Act.put, List.setIfInBounds_toArray, List.set_cons_zero, List.set_cons_succ]
            have BK235 := Aside0.mk Q_BK235
            clear Q_BK235
            have BK236 := Aside0.mk Q_BK236
            clear Q_BK236
            have HB := Aside0.mk Q_HB
            clear Q_HB
            have HO239 := Aside0.mk (Q_HO239 hb1_)
            clear Q_HO239
            have HO243 := Aside0.mk (Q_HO243 hb5_)
            clear Q_HO243
            clear hall hb0_ hb1_ hb3_ hb4_ hb5_ hb7_ hb8_ hb9_ hb10_ hb11_ hb12_ hb13_ hb14_ hb15_ hb16_ hb17_ hb18_ hb19_ hb20_ hb21_ hb22_ hb23_ hb24_ hb25_ hb26_
            try go_wp2
            go_ret
            exact ⟨by first | rfl | (simp [errW_none, errW_some] <;> rfl) | (simp [*, errW_none, errW_some] <;> rfl) | (simp [*, q_isEmpty]; done), by repeat (first | (with_reducible first | exact HB.out | apply below_alloc | apply pw_below_drewN | apply below_drew1 | refine below_set ?_ GE235.out | refine below_set ?_ GE236.out) | exact HB.out)⟩

end Go.Proofs.Ytbcijcmmpbkkbaa.Q
