-- Printed for this seat by wip/pp.py of this repo; nothing here is trusted: Lean checks it.
import Derived.Test.YtlpcbmgleecafaaDoorHTabLL
import Derived.Test.YtlpcbmgleecafaaDoorQ0
import Derived.Test.YtlpcbmgleecafaaDoorHTokens
import Derived.Test.YtlpcbmgleecafaaDoorHTokensP
import Derived.Test.YtlpcbmgleecafaaDoorQEq0
import Derived.Test.YtlpcbmgleecafaaDoorQlawslong
namespace Go.Proofs.YtlpcbmgleecafaaDoor.Q
open Go.RowKit Go.Proofs.YtlpcbmgleecafaaDoorW.PrintWords Go.Proofs.YtlpcbmgleecafaaDoorW.PrintLast Go.Proofs.YtlpcbmgleecafaaDoorW.PrintMore
attribute [local go_sem] max2_int min2_int max_two min_two max_three min_three max_four min_four   -- for this text's walks alone
set_option linter.unusedVariables false
set_option linter.unusedSimpArgs false

attribute [local go_sem high] eqA26
/-! ### laws_FnTokensPeeked: function 5 -/
mutual
def laws_FnTokensPeeked.j0 : Nat → ByteArray → List Bool → Bool → Option (Bool)
  | 0, _, _, _ => none
  | k + 1, x0, x1, x19 => if x19 = true then (some true) else ((impl_TokensPeeked.f (⟨#[123, 32, 97, 32, 125]⟩ : ByteArray) (([true] : List Bool))).bind fun bt166 => (if bt166.2 = true then (laws_FnTokensPeeked.j1 k x0 x1 ((bt166.1.length : Int) != 3)) else (laws_FnTokensPeeked.j1 k x0 x1 true)))
def laws_FnTokensPeeked.j1 : Nat → ByteArray → List Bool → Bool → Option (Bool)
  | 0, _, _, _ => none
  | k + 1, x0, x1, x31 => if x31 = true then (some false) else ((laws_long.f x0).bind fun t170 => (if t170 = true then (some true) else ((impl_Tokens.f x0).bind fun bt171 => ((impl_TokensPeeked.f x0 x1).bind fun bt175 => (if (bt171.2 != bt175.2) = true then (laws_FnTokensPeeked.j2 k bt171.1 bt175.1 true) else (laws_FnTokensPeeked.j2 k bt171.1 bt175.1 ((bt171.1.length : Int) != (bt175.1.length : Int))))))))
def laws_FnTokensPeeked.j2 : Nat → List (S26) → List (S26) → Bool → Option (Bool)
  | 0, _, _, _ => none
  | k + 1, x7, x9, x54 => if x54 = true then (some false) else (laws_FnTokensPeeked.l0 k x7 x9 (x7.length : Int) 0)
def laws_FnTokensPeeked.l0 : Nat → List (S26) → List (S26) → Int → Int → Option (Bool)
  | 0, _, _, _, _ => none
  | k + 1, x7, x9, x56, x57 => if x57 < x56 then (if 0 ≤ x57 then (if x57 < (x7.length : Int) then (if x57 < (x9.length : Int) then (if (!(((rd_T26 x7 x57).f0) == ((rd_T26 x9 x57).f0)) || (!((((rd_T26 x7 x57).f1).toList) == (((rd_T26 x9 x57).f1).toList)) || (!(((rd_T26 x7 x57).f2) == ((rd_T26 x9 x57).f2)) || (!(((rd_T26 x7 x57).f3) == ((rd_T26 x9 x57).f3)) || (!(((rd_T26 x7 x57).f4) == ((rd_T26 x9 x57).f4)) || (!(((rd_T26 x7 x57).f5) == ((rd_T26 x9 x57).f5)))))))) = true then (some false) else (laws_FnTokensPeeked.l0 k x7 x9 x56 (wrap64 (x57 + 1)))) else (none)) else (none)) else (none)) else (some true)
end
def laws_FnTokensPeeked.f (k : Nat) (a0 : ByteArray) (l1 : List Bool) : Option (Bool) := if (a0.size : Int) > 2147483647 then (laws_FnTokensPeeked.j0 k a0 l1 true) else (laws_FnTokensPeeked.j0 k a0 l1 (decide ((l1.length : Int) > 2147483647)))
theorem laws_FnTokensPeeked.mono_l : ∀ k, (∀ y0 y1 y2, LeO (laws_FnTokensPeeked.j0 k y0 y1 y2) (laws_FnTokensPeeked.j0 (k + 1) y0 y1 y2)) ∧ (∀ y0 y1 y2, LeO (laws_FnTokensPeeked.j1 k y0 y1 y2) (laws_FnTokensPeeked.j1 (k + 1) y0 y1 y2)) ∧ (∀ y0 y1 y2, LeO (laws_FnTokensPeeked.j2 k y0 y1 y2) (laws_FnTokensPeeked.j2 (k + 1) y0 y1 y2)) ∧ (∀ y0 y1 y2 y3, LeO (laws_FnTokensPeeked.l0 k y0 y1 y2 y3) (laws_FnTokensPeeked.l0 (k + 1) y0 y1 y2 y3))
  | 0 => ⟨fun _ _ _ r h => by simp [laws_FnTokensPeeked.j0] at h, fun _ _ _ r h => by simp [laws_FnTokensPeeked.j1] at h, fun _ _ _ r h => by simp [laws_FnTokensPeeked.j2] at h, fun _ _ _ _ r h => by simp [laws_FnTokensPeeked.l0] at h⟩
  | k + 1 => by
    obtain ⟨ih0, ih1, ih2, ih3⟩ := laws_FnTokensPeeked.mono_l k
    refine ⟨?_, ?_, ?_, ?_⟩
    · intro y0 y1 y2
      unfold laws_FnTokensPeeked.j0
      repeat' first
      | (with_reducible exact ih0 _ _ _)
      | (with_reducible exact ih1 _ _ _)
      | (with_reducible exact ih2 _ _ _)
      | (with_reducible exact ih3 _ _ _ _)
      | (with_reducible exact LeO.refl _)
      | (with_reducible exact LeO.none _)
      | (with_reducible refine LeO.ite ?_ ?_)
      | (with_reducible refine LeO.bind ?_ (fun _ => ?_))
      | exact ih0 _ _ _
      | exact ih1 _ _ _
      | exact ih2 _ _ _
      | exact ih3 _ _ _ _
      | exact LeO.none _
      | refine LeO.ite ?_ ?_
      | refine LeO.bind ?_ (fun _ => ?_)
    · intro y0 y1 y2
      unfold laws_FnTokensPeeked.j1
      repeat' first
      | (with_reducible exact ih0 _ _ _)
      | (with_reducible exact ih1 _ _ _)
      | (with_reducible exact ih2 _ _ _)
      | (with_reducible exact ih3 _ _ _ _)
      | (with_reducible exact LeO.refl _)
      | (with_reducible exact LeO.none _)
      | (with_reducible refine LeO.ite ?_ ?_)
      | (with_reducible refine LeO.bind ?_ (fun _ => ?_))
      | exact ih0 _ _ _
      | exact ih1 _ _ _
      | exact ih2 _ _ _
      | exact ih3 _ _ _ _
      | exact LeO.none _
      | refine LeO.ite ?_ ?_
      | refine LeO.bind ?_ (fun _ => ?_)
    · intro y0 y1 y2
      unfold laws_FnTokensPeeked.j2
      repeat' first
      | (with_reducible exact ih0 _ _ _)
      | (with_reducible exact ih1 _ _ _)
      | (with_reducible exact ih2 _ _ _)
      | (with_reducible exact ih3 _ _ _ _)
      | (with_reducible exact LeO.refl _)
      | (with_reducible exact LeO.none _)
      | (with_reducible refine LeO.ite ?_ ?_)
      | (with_reducible refine LeO.bind ?_ (fun _ => ?_))
      | exact ih0 _ _ _
      | exact ih1 _ _ _
      | exact ih2 _ _ _
      | exact ih3 _ _ _ _
      | exact LeO.none _
      | refine LeO.ite ?_ ?_
      | refine LeO.bind ?_ (fun _ => ?_)
    · intro y0 y1 y2 y3
      unfold laws_FnTokensPeeked.l0
      repeat' first
      | (with_reducible exact ih0 _ _ _)
      | (with_reducible exact ih1 _ _ _)
      | (with_reducible exact ih2 _ _ _)
      | (with_reducible exact ih3 _ _ _ _)
      | (with_reducible exact LeO.refl _)
      | (with_reducible exact LeO.none _)
      | (with_reducible refine LeO.ite ?_ ?_)
      | (with_reducible refine LeO.bind ?_ (fun _ => ?_))
      | exact ih0 _ _ _
      | exact ih1 _ _ _
      | exact ih2 _ _ _
      | exact ih3 _ _ _ _
      | exact LeO.none _
      | refine LeO.ite ?_ ?_
      | refine LeO.bind ?_ (fun _ => ?_)
theorem laws_FnTokensPeeked.mono : ∀ a0 a1 k, LeO (laws_FnTokensPeeked.f k a0 a1) (laws_FnTokensPeeked.f (k + 1) a0 a1) := by
  intro a0 a1 k
  obtain ⟨ih0, ih1, ih2, ih3⟩ := laws_FnTokensPeeked.mono_l k
  unfold laws_FnTokensPeeked.f
  repeat' first
      | (with_reducible exact ih0 _ _ _)
      | (with_reducible exact ih1 _ _ _)
      | (with_reducible exact ih2 _ _ _)
      | (with_reducible exact ih3 _ _ _ _)
      | (with_reducible exact LeO.refl _)
      | (with_reducible exact LeO.none _)
      | (with_reducible refine LeO.ite ?_ ?_)
      | (with_reducible refine LeO.bind ?_ (fun _ => ?_))
      | exact ih0 _ _ _
      | exact ih1 _ _ _
      | exact ih2 _ _ _
      | exact ih3 _ _ _ _
      | exact LeO.none _
      | refine LeO.ite ?_ ?_
      | refine LeO.bind ?_ (fun _ => ?_)
set_option maxHeartbeats 8000000 in
set_option maxRecDepth 100000 in
theorem laws_FnTokensPeeked.calls (k : Nat) (a0 : ByteArray) (A1 : Option Addr) (c1 : Nat) (l1 : List Bool) (r : Bool) (w : World) (tb : TBl w) (hr1 : Kd.C Kd.bool w A1 l1.length l1) (hc1 : l1.length ≤ c1) (h : laws_FnTokensPeeked.f k a0 l1 = some r) :
    Calls Tryd.prog 5 #[.string a0, .slice A1 l1.length c1] w fun e w' => e = .returned (.bool r) ∧ Below w.heap.size w w' := by
  have hu26 := Tryd.underlying26
  have HR1 := Aside0.mk hr1
  have HC1 := Aside0.mk hc1
  clear hr1 hc1
  have HB := Aside0.mk (Below.refl w.heap.size w)
  have TB0 := Aside0.mk tb
  clear tb
  have H : (if (a0.size : Int) > 2147483647 then (laws_FnTokensPeeked.j0 k a0 l1 true) else (laws_FnTokensPeeked.j0 k a0 l1 (decide ((l1.length : Int) > 2147483647)))) = some r := h
  clear h
  have HC3 := Aside0.mk H
  clear H
  go_enter Tryd.func5, Tryd.ntmps5
  go_upto_region 1 with (fail)
  repeat (go_quiet (fail); go_upto_region 1 with (fail))
  go_cut [19] (fun v19 wc => ∃ (kq : Nat) (x19_2 : Bool), v19 = .bool x19_2 ∧ Aside0 (laws_FnTokensPeeked.j0 kq a0 l1 x19_2 = some r) ∧ Aside0 (kq ≤ k) ∧ Aside0 (Below w.heap.size w wc))
  case first =>
    have H := HC3.out
    clear HC3
    by_cases c4 : (a0.size : Int) > 2147483647
    · rw [if_pos c4] at H
      have c4b0 : decide (2147483647 < (a0.size : Int)) = true := decide_eq_true c4
      have c4b1 : decide (2147483647 < a0.size) = true := decide_eq_true (by omega)
      clear c4
      (first | rw [c4b0] | (simp only [i64_w, i32_w]; rw [c4b0]) | skip)
      have H' := Aside0.mk H
      clear H
      go_wp2
      repeat (go_quiet (fail); try go_wp2)
      go_meet
      case rel => exact ⟨_, (true), (by first | rfl | (simp; done) | (simp [*]; done) | (simp [*, q_isEmpty]; done) | (simp [*]; exact q_gt _ _ (by assumption))), H', ⟨by first | omega | exact Nat.le_refl _⟩, ⟨by repeat (first | (with_reducible first | exact HB.out | apply below_alloc | apply pw_below_drewN | apply below_drew1) | exact HB.out)⟩⟩
    · rw [if_neg c4] at H
      have c4b0 : decide (2147483647 < (a0.size : Int)) = false := decide_eq_false c4
      have c4b1 : decide (2147483647 < a0.size) = false := decide_eq_false (by omega)
      clear c4
      (first | rw [c4b0] | (simp only [i64_w, i32_w]; rw [c4b0]) | skip)
      have H' := Aside0.mk H
      clear H
      go_wp2
      repeat (go_quiet (fail); try go_wp2)
      go_meet
      case rel => exact ⟨_, (decide ((l1.length : Int) > 2147483647)), (by first | rfl | (simp; done) | (simp [*]; done) | (simp [*, q_isEmpty]; done) | (simp [*]; exact q_gt _ _ (by assumption))), H', ⟨by first | omega | exact Nat.le_refl _⟩, ⟨by repeat (first | (with_reducible first | exact HB.out | apply below_alloc | apply pw_below_drewN | apply below_drew1) | exact HB.out)⟩⟩
  case rest =>
    clear HC3
    try clear c1
    try clear p2
    try clear c4
    try clear c4b0
    try clear c4b1
    obtain ⟨kq, x19_2, rfl, HA, HJ2, HB⟩ := hcut
    cases kq with
    | zero => exact absurd HA.out (by simp [laws_FnTokensPeeked.j0])
    | succ kj2 =>
      have H := HA.out
      clear HA
      simp only [laws_FnTokensPeeked.j0] at H
      by_cases c5 : x19_2 = true
      · subst c5
        have H1 : (some true) = some r := by rw [if_pos rfl] at H; exact H
        clear H
        have H := H1
        clear H1
        obtain rfl := Option.some.inj H
        go_wp2
        repeat (go_quiet (fail); try go_wp2)
        go_ret
        exact ⟨by first | rfl | (simp [errW_none, errW_some] <;> rfl) | (simp [*, errW_none, errW_some] <;> rfl) | (simp [*, q_isEmpty]; done) | (simp [*]; exact q_gt _ _ (by assumption)), by repeat (first | (with_reducible first | exact HB.out | apply below_alloc | apply pw_below_drewN | apply below_drew1) | exact HB.out)⟩
      · replace c5 := Bool.eq_false_iff.mpr c5
        subst c5
        have H1 : ((impl_TokensPeeked.f (⟨#[123, 32, 97, 32, 125]⟩ : ByteArray) (([true] : List Bool))).bind fun bt166 => (if bt166.2 = true then (laws_FnTokensPeeked.j1 kj2 a0 l1 ((bt166.1.length : Int) != 3)) else (laws_FnTokensPeeked.j1 kj2 a0 l1 true))) = some r := by rw [if_neg (show ¬ (false = true) by decide)] at H; exact H
        clear H
        have H := H1
        clear H1
        obtain ⟨y163, hy163⟩ : ∃ y_ : List Bool, y_ = (([true] : List Bool)) := ⟨_, rfl⟩
        replace H : ((impl_TokensPeeked.f (⟨#[123, 32, 97, 32, 125]⟩ : ByteArray) y163).bind fun bt166 => (if bt166.2 = true then (laws_FnTokensPeeked.j1 kj2 a0 l1 ((bt166.1.length : Int) != 3)) else (laws_FnTokensPeeked.j1 kj2 a0 l1 true))) = some r := by first | (rw [hy163]; with_reducible exact H) | (have H2_ := (Option.bind_some _ _).symm.trans H; rw [hy163]; with_reducible exact H2_) | (have H2_ := (Option.bind_some _ _).symm.trans H; with_reducible exact H2_) | with_reducible exact H | (rw [hy163]; exact H) | exact H
        have Ny163 := Aside0.mk hy163
        clear hy163
        replace H := Option.bind_eq_some_iff.mp H
        obtain ⟨⟨t166, t167⟩, A60, H⟩ := H
        replace H : (if t167 = true then (laws_FnTokensPeeked.j1 kj2 a0 l1 ((t166.length : Int) != 3)) else (laws_FnTokensPeeked.j1 kj2 a0 l1 true)) = some r := H
        have A6 := Aside0.mk A60
        clear A60
        have HC7 := Aside0.mk H
        clear H
        go_upto_region 4 with (first | ((with_reducible refine gate_dst (N := 21) rfl ?_); (try (refine gate_guard (by rfl) ?_; dsimp only)); refine Kd.R_lit Kd.bool _ 4 ?hg (N := 21) ?hd (xs := ([true] : List Bool)) (inner := [.bool true]) (ok := fun _ => True) (okp := fun _ => True) ?hr ?hp (fun _ hk => hk) trivial (Below.refl _ _) (Nat.le_refl _) (by simp) ?_; (case hd => rfl); (case hg => rfl); (case hr => first | (go_simp; done) | (go_simp; rfl)); (case hp => exact (Reps.one (show Kd.M Kd.bool _ _ _ true [.bool true] from rfl) (Reps.none _ _))); intro v164 w8 ho9 hb hg_ hnew_; clear hg_ hnew_; (first | rw [← Ny163.out] at ho9 | (simp only [Int.reduceToNat] at ho9; rw [← Ny163.out] at ho9)); have n0_ := Aside0.mk (Kd.R_lower ho9 (below_size (by repeat (first | (with_reducible first | exact HB.out | apply below_alloc | apply pw_below_drewN | apply below_drew1) | exact HB.out)))); have n1_ := Aside0.mk (below_step (by repeat (first | (with_reducible first | exact HB.out | apply below_alloc | apply pw_below_drewN | apply below_drew1) | exact HB.out)) hb); clear HB; have HO165 := n0_; have HB := n1_; clear n0_ n1_; clear hb ho9; obtain ⟨Ao10, co10, eo10⟩ := Kd.R_slice HO165.out; subst eo10) | (go_at_call 8; (with_reducible refine (impl_TokensPeeked.calls (⟨#[123, 32, 97, 32, 125]⟩ : ByteArray) _ _ y163 t166 t167 _ (TBl.below TB0.out (by repeat (first | (with_reducible first | exact HB.out | apply below_alloc | apply pw_below_drewN | apply below_drew1) | exact HB.out))) ?side1 ?side2 A6.out).mono ?_); (case side1 => repeat (first | exact (Kd.R_reads' HO165.out).2.2 | (with_reducible refine Kd.C_alloc ?_ _) | (with_reducible refine Kd.C_drewN ?_ _) | (with_reducible refine Kd.C_drew ?_))); (case side2 => exact (Kd.R_reads' HO165.out).2.1); rintro e w11 ⟨v168, rfl, ho0, hb⟩; have n0_ := Aside0.mk (Kd.R_below (by (with_reducible repeat (first | apply Kd.R_alloc | apply Kd.R_drewN | apply Kd.R_drew)); exact HO165.out) hb); have n1_ := Aside0.mk (Kd.R_lower ho0 (below_size (by repeat (first | (with_reducible first | exact HB.out | apply below_alloc | apply pw_below_drewN | apply below_drew1) | exact HB.out)))); have n2_ := Aside0.mk (below_step (by repeat (first | (with_reducible first | exact HB.out | apply below_alloc | apply pw_below_drewN | apply below_drew1) | exact HB.out)) hb); clear HO165; clear HB; have HO165 := n0_; have HO169 := n1_; have HB := n2_; clear n0_ n1_ n2_; (try clear hb); (try clear hb2); (try clear hk); (try clear hi); (try clear ho0)))
        repeat (go_quiet (first | ((with_reducible refine gate_dst (N := 21) rfl ?_); (try (refine gate_guard (by rfl) ?_; dsimp only)); refine Kd.R_lit Kd.bool _ 4 ?hg (N := 21) ?hd (xs := ([true] : List Bool)) (inner := [.bool true]) (ok := fun _ => True) (okp := fun _ => True) ?hr ?hp (fun _ hk => hk) trivial (Below.refl _ _) (Nat.le_refl _) (by simp) ?_; (case hd => rfl); (case hg => rfl); (case hr => first | (go_simp; done) | (go_simp; rfl)); (case hp => exact (Reps.one (show Kd.M Kd.bool _ _ _ true [.bool true] from rfl) (Reps.none _ _))); intro v164 w8 ho9 hb hg_ hnew_; clear hg_ hnew_; (first | rw [← Ny163.out] at ho9 | (simp only [Int.reduceToNat] at ho9; rw [← Ny163.out] at ho9)); have n0_ := Aside0.mk (Kd.R_lower ho9 (below_size (by repeat (first | (with_reducible first | exact HB.out | apply below_alloc | apply pw_below_drewN | apply below_drew1) | exact HB.out)))); have n1_ := Aside0.mk (below_step (by repeat (first | (with_reducible first | exact HB.out | apply below_alloc | apply pw_below_drewN | apply below_drew1) | exact HB.out)) hb); clear HB; have HO165 := n0_; have HB := n1_; clear n0_ n1_; clear hb ho9; obtain ⟨Ao10, co10, eo10⟩ := Kd.R_slice HO165.out; subst eo10) | (go_at_call 8; (with_reducible refine (impl_TokensPeeked.calls (⟨#[123, 32, 97, 32, 125]⟩ : ByteArray) _ _ y163 t166 t167 _ (TBl.below TB0.out (by repeat (first | (with_reducible first | exact HB.out | apply below_alloc | apply pw_below_drewN | apply below_drew1) | exact HB.out))) ?side1 ?side2 A6.out).mono ?_); (case side1 => repeat (first | exact (Kd.R_reads' HO165.out).2.2 | (with_reducible refine Kd.C_alloc ?_ _) | (with_reducible refine Kd.C_drewN ?_ _) | (with_reducible refine Kd.C_drew ?_))); (case side2 => exact (Kd.R_reads' HO165.out).2.1); rintro e w11 ⟨v168, rfl, ho0, hb⟩; have n0_ := Aside0.mk (Kd.R_below (by (with_reducible repeat (first | apply Kd.R_alloc | apply Kd.R_drewN | apply Kd.R_drew)); exact HO165.out) hb); have n1_ := Aside0.mk (Kd.R_lower ho0 (below_size (by repeat (first | (with_reducible first | exact HB.out | apply below_alloc | apply pw_below_drewN | apply below_drew1) | exact HB.out)))); have n2_ := Aside0.mk (below_step (by repeat (first | (with_reducible first | exact HB.out | apply below_alloc | apply pw_below_drewN | apply below_drew1) | exact HB.out)) hb); clear HO165; clear HB; have HO165 := n0_; have HO169 := n1_; have HB := n2_; clear n0_ n1_ n2_; (try clear hb); (try clear hb2); (try clear hk); (try clear hi); (try clear ho0))); go_upto_region 4 with (first | ((with_reducible refine gate_dst (N := 21) rfl ?_); (try (refine gate_guard (by rfl) ?_; dsimp only)); refine Kd.R_lit Kd.bool _ 4 ?hg (N := 21) ?hd (xs := ([true] : List Bool)) (inner := [.bool true]) (ok := fun _ => True) (okp := fun _ => True) ?hr ?hp (fun _ hk => hk) trivial (Below.refl _ _) (Nat.le_refl _) (by simp) ?_; (case hd => rfl); (case hg => rfl); (case hr => first | (go_simp; done) | (go_simp; rfl)); (case hp => exact (Reps.one (show Kd.M Kd.bool _ _ _ true [.bool true] from rfl) (Reps.none _ _))); intro v164 w8 ho9 hb hg_ hnew_; clear hg_ hnew_; (first | rw [← Ny163.out] at ho9 | (simp only [Int.reduceToNat] at ho9; rw [← Ny163.out] at ho9)); have n0_ := Aside0.mk (Kd.R_lower ho9 (below_size (by repeat (first | (with_reducible first | exact HB.out | apply below_alloc | apply pw_below_drewN | apply below_drew1) | exact HB.out)))); have n1_ := Aside0.mk (below_step (by repeat (first | (with_reducible first | exact HB.out | apply below_alloc | apply pw_below_drewN | apply below_drew1) | exact HB.out)) hb); clear HB; have HO165 := n0_; have HB := n1_; clear n0_ n1_; clear hb ho9; obtain ⟨Ao10, co10, eo10⟩ := Kd.R_slice HO165.out; subst eo10) | (go_at_call 8; (with_reducible refine (impl_TokensPeeked.calls (⟨#[123, 32, 97, 32, 125]⟩ : ByteArray) _ _ y163 t166 t167 _ (TBl.below TB0.out (by repeat (first | (with_reducible first | exact HB.out | apply below_alloc | apply pw_below_drewN | apply below_drew1) | exact HB.out))) ?side1 ?side2 A6.out).mono ?_); (case side1 => repeat (first | exact (Kd.R_reads' HO165.out).2.2 | (with_reducible refine Kd.C_alloc ?_ _) | (with_reducible refine Kd.C_drewN ?_ _) | (with_reducible refine Kd.C_drew ?_))); (case side2 => exact (Kd.R_reads' HO165.out).2.1); rintro e w11 ⟨v168, rfl, ho0, hb⟩; have n0_ := Aside0.mk (Kd.R_below (by (with_reducible repeat (first | apply Kd.R_alloc | apply Kd.R_drewN | apply Kd.R_drew)); exact HO165.out) hb); have n1_ := Aside0.mk (Kd.R_lower ho0 (below_size (by repeat (first | (with_reducible first | exact HB.out | apply below_alloc | apply pw_below_drewN | apply below_drew1) | exact HB.out)))); have n2_ := Aside0.mk (below_step (by repeat (first | (with_reducible first | exact HB.out | apply below_alloc | apply pw_below_drewN | apply below_drew1) | exact HB.out)) hb); clear HO165; clear HB; have HO165 := n0_; have HO169 := n1_; have HB := n2_; clear n0_ n1_ n2_; (try clear hb); (try clear hb2); (try clear hk); (try clear hi); (try clear ho0))))
        (try simp only [Act.put, List.setIfInBounds_toArray, List.set_cons_zero, List.set_cons_succ])
        go_cut [31] (fun v31 wc => ∃ (kq : Nat) (x31_6 : Bool), v31 = .bool x31_6 ∧ Aside0 (laws_FnTokensPeeked.j1 kq a0 l1 x31_6 = some r) ∧ Aside0 (kq ≤ kj2) ∧ Aside0 (Below w.heap.size w wc))
        case first =>
          have H := HC7.out
          clear HC7
          by_cases c12 : t167 = true
          · subst c12
            have H1 : (laws_FnTokensPeeked.j1 kj2 a0 l1 ((t166.length : Int) != 3)) = some r := by rw [if_pos rfl] at H; exact H
            clear H
            have H := H1
            clear H1
            have H' := Aside0.mk H
            clear H
            obtain ⟨Ao13, co13, eo13⟩ := Kd.R_slice HO169.out
            subst eo13
            go_wp2
            repeat (go_quiet (fail); try go_wp2)
            go_meet
            case rel => exact ⟨_, (((t166.length : Int) != 3)), (by first | rfl | (simp; done) | (simp [*]; done) | (simp [*, q_isEmpty]; done) | (simp [*]; exact q_gt _ _ (by assumption))), H', ⟨by have := HJ2.out; first | omega | exact Nat.le_refl _⟩, ⟨by repeat (first | (with_reducible first | exact HB.out | apply below_alloc | apply pw_below_drewN | apply below_drew1) | exact HB.out)⟩⟩
          · replace c12 := Bool.eq_false_iff.mpr c12
            subst c12
            have H1 : (laws_FnTokensPeeked.j1 kj2 a0 l1 true) = some r := by rw [if_neg (show ¬ (false = true) by decide)] at H; exact H
            clear H
            have H := H1
            clear H1
            have H' := Aside0.mk H
            clear H
            go_wp2
            repeat (go_quiet (fail); try go_wp2)
            go_meet
            case rel => exact ⟨_, (true), (by first | rfl | (simp; done) | (simp [*]; done) | (simp [*, q_isEmpty]; done) | (simp [*]; exact q_gt _ _ (by assumption))), H', ⟨by have := HJ2.out; first | omega | exact Nat.le_refl _⟩, ⟨by repeat (first | (with_reducible first | exact HB.out | apply below_alloc | apply pw_below_drewN | apply below_drew1) | exact HB.out)⟩⟩
        case rest =>
          clear HC7
          try clear c1
          try clear p2
          try clear c4
          try clear c4b0
          try clear c4b1
          try clear c5
          try clear c12
          try clear p2
          obtain ⟨kq, x31_6, rfl, HA, HJ6, HB⟩ := hcut
          cases kq with
          | zero => exact absurd HA.out (by simp [laws_FnTokensPeeked.j1])
          | succ kj6 =>
            have H := HA.out
            clear HA
            simp only [laws_FnTokensPeeked.j1] at H
            by_cases c14 : x31_6 = true
            · subst c14
              have H1 : (some false) = some r := by rw [if_pos rfl] at H; exact H
              clear H
              have H := H1
              clear H1
              obtain rfl := Option.some.inj H
              go_wp2
              repeat (go_quiet (fail); try go_wp2)
              go_ret
              exact ⟨by first | rfl | (simp [errW_none, errW_some] <;> rfl) | (simp [*, errW_none, errW_some] <;> rfl) | (simp [*, q_isEmpty]; done) | (simp [*]; exact q_gt _ _ (by assumption)), by repeat (first | (with_reducible first | exact HB.out | apply below_alloc | apply pw_below_drewN | apply below_drew1) | exact HB.out)⟩
            · replace c14 := Bool.eq_false_iff.mpr c14
              subst c14
              have H1 : ((laws_long.f a0).bind fun t170 => (if t170 = true then (some true) else ((impl_Tokens.f a0).bind fun bt171 => ((impl_TokensPeeked.f a0 l1).bind fun bt175 => (if (bt171.2 != bt175.2) = true then (laws_FnTokensPeeked.j2 kj6 bt171.1 bt175.1 true) else (laws_FnTokensPeeked.j2 kj6 bt171.1 bt175.1 ((bt171.1.length : Int) != (bt175.1.length : Int)))))))) = some r := by rw [if_neg (show ¬ (false = true) by decide)] at H; exact H
              clear H
              have H := H1
              clear H1
              replace H := Option.bind_eq_some_iff.mp H
              obtain ⟨t170, A150, H⟩ := H
              replace H : (if t170 = true then (some true) else ((impl_Tokens.f a0).bind fun bt171 => ((impl_TokensPeeked.f a0 l1).bind fun bt175 => (if (bt171.2 != bt175.2) = true then (laws_FnTokensPeeked.j2 kj6 bt171.1 bt175.1 true) else (laws_FnTokensPeeked.j2 kj6 bt171.1 bt175.1 ((bt171.1.length : Int) != (bt175.1.length : Int))))))) = some r := H
              have A15 := Aside0.mk A150
              clear A150
              by_cases c16 : t170 = true
              · subst c16
                have H1 : (some true) = some r := by rw [if_pos rfl] at H; exact H
                clear H
                have H := H1
                clear H1
                obtain rfl := Option.some.inj H
                go_wp2_with (first | (go_at_call 9; (with_reducible refine (laws_long.calls a0 true _ A15.out).mono ?_); rintro e w' ⟨rfl, ⟨nd, rfl⟩⟩; (try first | exact ⟨rfl, _, World.drewN_drewN _ _ _⟩ | exact ⟨rfl, _, Eq.trans (World.drewN_drewN _ _ _) (congrArg (World.drewN _) (Nat.add_assoc _ _ _))⟩)))
                repeat (go_quiet (first | (go_at_call 9; (with_reducible refine (laws_long.calls a0 true _ A15.out).mono ?_); rintro e w' ⟨rfl, ⟨nd, rfl⟩⟩; (try first | exact ⟨rfl, _, World.drewN_drewN _ _ _⟩ | exact ⟨rfl, _, Eq.trans (World.drewN_drewN _ _ _) (congrArg (World.drewN _) (Nat.add_assoc _ _ _))⟩))); try go_wp2_with (first | (go_at_call 9; (with_reducible refine (laws_long.calls a0 true _ A15.out).mono ?_); rintro e w' ⟨rfl, ⟨nd, rfl⟩⟩; (try first | exact ⟨rfl, _, World.drewN_drewN _ _ _⟩ | exact ⟨rfl, _, Eq.trans (World.drewN_drewN _ _ _) (congrArg (World.drewN _) (Nat.add_assoc _ _ _))⟩))))
                go_ret
                exact ⟨by first | rfl | (simp [errW_none, errW_some] <;> rfl) | (simp [*, errW_none, errW_some] <;> rfl) | (simp [*, q_isEmpty]; done) | (simp [*]; exact q_gt _ _ (by assumption)), by repeat (first | (with_reducible first | exact HB.out | apply below_alloc | apply pw_below_drewN | apply below_drew1) | exact HB.out)⟩
              · replace c16 := Bool.eq_false_iff.mpr c16
                subst c16
                have H1 : ((impl_Tokens.f a0).bind fun bt171 => ((impl_TokensPeeked.f a0 l1).bind fun bt175 => (if (bt171.2 != bt175.2) = true then (laws_FnTokensPeeked.j2 kj6 bt171.1 bt175.1 true) else (laws_FnTokensPeeked.j2 kj6 bt171.1 bt175.1 ((bt171.1.length : Int) != (bt175.1.length : Int)))))) = some r := by rw [if_neg (show ¬ (false = true) by decide)] at H; exact H
                clear H
                have H := H1
                clear H1
                replace H := Option.bind_eq_some_iff.mp H
                obtain ⟨⟨t171, t172⟩, A170, H⟩ := H
                replace H : ((impl_TokensPeeked.f a0 l1).bind fun bt175 => (if (t172 != bt175.2) = true then (laws_FnTokensPeeked.j2 kj6 t171 bt175.1 true) else (laws_FnTokensPeeked.j2 kj6 t171 bt175.1 ((t171.length : Int) != (bt175.1.length : Int))))) = some r := H
                have A17 := Aside0.mk A170
                clear A170
                replace H := Option.bind_eq_some_iff.mp H
                obtain ⟨⟨t175, t176⟩, A180, H⟩ := H
                replace H : (if (t172 != t176) = true then (laws_FnTokensPeeked.j2 kj6 t171 t175 true) else (laws_FnTokensPeeked.j2 kj6 t171 t175 ((t171.length : Int) != (t175.length : Int)))) = some r := H
                have A18 := Aside0.mk A180
                clear A180
                have HC19 := Aside0.mk H
                clear H
                go_upto_region 10 with (first | (go_at_call 9; (with_reducible refine (laws_long.calls a0 false _ A15.out).mono ?_); rintro e w' ⟨rfl, ⟨nd, rfl⟩⟩; (try first | exact ⟨rfl, _, World.drewN_drewN _ _ _⟩ | exact ⟨rfl, _, Eq.trans (World.drewN_drewN _ _ _) (congrArg (World.drewN _) (Nat.add_assoc _ _ _))⟩)) | (go_at_call 6; (with_reducible refine (impl_Tokens.calls a0 t171 t172 _ (TBl.below TB0.out (by repeat (first | (with_reducible first | exact HB.out | apply below_alloc | apply pw_below_drewN | apply below_drew1) | exact HB.out))) A17.out).mono ?_); rintro e w20 ⟨v173, rfl, ho0, hb⟩; have n0_ := Aside0.mk (Kd.R_lower ho0 (below_size (by repeat (first | (with_reducible first | exact HB.out | apply below_alloc | apply pw_below_drewN | apply below_drew1) | exact HB.out)))); have n1_ := Aside0.mk (below_step (by repeat (first | (with_reducible first | exact HB.out | apply below_alloc | apply pw_below_drewN | apply below_drew1) | exact HB.out)) hb); clear HB; have HO174 := n0_; have HB := n1_; clear n0_ n1_; (try clear hb); (try clear hb2); (try clear hk); (try clear hi); (try clear ho0)) | (go_at_call 8; (with_reducible refine (impl_TokensPeeked.calls a0 _ _ l1 t175 t176 _ (TBl.below TB0.out (by repeat (first | (with_reducible first | exact HB.out | apply below_alloc | apply pw_below_drewN | apply below_drew1) | exact HB.out))) ?side1 ?side2 A18.out).mono ?_); (case side1 => repeat (first | exact (Kd.C_below HR1.out HB.out) | (with_reducible refine Kd.C_alloc ?_ _) | (with_reducible refine Kd.C_drewN ?_ _) | (with_reducible refine Kd.C_drew ?_))); (case side2 => exact HC1.out); rintro e w21 ⟨v177, rfl, ho0, hb⟩; have n0_ := Aside0.mk (Kd.R_elder' (by (with_reducible repeat (first | apply Kd.R_alloc | apply Kd.R_drewN | apply Kd.R_drew)); exact HO174.out) (Kd.R_base ho0) hb); have n1_ := Aside0.mk (Kd.R_lower (Kd.R_new' ho0 (Kd.R_lt (by (with_reducible repeat (first | apply Kd.R_alloc | apply Kd.R_drewN | apply Kd.R_drew)); exact HO174.out))) (below_size (by repeat (first | (with_reducible first | exact HB.out | apply below_alloc | apply pw_below_drewN | apply below_drew1) | exact HB.out)))); have n2_ := Aside0.mk (below_step (by repeat (first | (with_reducible first | exact HB.out | apply below_alloc | apply pw_below_drewN | apply below_drew1) | exact HB.out)) hb); clear HO174; clear HB; have HO174 := n0_; have HO178 := n1_; have HB := n2_; clear n0_ n1_ n2_; (try clear hb); (try clear hb2); (try clear hk); (try clear hi); (try clear ho0)))
                repeat (go_quiet (first | (go_at_call 9; (with_reducible refine (laws_long.calls a0 false _ A15.out).mono ?_); rintro e w' ⟨rfl, ⟨nd, rfl⟩⟩; (try first | exact ⟨rfl, _, World.drewN_drewN _ _ _⟩ | exact ⟨rfl, _, Eq.trans (World.drewN_drewN _ _ _) (congrArg (World.drewN _) (Nat.add_assoc _ _ _))⟩)) | (go_at_call 6; (with_reducible refine (impl_Tokens.calls a0 t171 t172 _ (TBl.below TB0.out (by repeat (first | (with_reducible first | exact HB.out | apply below_alloc | apply pw_below_drewN | apply below_drew1) | exact HB.out))) A17.out).mono ?_); rintro e w20 ⟨v173, rfl, ho0, hb⟩; have n0_ := Aside0.mk (Kd.R_lower ho0 (below_size (by repeat (first | (with_reducible first | exact HB.out | apply below_alloc | apply pw_below_drewN | apply below_drew1) | exact HB.out)))); have n1_ := Aside0.mk (below_step (by repeat (first | (with_reducible first | exact HB.out | apply below_alloc | apply pw_below_drewN | apply below_drew1) | exact HB.out)) hb); clear HB; have HO174 := n0_; have HB := n1_; clear n0_ n1_; (try clear hb); (try clear hb2); (try clear hk); (try clear hi); (try clear ho0)) | (go_at_call 8; (with_reducible refine (impl_TokensPeeked.calls a0 _ _ l1 t175 t176 _ (TBl.below TB0.out (by repeat (first | (with_reducible first | exact HB.out | apply below_alloc | apply pw_below_drewN | apply below_drew1) | exact HB.out))) ?side1 ?side2 A18.out).mono ?_); (case side1 => repeat (first | exact (Kd.C_below HR1.out HB.out) | (with_reducible refine Kd.C_alloc ?_ _) | (with_reducible refine Kd.C_drewN ?_ _) | (with_reducible refine Kd.C_drew ?_))); (case side2 => exact HC1.out); rintro e w21 ⟨v177, rfl, ho0, hb⟩; have n0_ := Aside0.mk (Kd.R_elder' (by (with_reducible repeat (first | apply Kd.R_alloc | apply Kd.R_drewN | apply Kd.R_drew)); exact HO174.out) (Kd.R_base ho0) hb); have n1_ := Aside0.mk (Kd.R_lower (Kd.R_new' ho0 (Kd.R_lt (by (with_reducible repeat (first | apply Kd.R_alloc | apply Kd.R_drewN | apply Kd.R_drew)); exact HO174.out))) (below_size (by repeat (first | (with_reducible first | exact HB.out | apply below_alloc | apply pw_below_drewN | apply below_drew1) | exact HB.out)))); have n2_ := Aside0.mk (below_step (by repeat (first | (with_reducible first | exact HB.out | apply below_alloc | apply pw_below_drewN | apply below_drew1) | exact HB.out)) hb); clear HO174; clear HB; have HO174 := n0_; have HO178 := n1_; have HB := n2_; clear n0_ n1_ n2_; (try clear hb); (try clear hb2); (try clear hk); (try clear hi); (try clear ho0))); go_upto_region 10 with (first | (go_at_call 9; (with_reducible refine (laws_long.calls a0 false _ A15.out).mono ?_); rintro e w' ⟨rfl, ⟨nd, rfl⟩⟩; (try first | exact ⟨rfl, _, World.drewN_drewN _ _ _⟩ | exact ⟨rfl, _, Eq.trans (World.drewN_drewN _ _ _) (congrArg (World.drewN _) (Nat.add_assoc _ _ _))⟩)) | (go_at_call 6; (with_reducible refine (impl_Tokens.calls a0 t171 t172 _ (TBl.below TB0.out (by repeat (first | (with_reducible first | exact HB.out | apply below_alloc | apply pw_below_drewN | apply below_drew1) | exact HB.out))) A17.out).mono ?_); rintro e w20 ⟨v173, rfl, ho0, hb⟩; have n0_ := Aside0.mk (Kd.R_lower ho0 (below_size (by repeat (first | (with_reducible first | exact HB.out | apply below_alloc | apply pw_below_drewN | apply below_drew1) | exact HB.out)))); have n1_ := Aside0.mk (below_step (by repeat (first | (with_reducible first | exact HB.out | apply below_alloc | apply pw_below_drewN | apply below_drew1) | exact HB.out)) hb); clear HB; have HO174 := n0_; have HB := n1_; clear n0_ n1_; (try clear hb); (try clear hb2); (try clear hk); (try clear hi); (try clear ho0)) | (go_at_call 8; (with_reducible refine (impl_TokensPeeked.calls a0 _ _ l1 t175 t176 _ (TBl.below TB0.out (by repeat (first | (with_reducible first | exact HB.out | apply below_alloc | apply pw_below_drewN | apply below_drew1) | exact HB.out))) ?side1 ?side2 A18.out).mono ?_); (case side1 => repeat (first | exact (Kd.C_below HR1.out HB.out) | (with_reducible refine Kd.C_alloc ?_ _) | (with_reducible refine Kd.C_drewN ?_ _) | (with_reducible refine Kd.C_drew ?_))); (case side2 => exact HC1.out); rintro e w21 ⟨v177, rfl, ho0, hb⟩; have n0_ := Aside0.mk (Kd.R_elder' (by (with_reducible repeat (first | apply Kd.R_alloc | apply Kd.R_drewN | apply Kd.R_drew)); exact HO174.out) (Kd.R_base ho0) hb); have n1_ := Aside0.mk (Kd.R_lower (Kd.R_new' ho0 (Kd.R_lt (by (with_reducible repeat (first | apply Kd.R_alloc | apply Kd.R_drewN | apply Kd.R_drew)); exact HO174.out))) (below_size (by repeat (first | (with_reducible first | exact HB.out | apply below_alloc | apply pw_below_drewN | apply below_drew1) | exact HB.out)))); have n2_ := Aside0.mk (below_step (by repeat (first | (with_reducible first | exact HB.out | apply below_alloc | apply pw_below_drewN | apply below_drew1) | exact HB.out)) hb); clear HO174; clear HB; have HO174 := n0_; have HO178 := n1_; have HB := n2_; clear n0_ n1_ n2_; (try clear hb); (try clear hb2); (try clear hk); (try clear hi); (try clear ho0))))
                (try simp only [Act.put, List.setIfInBounds_toArray, List.set_cons_zero, List.set_cons_succ])
                go_cut [54] (fun v54 wc => ∃ (kq : Nat) (x54_18 : Bool), v54 = .bool x54_18 ∧ Aside0 (laws_FnTokensPeeked.j2 kq t171 t175 x54_18 = some r) ∧ Aside0 (kq ≤ kj6) ∧ Aside0 (Kd.R k26 26 wc w.heap.size (fun k_ => some k_ ≠ (v177 : Value).ownBlock) v173 t171) ∧ Aside0 (Kd.R k26 26 wc w.heap.size (fun k_ => some k_ ≠ (v173 : Value).ownBlock) v177 t175) ∧ Aside0 (Below w.heap.size w wc))
                case first =>
                  have H := HC19.out
                  clear HC19
                  by_cases c22 : (t172 != t176) = true
                  · rw [if_pos c22] at H
                    have c22b0 : (t172 != t176) = true := c22
                    (try (have c22b1 : decide (t172 = t176) = false := by simpa using c22))
                    (try (have c22b2 : (t172 == t176) = false := by simpa using c22))
                    (try (have c22b3 : ¬ (t172 = t176) := by simpa using c22))
                    clear c22
                    (first | rw [c22b0] | (simp only [i64_w, i32_w]; rw [c22b0]) | skip)
                    have H' := Aside0.mk H
                    clear H
                    go_wp2
                    repeat (go_quiet (fail); try go_wp2)
                    go_meet
                    case rel => exact ⟨_, (true), (by first | rfl | (simp; done) | (simp [*]; done) | (simp [*, q_isEmpty]; done) | (simp [*]; exact q_gt _ _ (by assumption))), H', ⟨by have := HJ2.out; have := HJ6.out; first | omega | exact Nat.le_refl _⟩, ⟨by (with_reducible repeat (first | apply Kd.R_alloc | apply Kd.R_drewN | apply Kd.R_drew)); exact Kd.R_mono HO174.out (fun _ hk => hk.2)⟩, ⟨by (with_reducible repeat (first | apply Kd.R_alloc | apply Kd.R_drewN | apply Kd.R_drew)); exact Kd.R_mono HO178.out (fun _ hk => hk.2)⟩, ⟨by repeat (first | (with_reducible first | exact HB.out | apply below_alloc | apply pw_below_drewN | apply below_drew1) | exact HB.out)⟩⟩
                  · rw [if_neg c22] at H
                    have c22b0 : (t172 != t176) = false := by simpa using c22
                    (try (have c22b1 : decide (t172 = t176) = true := by simpa using c22))
                    (try (have c22b2 : (t172 == t176) = true := by simpa using c22))
                    clear c22
                    (first | rw [c22b0] | (simp only [i64_w, i32_w]; rw [c22b0]) | skip)
                    have H' := Aside0.mk H
                    clear H
                    obtain ⟨Ao23, co23, eo23⟩ := Kd.R_slice HO174.out
                    subst eo23
                    obtain ⟨Ao24, co24, eo24⟩ := Kd.R_slice HO178.out
                    subst eo24
                    go_wp2
                    repeat (go_quiet (fail); try go_wp2)
                    go_meet
                    case rel => exact ⟨_, (((t171.length : Int) != (t175.length : Int))), (by first | rfl | (simp; done) | (simp [*]; done) | (simp [*, q_isEmpty]; done) | (simp [*]; exact q_gt _ _ (by assumption))), H', ⟨by have := HJ2.out; have := HJ6.out; first | omega | exact Nat.le_refl _⟩, ⟨by (with_reducible repeat (first | apply Kd.R_alloc | apply Kd.R_drewN | apply Kd.R_drew)); exact Kd.R_mono HO174.out (fun _ hk => hk.2)⟩, ⟨by (with_reducible repeat (first | apply Kd.R_alloc | apply Kd.R_drewN | apply Kd.R_drew)); exact Kd.R_mono HO178.out (fun _ hk => hk.2)⟩, ⟨by repeat (first | (with_reducible first | exact HB.out | apply below_alloc | apply pw_below_drewN | apply below_drew1) | exact HB.out)⟩⟩
                case rest =>
                  clear HC19
                  try clear c1
                  try clear c2
                  try clear p2
                  try clear c4
                  try clear c4b0
                  try clear c4b1
                  try clear c5
                  try clear c12
                  try clear c14
                  try clear c16
                  try clear c22
                  try clear c22b0
                  try clear c22b1
                  try clear c22b2
                  try clear p2
                  obtain ⟨kq, x54_18, rfl, HA, HJ18, HO_7, HO_9, HB⟩ := hcut
                  cases kq with
                  | zero => exact absurd HA.out (by simp [laws_FnTokensPeeked.j2])
                  | succ kj18 =>
                    have H := HA.out
                    clear HA
                    simp only [laws_FnTokensPeeked.j2] at H
                    by_cases c25 : x54_18 = true
                    · subst c25
                      have H1 : (some false) = some r := by rw [if_pos rfl] at H; exact H
                      clear H
                      have H := H1
                      clear H1
                      obtain rfl := Option.some.inj H
                      go_wp2
                      repeat (go_quiet (fail); try go_wp2)
                      go_ret
                      exact ⟨by first | rfl | (simp [errW_none, errW_some] <;> rfl) | (simp [*, errW_none, errW_some] <;> rfl) | (simp [*, q_isEmpty]; done) | (simp [*]; exact q_gt _ _ (by assumption)), by repeat (first | (with_reducible first | exact HB.out | apply below_alloc | apply pw_below_drewN | apply below_drew1) | exact HB.out)⟩
                    · replace c25 := Bool.eq_false_iff.mpr c25
                      subst c25
                      have H1 : (laws_FnTokensPeeked.l0 kj18 t171 t175 (t171.length : Int) 0) = some r := by rw [if_neg (show ¬ (false = true) by decide)] at H; exact H
                      clear H
                      have H := H1
                      clear H1
                      have H' := Aside0.mk H
                      clear H
                      obtain ⟨Ao26, co26, eo26⟩ := Kd.R_slice HO_7.out
                      subst eo26
                      go_wp2
                      repeat (go_quiet (fail); try go_wp2)
                      go_loopg [57] kj18 (fun kq v57 w' => ∃ (x57_4 : Int), v57 = .int .i64 x57_4 ∧ Aside0 (laws_FnTokensPeeked.l0 kq t171 t175 (t171.length : Int) x57_4 = some r) ∧ Aside0 (kq ≤ kj18) ∧ Aside0 (Kd.R k26 26 w' w.heap.size (fun k_ => some k_ ≠ (v177 : Value).ownBlock) (.slice Ao26 t171.length co26) t171) ∧ Aside0 (Kd.R k26 26 w' w.heap.size (fun k_ => some k_ ≠ ((.slice Ao26 t171.length co26) : Value).ownBlock) v177 t175) ∧ Aside0 (Below w.heap.size w w'))
                      case atStart => exact ⟨(0), (by first | rfl | (simp; done) | (simp [*]; done) | (simp [*, q_isEmpty]; done) | (simp [*]; exact q_gt _ _ (by assumption))), H', ⟨Nat.le_refl _⟩, ⟨by (with_reducible repeat (first | apply Kd.R_alloc | apply Kd.R_drewN | apply Kd.R_drew)); exact HO_7.out⟩, ⟨by (with_reducible repeat (first | apply Kd.R_alloc | apply Kd.R_drewN | apply Kd.R_drew)); exact HO_9.out⟩, ⟨by repeat (first | (with_reducible first | exact HB.out | apply below_alloc | apply pw_below_drewN | apply below_drew1) | exact HB.out)⟩⟩
                      case round =>
                        clear H'
                        try clear c1
                        try clear c2
                        try clear p2
                        try clear c4
                        try clear c4b0
                        try clear c4b1
                        try clear c5
                        try clear c12
                        try clear c14
                        try clear c16
                        try clear c22
                        try clear c22b0
                        try clear c22b1
                        try clear c22b2
                        try clear c25
                        try clear p2
                        obtain ⟨x57_4, rfl, HA, HK4, HO_7, HO_9, HB⟩ := hrel
                        cases gk with
                        | zero => exact absurd HA.out (by simp [laws_FnTokensPeeked.l0])
                        | succ k4 =>
                          have H := HA.out
                          clear HA
                          simp only [laws_FnTokensPeeked.l0] at H
                          by_cases c27 : x57_4 < (t171.length : Int)
                          · rw [if_pos c27] at H
                            have c27b0 : decide (x57_4 < (t171.length : Int)) = true := decide_eq_true c27
                            clear c27
                            by_cases c28 : 0 ≤ x57_4
                            · rw [if_pos c28] at H
                              have c28b0 : decide (0 ≤ x57_4) = true := decide_eq_true c28
                              clear c28
                              by_cases c29 : x57_4 < (t171.length : Int)
                              · rw [if_pos c29] at H
                                have c29b0 : decide (x57_4 < (t171.length : Int)) = true := decide_eq_true c29
                                clear c29
                                by_cases c30 : x57_4 < (t175.length : Int)
                                · rw [if_pos c30] at H
                                  have c30b0 : decide (x57_4 < (t175.length : Int)) = true := decide_eq_true c30
                                  clear c30
                                  by_cases c31 : (!(((rd_T26 t171 x57_4).f0) == ((rd_T26 t175 x57_4).f0)) || (!((((rd_T26 t171 x57_4).f1).toList) == (((rd_T26 t175 x57_4).f1).toList)) || (!(((rd_T26 t171 x57_4).f2) == ((rd_T26 t175 x57_4).f2)) || (!(((rd_T26 t171 x57_4).f3) == ((rd_T26 t175 x57_4).f3)) || (!(((rd_T26 t171 x57_4).f4) == ((rd_T26 t175 x57_4).f4)) || (!(((rd_T26 t171 x57_4).f5) == ((rd_T26 t175 x57_4).f5)))))))) = true
                                  · rw [if_pos c31] at H
                                    have c31b0 : (!(((rd_T26 t171 x57_4).f0) == ((rd_T26 t175 x57_4).f0)) || (!((((rd_T26 t171 x57_4).f1).toList) == (((rd_T26 t175 x57_4).f1).toList)) || (!(((rd_T26 t171 x57_4).f2) == ((rd_T26 t175 x57_4).f2)) || (!(((rd_T26 t171 x57_4).f3) == ((rd_T26 t175 x57_4).f3)) || (!(((rd_T26 t171 x57_4).f4) == ((rd_T26 t175 x57_4).f4)) || (!(((rd_T26 t171 x57_4).f5) == ((rd_T26 t175 x57_4).f5)))))))) = true := c31
                                    clear c31
                                    obtain rfl := Option.some.inj H
                                    have p179 : 0 ≤ (x57_4 : Int) := of_decide_eq_true (by first | (with_reducible assumption) | assumption)
                                    have q179 : x57_4 < (t171.length : Int) := of_decide_eq_true (by first | (with_reducible assumption) | assumption)
                                    obtain ⟨ad179, e179, hx179_0, hx179_1, hx179_2, hx179_3, hx179_4, hx179_5⟩ := at_T26 (Kd.R_reads' HO_7.out).2.2 x57_4 p179 q179
                                    cases e179
                                    replace p179 := eq_true p179
                                    replace q179 := eq_true q179
                                    obtain ⟨Ao32, co32, eo32⟩ := Kd.R_slice HO_9.out
                                    subst eo32
                                    have p180 : 0 ≤ (x57_4 : Int) := of_decide_eq_true (by first | (with_reducible assumption) | assumption)
                                    have q180 : x57_4 < (t175.length : Int) := of_decide_eq_true (by first | (with_reducible assumption) | assumption)
                                    obtain ⟨ad180, e180, hx180_0, hx180_1, hx180_2, hx180_3, hx180_4, hx180_5⟩ := at_T26 (Kd.R_reads' HO_9.out).2.2 x57_4 p180 q180
                                    cases e180
                                    replace p180 := eq_true p180
                                    replace q180 := eq_true q180
                                    go_wp2
                                    repeat (go_quiet (fail); try go_wp2)
                                    go_ret
                                    exact ⟨by first | rfl | (simp [errW_none, errW_some] <;> rfl) | (simp [*, errW_none, errW_some] <;> rfl) | (simp [*, q_isEmpty]; done) | (simp [*]; exact q_gt _ _ (by assumption)), by repeat (first | (with_reducible first | exact HB.out | apply below_alloc | apply pw_below_drewN | apply below_drew1) | exact HB.out)⟩
                                  · rw [if_neg c31] at H
                                    have c31b0 : (!(((rd_T26 t171 x57_4).f0) == ((rd_T26 t175 x57_4).f0)) || (!((((rd_T26 t171 x57_4).f1).toList) == (((rd_T26 t175 x57_4).f1).toList)) || (!(((rd_T26 t171 x57_4).f2) == ((rd_T26 t175 x57_4).f2)) || (!(((rd_T26 t171 x57_4).f3) == ((rd_T26 t175 x57_4).f3)) || (!(((rd_T26 t171 x57_4).f4) == ((rd_T26 t175 x57_4).f4)) || (!(((rd_T26 t171 x57_4).f5) == ((rd_T26 t175 x57_4).f5)))))))) = false := by simpa using c31
                                    clear c31
                                    have H' := Aside0.mk H
                                    clear H
                                    have p179 : 0 ≤ (x57_4 : Int) := of_decide_eq_true (by first | (with_reducible assumption) | assumption)
                                    have q179 : x57_4 < (t171.length : Int) := of_decide_eq_true (by first | (with_reducible assumption) | assumption)
                                    obtain ⟨ad179, e179, hx179_0, hx179_1, hx179_2, hx179_3, hx179_4, hx179_5⟩ := at_T26 (Kd.R_reads' HO_7.out).2.2 x57_4 p179 q179
                                    cases e179
                                    replace p179 := eq_true p179
                                    replace q179 := eq_true q179
                                    obtain ⟨Ao33, co33, eo33⟩ := Kd.R_slice HO_9.out
                                    subst eo33
                                    have p180 : 0 ≤ (x57_4 : Int) := of_decide_eq_true (by first | (with_reducible assumption) | assumption)
                                    have q180 : x57_4 < (t175.length : Int) := of_decide_eq_true (by first | (with_reducible assumption) | assumption)
                                    obtain ⟨ad180, e180, hx180_0, hx180_1, hx180_2, hx180_3, hx180_4, hx180_5⟩ := at_T26 (Kd.R_reads' HO_9.out).2.2 x57_4 p180 q180
                                    cases e180
                                    replace p180 := eq_true p180
                                    replace q180 := eq_true q180
                                    go_wp2
                                    repeat (go_quiet (fail); try go_wp2)
                                    go_roundg k4
                                    case measure => have := HJ2.out; have := HJ6.out; have := HJ18.out; have := HK4.out; omega
                                    case rel => exact ⟨(wrap64 (x57_4 + 1)), (by first | rfl | (simp; done) | (simp [*]; done) | (simp [*, q_isEmpty]; done) | (simp [*]; exact q_gt _ _ (by assumption))), H', ⟨by have := HJ2.out; have := HJ6.out; have := HJ18.out; have := HK4.out; omega⟩, ⟨by (with_reducible repeat (first | apply Kd.R_alloc | apply Kd.R_drewN | apply Kd.R_drew)); exact HO_7.out⟩, ⟨by (with_reducible repeat (first | apply Kd.R_alloc | apply Kd.R_drewN | apply Kd.R_drew)); exact HO_9.out⟩, ⟨by repeat (first | (with_reducible first | exact HB.out | apply below_alloc | apply pw_below_drewN | apply below_drew1) | exact HB.out)⟩⟩
                                · rw [if_neg c30] at H
                                  exact absurd H (by simp)
                              · rw [if_neg c29] at H
                                exact absurd H (by simp)
                            · rw [if_neg c28] at H
                              exact absurd H (by simp)
                          · rw [if_neg c27] at H
                            have c27b0 : decide (x57_4 < (t171.length : Int)) = false := decide_eq_false c27
                            clear c27
                            obtain rfl := Option.some.inj H
                            go_wp2
                            repeat (go_quiet (fail); try go_wp2)
                            go_ret
                            exact ⟨by first | rfl | (simp [errW_none, errW_some] <;> rfl) | (simp [*, errW_none, errW_some] <;> rfl) | (simp [*, q_isEmpty]; done) | (simp [*]; exact q_gt _ _ (by assumption)), by repeat (first | (with_reducible first | exact HB.out | apply below_alloc | apply pw_below_drewN | apply below_drew1) | exact HB.out)⟩

end Go.Proofs.YtlpcbmgleecafaaDoor.Q
