-- Printed for this seat by wip/pp.py of this repo; nothing here is trusted: Lean checks it.
import Derived.Test.YtbcijcmmpbkkbaaQ0
import Derived.Test.YtbcijcmmpbkkbaaHSpecSet
import Derived.Test.YtbcijcmmpbkkbaaQspecfnv
namespace Go.Proofs.Ytbcijcmmpbkkbaa.Q
open Go.RowKit Go.Proofs.YtbcijcmmpbkkbaaW.PrintWords Go.Proofs.YtbcijcmmpbkkbaaW.PrintLast Go.Proofs.YtbcijcmmpbkkbaaW.PrintMore
attribute [local go_sem] max2_int min2_int max_two min_two max_three min_three max_four min_four   -- for this text's walks alone
set_option linter.unusedVariables false
set_option linter.unusedSimpArgs false

/-! ### spec_SetFastPrint: function 34 -/
def spec_SetFastPrint.l0 : Nat → List (S28) → Int → Int → Int → Option (Int)
  | 0, _, _, _, _ => none
  | k + 1, x3, x4, x12, x13 => if x13 < x12 then (if 0 ≤ x13 then (if x13 < (x3.length : Int) then ((spec_fnv.f k 14695981039346656037 ((rd_T28 x3 x13).f0)).bind fun t199 => ((spec_fnv.f k t199 (⟨#[255]⟩ : ByteArray)).bind fun t200 => ((spec_fnv.f k t200 ((rd_T28 x3 x13).f1)).bind fun t202 => (spec_SetFastPrint.l0 k x3 (Go.bits .xor .u64 x4 t202) x12 (wrap64 (x13 + 1)))))) else (none)) else (none)) else (some x4)
def spec_SetFastPrint.f (k : Nat) (l0 : List (S28)) : Option (Int) := (spec_Set.f l0).bind fun t195 => (if (t195.length : Int) = 0 then (some 14695981039346656037) else (spec_SetFastPrint.l0 k t195 0 (t195.length : Int) 0))
theorem spec_SetFastPrint.mono_l : ∀ k, (∀ y0 y1 y2 y3, LeO (spec_SetFastPrint.l0 k y0 y1 y2 y3) (spec_SetFastPrint.l0 (k + 1) y0 y1 y2 y3))
  | 0 => fun _ _ _ _ r h => by simp [spec_SetFastPrint.l0] at h
  | k + 1 => by
    have ih0 := spec_SetFastPrint.mono_l k
    · intro y0 y1 y2 y3
      unfold spec_SetFastPrint.l0
      repeat' first
      | (with_reducible exact ih0 _ _ _ _)
      | (with_reducible exact spec_fnv.mono _ _ _)
      | (with_reducible exact LeO.refl _)
      | (with_reducible exact LeO.none _)
      | (with_reducible refine LeO.ite ?_ ?_)
      | (with_reducible refine LeO.bind ?_ (fun _ => ?_))
      | exact ih0 _ _ _ _
      | exact spec_fnv.mono _ _ _
      | exact LeO.none _
      | refine LeO.ite ?_ ?_
      | refine LeO.bind ?_ (fun _ => ?_)
theorem spec_SetFastPrint.mono : ∀ a0 k, LeO (spec_SetFastPrint.f k a0) (spec_SetFastPrint.f (k + 1) a0) := by
  intro a0 k
  have ih0 := spec_SetFastPrint.mono_l k
  unfold spec_SetFastPrint.f
  repeat' first
      | (with_reducible exact ih0 _ _ _ _)
      | (with_reducible exact spec_fnv.mono _ _ _)
      | (with_reducible exact LeO.refl _)
      | (with_reducible exact LeO.none _)
      | (with_reducible refine LeO.ite ?_ ?_)
      | (with_reducible refine LeO.bind ?_ (fun _ => ?_))
      | exact ih0 _ _ _ _
      | exact spec_fnv.mono _ _ _
      | exact LeO.none _
      | refine LeO.ite ?_ ?_
      | refine LeO.bind ?_ (fun _ => ?_)
set_option maxHeartbeats 8000000 in
set_option maxRecDepth 100000 in
theorem spec_SetFastPrint.calls (k : Nat) (A0 : Option Addr) (c0 : Nat) (l0 : List (S28)) (r : Int) (w : World) (hr0 : Kd.C k28 w A0 l0.length l0) (hc0 : l0.length ≤ c0) (h : spec_SetFastPrint.f k l0 = some r) :
    Calls Try.prog 34 #[.slice A0 l0.length c0] w fun e w' => e = .returned (.int .u64 r) ∧ Below w.heap.size w w' := by
  have HR0 := Aside0.mk hr0
  have HC0 := Aside0.mk hc0
  clear hr0 hc0
  have HB := Aside0.mk (Below.refl w.heap.size w)
  have H : ((spec_Set.f l0).bind fun t195 => (if (t195.length : Int) = 0 then (some 14695981039346656037) else (spec_SetFastPrint.l0 k t195 0 (t195.length : Int) 0))) = some r := h
  clear h
  replace H := Option.bind_eq_some_iff.mp H
  obtain ⟨t195, A20, H⟩ := H
  replace H : (if (t195.length : Int) = 0 then (some 14695981039346656037) else (spec_SetFastPrint.l0 k t195 0 (t195.length : Int) 0)) = some r := H
  have A2 := Aside0.mk A20
  clear A20
  by_cases c3 : (t195.length : Int) = 0
  · rw [if_pos c3] at H
    have c3b0 : ((t195.length : Int) == 0) = true := beq_iff_eq.mpr c3
    have c3b1 : ((t195.length : Int) != 0) = false := bne_eq_false_iff_eq.mpr c3
    clear c3
    obtain rfl := Option.some.inj H
    go_enter Try.func34, Try.ntmps34
    go_wp2_with (first | (go_at_call 58; (with_reducible refine (spec_Set.calls _ _ l0 t195 _ ?side1 ?side2 A2.out).mono ?_); (case side1 => repeat (first | exact HR0.out | (with_reducible refine Kd.C_alloc ?_ _) | (with_reducible refine Kd.C_drewN ?_ _) | (with_reducible refine Kd.C_drew ?_))); (case side2 => exact HC0.out); rintro e w4 ⟨v196, rfl, ho0, hb⟩; have n0_ := Aside0.mk (Kd.R_lower ho0 (below_size (by repeat (first | (with_reducible first | exact HB.out | apply below_alloc | apply pw_below_drewN | apply below_drew1) | exact HB.out)))); have n1_ := Aside0.mk (below_step (by repeat (first | (with_reducible first | exact HB.out | apply below_alloc | apply pw_below_drewN | apply below_drew1) | exact HB.out)) hb); clear HB; have HO197 := n0_; have HB := n1_; clear n0_ n1_; (try clear hb); (try clear hb2); (try clear hk); (try clear hi); (try clear ho0); obtain ⟨Ao5, co5, eo5⟩ := Kd.R_slice HO197.out; subst eo5))
    repeat (go_quiet (first | (go_at_call 58; (with_reducible refine (spec_Set.calls _ _ l0 t195 _ ?side1 ?side2 A2.out).mono ?_); (case side1 => repeat (first | exact HR0.out | (with_reducible refine Kd.C_alloc ?_ _) | (with_reducible refine Kd.C_drewN ?_ _) | (with_reducible refine Kd.C_drew ?_))); (case side2 => exact HC0.out); rintro e w4 ⟨v196, rfl, ho0, hb⟩; have n0_ := Aside0.mk (Kd.R_lower ho0 (below_size (by repeat (first | (with_reducible first | exact HB.out | apply below_alloc | apply pw_below_drewN | apply below_drew1) | exact HB.out)))); have n1_ := Aside0.mk (below_step (by repeat (first | (with_reducible first | exact HB.out | apply below_alloc | apply pw_below_drewN | apply below_drew1) | exact HB.out)) hb); clear HB; have HO197 := n0_; have HB := n1_; clear n0_ n1_; (try clear hb); (try clear hb2); (try clear hk); (try clear hi); (try clear ho0); obtain ⟨Ao5, co5, eo5⟩ := Kd.R_slice HO197.out; subst eo5)); try go_wp2_with (first | (go_at_call 58; (with_reducible refine (spec_Set.calls _ _ l0 t195 _ ?side1 ?side2 A2.out).mono ?_); (case side1 => repeat (first | exact HR0.out | (with_reducible refine Kd.C_alloc ?_ _) | (with_reducible refine Kd.C_drewN ?_ _) | (with_reducible refine Kd.C_drew ?_))); (case side2 => exact HC0.out); rintro e w4 ⟨v196, rfl, ho0, hb⟩; have n0_ := Aside0.mk (Kd.R_lower ho0 (below_size (by repeat (first | (with_reducible first | exact HB.out | apply below_alloc | apply pw_below_drewN | apply below_drew1) | exact HB.out)))); have n1_ := Aside0.mk (below_step (by repeat (first | (with_reducible first | exact HB.out | apply below_alloc | apply pw_below_drewN | apply below_drew1) | exact HB.out)) hb); clear HB; have HO197 := n0_; have HB := n1_; clear n0_ n1_; (try clear hb); (try clear hb2); (try clear hk); (try clear hi); (try clear ho0); obtain ⟨Ao5, co5, eo5⟩ := Kd.R_slice HO197.out; subst eo5)))
    go_ret
    exact ⟨by first | rfl | (simp [errW_none, errW_some] <;> rfl) | (simp [*, errW_none, errW_some] <;> rfl) | (simp [*, q_isEmpty]; done), by repeat (first | (with_reducible first | exact HB.out | apply below_alloc | apply pw_below_drewN | apply below_drew1) | exact HB.out)⟩
  · rw [if_neg c3] at H
    have c3b0 : ((t195.length : Int) == 0) = false := beq_eq_false_iff_ne.mpr c3
    have c3b1 : ((t195.length : Int) != 0) = true := bne_iff_ne.mpr c3
    have c3b2 : ¬ (t195 = []) := fun h_ => c3 (by rw [h_]; rfl)
    have H' := Aside0.mk H
    clear H
    go_enter Try.func34, Try.ntmps34
    go_wp2_with (first | (go_at_call 58; (with_reducible refine (spec_Set.calls _ _ l0 t195 _ ?side1 ?side2 A2.out).mono ?_); (case side1 => repeat (first | exact HR0.out | (with_reducible refine Kd.C_alloc ?_ _) | (with_reducible refine Kd.C_drewN ?_ _) | (with_reducible refine Kd.C_drew ?_))); (case side2 => exact HC0.out); rintro e w6 ⟨v196, rfl, ho0, hb⟩; have n0_ := Aside0.mk (Kd.R_lower ho0 (below_size (by repeat (first | (with_reducible first | exact HB.out | apply below_alloc | apply pw_below_drewN | apply below_drew1) | exact HB.out)))); have n1_ := Aside0.mk (below_step (by repeat (first | (with_reducible first | exact HB.out | apply below_alloc | apply pw_below_drewN | apply below_drew1) | exact HB.out)) hb); clear HB; have HO197 := n0_; have HB := n1_; clear n0_ n1_; (try clear hb); (try clear hb2); (try clear hk); (try clear hi); (try clear ho0); obtain ⟨Ao7, co7, eo7⟩ := Kd.R_slice HO197.out; subst eo7))
    repeat (go_quiet (first | (go_at_call 58; (with_reducible refine (spec_Set.calls _ _ l0 t195 _ ?side1 ?side2 A2.out).mono ?_); (case side1 => repeat (first | exact HR0.out | (with_reducible refine Kd.C_alloc ?_ _) | (with_reducible refine Kd.C_drewN ?_ _) | (with_reducible refine Kd.C_drew ?_))); (case side2 => exact HC0.out); rintro e w6 ⟨v196, rfl, ho0, hb⟩; have n0_ := Aside0.mk (Kd.R_lower ho0 (below_size (by repeat (first | (with_reducible first | exact HB.out | apply below_alloc | apply pw_below_drewN | apply below_drew1) | exact HB.out)))); have n1_ := Aside0.mk (below_step (by repeat (first | (with_reducible first | exact HB.out | apply below_alloc | apply pw_below_drewN | apply below_drew1) | exact HB.out)) hb); clear HB; have HO197 := n0_; have HB := n1_; clear n0_ n1_; (try clear hb); (try clear hb2); (try clear hk); (try clear hi); (try clear ho0); obtain ⟨Ao7, co7, eo7⟩ := Kd.R_slice HO197.out; subst eo7)); try go_wp2_with (first | (go_at_call 58; (with_reducible refine (spec_Set.calls _ _ l0 t195 _ ?side1 ?side2 A2.out).mono ?_); (case side1 => repeat (first | exact HR0.out | (with_reducible refine Kd.C_alloc ?_ _) | (with_reducible refine Kd.C_drewN ?_ _) | (with_reducible refine Kd.C_drew ?_))); (case side2 => exact HC0.out); rintro e w6 ⟨v196, rfl, ho0, hb⟩; have n0_ := Aside0.mk (Kd.R_lower ho0 (below_size (by repeat (first | (with_reducible first | exact HB.out | apply below_alloc | apply pw_below_drewN | apply below_drew1) | exact HB.out)))); have n1_ := Aside0.mk (below_step (by repeat (first | (with_reducible first | exact HB.out | apply below_alloc | apply pw_below_drewN | apply below_drew1) | exact HB.out)) hb); clear HB; have HO197 := n0_; have HB := n1_; clear n0_ n1_; (try clear hb); (try clear hb2); (try clear hk); (try clear hi); (try clear ho0); obtain ⟨Ao7, co7, eo7⟩ := Kd.R_slice HO197.out; subst eo7)))
    go_loopg [4, 13] k (fun kq v4 v13 w' => ∃ (x4_1 : Int) (x13_1 : Int), v4 = .int .u64 x4_1 ∧ v13 = .int .i64 x13_1 ∧ Aside0 (spec_SetFastPrint.l0 kq t195 x4_1 (t195.length : Int) x13_1 = some r) ∧ Aside0 (kq ≤ k) ∧ Aside0 (Kd.R k28 28 w' w.heap.size (fun _ => True) (.slice Ao7 t195.length co7) t195) ∧ Aside0 (Below w.heap.size w w'))
    case atStart => exact ⟨(0), (0), (by first | rfl | (simp; done) | (simp [*]; done) | (simp [*, q_isEmpty]; done)), (by first | rfl | (simp; done) | (simp [*]; done) | (simp [*, q_isEmpty]; done)), H', ⟨Nat.le_refl _⟩, ⟨by (with_reducible repeat (first | apply Kd.R_alloc | apply Kd.R_drewN | apply Kd.R_drew)); exact HO197.out⟩, ⟨by repeat (first | (with_reducible first | exact HB.out | apply below_alloc | apply pw_below_drewN | apply below_drew1) | exact HB.out)⟩⟩
    case round =>
      clear H'
      try clear p2
      try clear c3
      try clear c3b0
      try clear c3b1
      try clear c3b2
      obtain ⟨x4_1, x13_1, rfl, rfl, HA, HK1, HO_3, HB⟩ := hrel
      cases gk with
      | zero => exact absurd HA.out (by simp [spec_SetFastPrint.l0])
      | succ k1 =>
        have H := HA.out
        clear HA
        simp only [spec_SetFastPrint.l0] at H
        by_cases c8 : x13_1 < (t195.length : Int)
        · rw [if_pos c8] at H
          have c8b0 : decide (x13_1 < (t195.length : Int)) = true := decide_eq_true c8
          clear c8
          by_cases c9 : 0 ≤ x13_1
          · rw [if_pos c9] at H
            have c9b0 : decide (0 ≤ x13_1) = true := decide_eq_true c9
            clear c9
            by_cases c10 : x13_1 < (t195.length : Int)
            · rw [if_pos c10] at H
              have c10b0 : decide (x13_1 < (t195.length : Int)) = true := decide_eq_true c10
              clear c10
              replace H := Option.bind_eq_some_iff.mp H
              obtain ⟨t199, A110, H⟩ := H
              replace H : ((spec_fnv.f k1 t199 (⟨#[255]⟩ : ByteArray)).bind fun t200 => ((spec_fnv.f k1 t200 ((rd_T28 t195 x13_1).f1)).bind fun t202 => (spec_SetFastPrint.l0 k1 t195 (Go.bits .xor .u64 x4_1 t202) (t195.length : Int) (wrap64 (x13_1 + 1))))) = some r := H
              have A11 := Aside0.mk A110
              clear A110
              replace H := Option.bind_eq_some_iff.mp H
              obtain ⟨t200, A120, H⟩ := H
              replace H : ((spec_fnv.f k1 t200 ((rd_T28 t195 x13_1).f1)).bind fun t202 => (spec_SetFastPrint.l0 k1 t195 (Go.bits .xor .u64 x4_1 t202) (t195.length : Int) (wrap64 (x13_1 + 1)))) = some r := H
              have A12 := Aside0.mk A120
              clear A120
              replace H := Option.bind_eq_some_iff.mp H
              obtain ⟨t202, A130, H⟩ := H
              replace H : (spec_SetFastPrint.l0 k1 t195 (Go.bits .xor .u64 x4_1 t202) (t195.length : Int) (wrap64 (x13_1 + 1))) = some r := H
              have A13 := Aside0.mk A130
              clear A130
              have H' := Aside0.mk H
              clear H
              have p198 : 0 ≤ (x13_1 : Int) := of_decide_eq_true (by first | (with_reducible assumption) | assumption)
              have q198 : x13_1 < (t195.length : Int) := of_decide_eq_true (by first | (with_reducible assumption) | assumption)
              obtain ⟨ad198, e198, hx198_0, hx198_1⟩ := at_T28 (Kd.R_reads' HO_3.out).2.2 x13_1 p198 q198
              cases e198
              replace p198 := eq_true p198
              replace q198 := eq_true q198
              go_wp2_with (first | (go_at_call 59; (with_reducible refine (spec_fnv.calls k1 14695981039346656037 ((rd_T28 t195 x13_1).f0) t199 _ A11.out).mono ?_); rintro e w' ⟨rfl, ⟨nd, rfl⟩⟩; (try first | exact ⟨rfl, _, World.drewN_drewN _ _ _⟩ | exact ⟨rfl, _, Eq.trans (World.drewN_drewN _ _ _) (congrArg (World.drewN _) (Nat.add_assoc _ _ _))⟩)) | (go_at_call 59; (with_reducible refine (spec_fnv.calls k1 t199 (⟨#[255]⟩ : ByteArray) t200 _ A12.out).mono ?_); rintro e w' ⟨rfl, ⟨nd, rfl⟩⟩; (try first | exact ⟨rfl, _, World.drewN_drewN _ _ _⟩ | exact ⟨rfl, _, Eq.trans (World.drewN_drewN _ _ _) (congrArg (World.drewN _) (Nat.add_assoc _ _ _))⟩); have p201 : 0 ≤ (x13_1 : Int) := of_decide_eq_true (by first | (with_reducible assumption) | assumption); have q201 : x13_1 < (t195.length : Int) := of_decide_eq_true (by first | (with_reducible assumption) | assumption); obtain ⟨ad201, e201, hx201_0, hx201_1⟩ := at_T28 (Kd.R_reads' HO_3.out).2.2 x13_1 p201 q201; obtain rfl : ad198 = ad201 := (by injection e201); replace p201 := eq_true p201; replace q201 := eq_true q201) | (go_at_call 59; (with_reducible refine (spec_fnv.calls k1 t200 ((rd_T28 t195 x13_1).f1) t202 _ A13.out).mono ?_); rintro e w' ⟨rfl, ⟨nd, rfl⟩⟩; (try first | exact ⟨rfl, _, World.drewN_drewN _ _ _⟩ | exact ⟨rfl, _, Eq.trans (World.drewN_drewN _ _ _) (congrArg (World.drewN _) (Nat.add_assoc _ _ _))⟩)))
              repeat (go_quiet (first | (go_at_call 59; (with_reducible refine (spec_fnv.calls k1 14695981039346656037 ((rd_T28 t195 x13_1).f0) t199 _ A11.out).mono ?_); rintro e w' ⟨rfl, ⟨nd, rfl⟩⟩; (try first | exact ⟨rfl, _, World.drewN_drewN _ _ _⟩ | exact ⟨rfl, _, Eq.trans (World.drewN_drewN _ _ _) (congrArg (World.drewN _) (Nat.add_assoc _ _ _))⟩)) | (go_at_call 59; (with_reducible refine (spec_fnv.calls k1 t199 (⟨#[255]⟩ : ByteArray) t200 _ A12.out).mono ?_); rintro e w' ⟨rfl, ⟨nd, rfl⟩⟩; (try first | exact ⟨rfl, _, World.drewN_drewN _ _ _⟩ | exact ⟨rfl, _, Eq.trans (World.drewN_drewN _ _ _) (congrArg (World.drewN _) (Nat.add_assoc _ _ _))⟩); have p201 : 0 ≤ (x13_1 : Int) := of_decide_eq_true (by first | (with_reducible assumption) | assumption); have q201 : x13_1 < (t195.length : Int) := of_decide_eq_true (by first | (with_reducible assumption) | assumption); obtain ⟨ad201, e201, hx201_0, hx201_1⟩ := at_T28 (Kd.R_reads' HO_3.out).2.2 x13_1 p201 q201; obtain rfl : ad198 = ad201 := (by injection e201); replace p201 := eq_true p201; replace q201 := eq_true q201) | (go_at_call 59; (with_reducible refine (spec_fnv.calls k1 t200 ((rd_T28 t195 x13_1).f1) t202 _ A13.out).mono ?_); rintro e w' ⟨rfl, ⟨nd, rfl⟩⟩; (try first | exact ⟨rfl, _, World.drewN_drewN _ _ _⟩ | exact ⟨rfl, _, Eq.trans (World.drewN_drewN _ _ _) (congrArg (World.drewN _) (Nat.add_assoc _ _ _))⟩))); try go_wp2_with (first | (go_at_call 59; (with_reducible refine (spec_fnv.calls k1 14695981039346656037 ((rd_T28 t195 x13_1).f0) t199 _ A11.out).mono ?_); rintro e w' ⟨rfl, ⟨nd, rfl⟩⟩; (try first | exact ⟨rfl, _, World.drewN_drewN _ _ _⟩ | exact ⟨rfl, _, Eq.trans (World.drewN_drewN _ _ _) (congrArg (World.drewN _) (Nat.add_assoc _ _ _))⟩)) | (go_at_call 59; (with_reducible refine (spec_fnv.calls k1 t199 (⟨#[255]⟩ : ByteArray) t200 _ A12.out).mono ?_); rintro e w' ⟨rfl, ⟨nd, rfl⟩⟩; (try first | exact ⟨rfl, _, World.drewN_drewN _ _ _⟩ | exact ⟨rfl, _, Eq.trans (World.drewN_drewN _ _ _) (congrArg (World.drewN _) (Nat.add_assoc _ _ _))⟩); have p201 : 0 ≤ (x13_1 : Int) := of_decide_eq_true (by first | (with_reducible assumption) | assumption); have q201 : x13_1 < (t195.length : Int) := of_decide_eq_true (by first | (with_reducible assumption) | assumption); obtain ⟨ad201, e201, hx201_0, hx201_1⟩ := at_T28 (Kd.R_reads' HO_3.out).2.2 x13_1 p201 q201; obtain rfl : ad198 = ad201 := (by injection e201); replace p201 := eq_true p201; replace q201 := eq_true q201) | (go_at_call 59; (with_reducible refine (spec_fnv.calls k1 t200 ((rd_T28 t195 x13_1).f1) t202 _ A13.out).mono ?_); rintro e w' ⟨rfl, ⟨nd, rfl⟩⟩; (try first | exact ⟨rfl, _, World.drewN_drewN _ _ _⟩ | exact ⟨rfl, _, Eq.trans (World.drewN_drewN _ _ _) (congrArg (World.drewN _) (Nat.add_assoc _ _ _))⟩))))
              go_roundg k1
              case measure => have := HK1.out; omega
              case rel => exact ⟨(Go.bits .xor .u64 x4_1 t202), (wrap64 (x13_1 + 1)), (by first | rfl | (simp; done) | (simp [*]; done) | (simp [*, q_isEmpty]; done)), (by first | rfl | (simp; done) | (simp [*]; done) | (simp [*, q_isEmpty]; done)), H', ⟨by have := HK1.out; omega⟩, ⟨by (with_reducible repeat (first | apply Kd.R_alloc | apply Kd.R_drewN | apply Kd.R_drew)); exact HO_3.out⟩, ⟨by repeat (first | (with_reducible first | exact HB.out | apply below_alloc | apply pw_below_drewN | apply below_drew1) | exact HB.out)⟩⟩
            · rw [if_neg c10] at H
              exact absurd H (by simp)
          · rw [if_neg c9] at H
            exact absurd H (by simp)
        · rw [if_neg c8] at H
          have c8b0 : decide (x13_1 < (t195.length : Int)) = false := decide_eq_false c8
          clear c8
          obtain rfl := Option.some.inj H
          go_wp2
          repeat (go_quiet (fail); try go_wp2)
          go_ret
          exact ⟨by first | rfl | (simp [errW_none, errW_some] <;> rfl) | (simp [*, errW_none, errW_some] <;> rfl) | (simp [*, q_isEmpty]; done), by repeat (first | (with_reducible first | exact HB.out | apply below_alloc | apply pw_below_drewN | apply below_drew1) | exact HB.out)⟩

end Go.Proofs.Ytbcijcmmpbkkbaa.Q
