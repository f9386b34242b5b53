-- Printed for this seat by wip/pp.py of this repo; nothing here is trusted: Lean checks it.
import Derived.Test.YtikhlolhodgegaaQ0
import Derived.Test.YtikhlolhodgegaaHSetMerge
import Derived.Test.YtikhlolhodgegaaQlawseqSets
import Derived.Test.YtikhlolhodgegaaQlawsmuch
import Derived.Test.YtikhlolhodgegaaQlawszzFits1
namespace Go.Proofs.Ytikhlolhodgegaa.Q
open Go.RowKit Go.Proofs.YtikhlolhodgegaaW.PrintWords Go.Proofs.YtikhlolhodgegaaW.PrintLast Go.Proofs.YtikhlolhodgegaaW.PrintMore
attribute [local go_sem] max2_int min2_int max_two min_two max_three min_three max_four min_four   -- for this text's walks alone
set_option linter.unusedVariables false
set_option linter.unusedSimpArgs false

/-! ### laws_FnSetMerge: function 3 -/
mutual
def laws_FnSetMerge.j0 : Nat → List (S26) → List (S26) → Bool → Option (Bool)
  | 0, _, _, _ => none
  | k + 1, x0, x1, x12 => if x12 = true then (some true) else ((impl_SetMerge.f (([(⟨(⟨#[97]⟩ : ByteArray), (⟨#[]⟩ : ByteArray)⟩ : S26)] : List (S26))) (([(⟨(⟨#[98]⟩ : ByteArray), (⟨#[]⟩ : ByteArray)⟩ : S26)] : List (S26)))).bind fun t252 => (if (t252.length : Int) = 2 then ((laws_much.f x0).bind fun t255 => (if t255 = true then (laws_FnSetMerge.j1 k x0 x1 true) else ((laws_much.f x1).bind fun t256 => (laws_FnSetMerge.j1 k x0 x1 t256)))) else (some false)))
def laws_FnSetMerge.j1 : Nat → List (S26) → List (S26) → Bool → Option (Bool)
  | 0, _, _, _ => none
  | k + 1, x0, x1, x25 => if x25 = true then (some true) else ((impl_SetMerge.f x0 x1).bind fun t257 => ((some (([] : List (S26)) : List (S26))).bind fun y260 => (if y260.length + x0.length < 4398046511104 then ((some (y260 ++ x0 : List (S26))).bind fun y263 => (if y263.length + x1.length < 4398046511104 then ((laws_eqSets.f k t257 (y263 ++ x1)).bind fun t269 => (some t269)) else (none))) else (none))))
end
def laws_FnSetMerge.f (k : Nat) (l0 : List (S26)) (l1 : List (S26)) : Option (Bool) := (laws_zzFits1.f k l0).bind fun t244 => (if t244 = true then ((laws_zzFits1.f k l1).bind fun t245 => (laws_FnSetMerge.j0 k l0 l1 (!t245))) else (laws_FnSetMerge.j0 k l0 l1 true))
theorem laws_FnSetMerge.mono_l : ∀ k, (∀ y0 y1 y2, LeO (laws_FnSetMerge.j0 k y0 y1 y2) (laws_FnSetMerge.j0 (k + 1) y0 y1 y2)) ∧ (∀ y0 y1 y2, LeO (laws_FnSetMerge.j1 k y0 y1 y2) (laws_FnSetMerge.j1 (k + 1) y0 y1 y2))
  | 0 => ⟨fun _ _ _ r h => by simp [laws_FnSetMerge.j0] at h, fun _ _ _ r h => by simp [laws_FnSetMerge.j1] at h⟩
  | k + 1 => by
    obtain ⟨ih0, ih1⟩ := laws_FnSetMerge.mono_l k
    refine ⟨?_, ?_⟩
    · intro y0 y1 y2
      unfold laws_FnSetMerge.j0
      repeat' first
      | (with_reducible exact ih0 _ _ _)
      | (with_reducible exact ih1 _ _ _)
      | (with_reducible exact laws_eqSets.mono _ _ _)
      | (with_reducible exact laws_zzFits1.mono _ _)
      | (with_reducible exact LeO.refl _)
      | (with_reducible exact LeO.none _)
      | (with_reducible refine LeO.ite ?_ ?_)
      | (with_reducible refine LeO.bind ?_ (fun _ => ?_))
      | exact ih0 _ _ _
      | exact ih1 _ _ _
      | exact laws_eqSets.mono _ _ _
      | exact laws_zzFits1.mono _ _
      | exact LeO.none _
      | refine LeO.ite ?_ ?_
      | refine LeO.bind ?_ (fun _ => ?_)
    · intro y0 y1 y2
      unfold laws_FnSetMerge.j1
      repeat' first
      | (with_reducible exact ih0 _ _ _)
      | (with_reducible exact ih1 _ _ _)
      | (with_reducible exact laws_eqSets.mono _ _ _)
      | (with_reducible exact laws_zzFits1.mono _ _)
      | (with_reducible exact LeO.refl _)
      | (with_reducible exact LeO.none _)
      | (with_reducible refine LeO.ite ?_ ?_)
      | (with_reducible refine LeO.bind ?_ (fun _ => ?_))
      | exact ih0 _ _ _
      | exact ih1 _ _ _
      | exact laws_eqSets.mono _ _ _
      | exact laws_zzFits1.mono _ _
      | exact LeO.none _
      | refine LeO.ite ?_ ?_
      | refine LeO.bind ?_ (fun _ => ?_)
theorem laws_FnSetMerge.mono : ∀ a0 a1 k, LeO (laws_FnSetMerge.f k a0 a1) (laws_FnSetMerge.f (k + 1) a0 a1) := by
  intro a0 a1 k
  obtain ⟨ih0, ih1⟩ := laws_FnSetMerge.mono_l k
  unfold laws_FnSetMerge.f
  repeat' first
      | (with_reducible exact ih0 _ _ _)
      | (with_reducible exact ih1 _ _ _)
      | (with_reducible exact laws_eqSets.mono _ _ _)
      | (with_reducible exact laws_zzFits1.mono _ _)
      | (with_reducible exact LeO.refl _)
      | (with_reducible exact LeO.none _)
      | (with_reducible refine LeO.ite ?_ ?_)
      | (with_reducible refine LeO.bind ?_ (fun _ => ?_))
      | exact ih0 _ _ _
      | exact ih1 _ _ _
      | exact laws_eqSets.mono _ _ _
      | exact laws_zzFits1.mono _ _
      | exact LeO.none _
      | refine LeO.ite ?_ ?_
      | refine LeO.bind ?_ (fun _ => ?_)
set_option maxHeartbeats 8000000 in
set_option maxRecDepth 100000 in
theorem laws_FnSetMerge.calls (k : Nat) (A0 : Option Addr) (c0 : Nat) (l0 : List (S26)) (A1 : Option Addr) (c1 : Nat) (l1 : List (S26)) (r : Bool) (w : World) (hr0 : Kd.C k26 w A0 l0.length l0) (hc0 : l0.length ≤ c0) (hr1 : Kd.C k26 w A1 l1.length l1) (hc1 : l1.length ≤ c1) (h : laws_FnSetMerge.f k l0 l1 = some r) :
    Calls Try.prog 3 #[.slice A0 l0.length c0, .slice A1 l1.length c1] w fun e w' => e = .returned (.bool r) ∧ Below w.heap.size w w' := by
  have hu26 := Try.underlying26
  have HR0 := Aside0.mk hr0
  have HC0 := Aside0.mk hc0
  clear hr0 hc0
  have HR1 := Aside0.mk hr1
  have HC1 := Aside0.mk hc1
  clear hr1 hc1
  have HB := Aside0.mk (Below.refl w.heap.size w)
  have H : ((laws_zzFits1.f k l0).bind fun t244 => (if t244 = true then ((laws_zzFits1.f k l1).bind fun t245 => (laws_FnSetMerge.j0 k l0 l1 (!t245))) else (laws_FnSetMerge.j0 k l0 l1 true))) = some r := h
  clear h
  have HC3 := Aside0.mk H
  clear H
  go_enter Try.func3, Try.ntmps3
  go_upto_region 1 with (fail)
  go_cut [12] (fun v12 wc => ∃ (kq : Nat) (x12_2 : Bool), v12 = .bool x12_2 ∧ Aside0 (laws_FnSetMerge.j0 kq l0 l1 x12_2 = some r) ∧ Aside0 (kq ≤ k) ∧ Aside0 (Below w.heap.size w wc))
  case first =>
    have H := HC3.out
    clear HC3
    replace H := Option.bind_eq_some_iff.mp H
    obtain ⟨t244, A40, H⟩ := H
    replace H : (if t244 = true then ((laws_zzFits1.f k l1).bind fun t245 => (laws_FnSetMerge.j0 k l0 l1 (!t245))) else (laws_FnSetMerge.j0 k l0 l1 true)) = some r := H
    have A4 := Aside0.mk A40
    clear A40
    by_cases c5 : t244 = true
    · subst c5
      have H1 : ((laws_zzFits1.f k l1).bind fun t245 => (laws_FnSetMerge.j0 k l0 l1 (!t245))) = some r := by rw [if_pos rfl] at H; exact H
      clear H
      have H := H1
      clear H1
      replace H := Option.bind_eq_some_iff.mp H
      obtain ⟨t245, A60, H⟩ := H
      replace H : (laws_FnSetMerge.j0 k l0 l1 (!t245)) = some r := H
      have A6 := Aside0.mk A60
      clear A60
      have H' := Aside0.mk H
      clear H
      go_wp2_with (first | ((with_reducible refine gate_callee (f := 14) rfl ?_); refine goesL_ (some 6) rfl rfl Try.func14 (by kernel_rfl) rfl #[.slice A0 l0.length c0] rfl (by (try simp only [List.map_toArray, List.map_cons, List.map_nil]); first | done | rfl | (simp only [List.length_drop, List.length_take]; rfl)) ?_; (with_reducible refine (laws_zzFits1.calls k _ _ l0 true _ ?side1 ?side2 A4.out).mono ?_); (case side1 => repeat (first | exact (Kd.C_below HR0.out HB.out) | (with_reducible refine Kd.C_alloc ?_ _) | (with_reducible refine Kd.C_drewN ?_ _) | (with_reducible refine Kd.C_drew ?_))); (case side2 => exact HC0.out); rintro e w7 ⟨rfl, hb⟩; refine ⟨_, rfl, ?_⟩; have n0_ := Aside0.mk (below_step (by repeat (first | (with_reducible first | exact HB.out | apply below_alloc | apply pw_below_drewN | apply below_drew1) | exact HB.out)) hb); clear HB; have HB := n0_; clear n0_; (try clear hb); (try clear hb2); (try clear hk); (try clear hi)) | (go_at_call 14; (with_reducible refine (laws_zzFits1.calls k _ _ l1 t245 _ ?side1 ?side2 A6.out).mono ?_); (case side1 => repeat (first | exact (Kd.C_below HR1.out HB.out) | (with_reducible refine Kd.C_alloc ?_ _) | (with_reducible refine Kd.C_drewN ?_ _) | (with_reducible refine Kd.C_drew ?_))); (case side2 => exact HC1.out); rintro e w8 ⟨rfl, hb⟩; have n0_ := Aside0.mk (below_step (by repeat (first | (with_reducible first | exact HB.out | apply below_alloc | apply pw_below_drewN | apply below_drew1) | exact HB.out)) hb); clear HB; have HB := n0_; clear n0_; (try clear hb); (try clear hb2); (try clear hk); (try clear hi)))
      go_meet
      case rel => exact ⟨_, (!t245), (by first | rfl | (simp; done) | (simp [*]; done) | (simp [*, q_isEmpty]; done)), H', ⟨by first | omega | exact Nat.le_refl _⟩, ⟨by repeat (first | (with_reducible first | exact HB.out | apply below_alloc | apply pw_below_drewN | apply below_drew1) | exact HB.out)⟩⟩
    · replace c5 := Bool.eq_false_iff.mpr c5
      subst c5
      have H1 : (laws_FnSetMerge.j0 k l0 l1 true) = some r := by rw [if_neg (show ¬ (false = true) by decide)] at H; exact H
      clear H
      have H := H1
      clear H1
      have H' := Aside0.mk H
      clear H
      go_wp2_with (first | ((with_reducible refine gate_callee (f := 14) rfl ?_); refine goesL_ (some 6) rfl rfl Try.func14 (by kernel_rfl) rfl #[.slice A0 l0.length c0] rfl (by (try simp only [List.map_toArray, List.map_cons, List.map_nil]); first | done | rfl | (simp only [List.length_drop, List.length_take]; rfl)) ?_; (with_reducible refine (laws_zzFits1.calls k _ _ l0 false _ ?side1 ?side2 A4.out).mono ?_); (case side1 => repeat (first | exact (Kd.C_below HR0.out HB.out) | (with_reducible refine Kd.C_alloc ?_ _) | (with_reducible refine Kd.C_drewN ?_ _) | (with_reducible refine Kd.C_drew ?_))); (case side2 => exact HC0.out); rintro e w9 ⟨rfl, hb⟩; refine ⟨_, rfl, ?_⟩; have n0_ := Aside0.mk (below_step (by repeat (first | (with_reducible first | exact HB.out | apply below_alloc | apply pw_below_drewN | apply below_drew1) | exact HB.out)) hb); clear HB; have HB := n0_; clear n0_; (try clear hb); (try clear hb2); (try clear hk); (try clear hi)))
      go_meet
      case rel => exact ⟨_, (true), (by first | rfl | (simp; done) | (simp [*]; done) | (simp [*, q_isEmpty]; done)), H', ⟨by first | omega | exact Nat.le_refl _⟩, ⟨by repeat (first | (with_reducible first | exact HB.out | apply below_alloc | apply pw_below_drewN | apply below_drew1) | exact HB.out)⟩⟩
  case rest =>
    clear HC3
    try clear c1
    try clear p2
    try clear c3
    try clear c5
    obtain ⟨kq, x12_2, rfl, HA, HJ2, HB⟩ := hcut
    cases kq with
    | zero => exact absurd HA.out (by simp [laws_FnSetMerge.j0])
    | succ kj2 =>
      have H := HA.out
      clear HA
      simp only [laws_FnSetMerge.j0] at H
      by_cases c10 : x12_2 = true
      · subst c10
        have H1 : (some true) = some r := by rw [if_pos rfl] at H; exact H
        clear H
        have H := H1
        clear H1
        obtain rfl := Option.some.inj H
        go_wp2
        go_ret
        exact ⟨by first | rfl | (simp [errW_none, errW_some] <;> rfl) | (simp [*, errW_none, errW_some] <;> rfl) | (simp [*, q_isEmpty]; done), by repeat (first | (with_reducible first | exact HB.out | apply below_alloc | apply pw_below_drewN | apply below_drew1) | exact HB.out)⟩
      · replace c10 := Bool.eq_false_iff.mpr c10
        subst c10
        have H1 : ((impl_SetMerge.f (([(⟨(⟨#[97]⟩ : ByteArray), (⟨#[]⟩ : ByteArray)⟩ : S26)] : List (S26))) (([(⟨(⟨#[98]⟩ : ByteArray), (⟨#[]⟩ : ByteArray)⟩ : S26)] : List (S26)))).bind fun t252 => (if (t252.length : Int) = 2 then ((laws_much.f l0).bind fun t255 => (if t255 = true then (laws_FnSetMerge.j1 kj2 l0 l1 true) else ((laws_much.f l1).bind fun t256 => (laws_FnSetMerge.j1 kj2 l0 l1 t256)))) else (some false))) = some r := by rw [if_neg (show ¬ (false = true) by decide)] at H; exact H
        clear H
        have H := H1
        clear H1
        obtain ⟨y246, hy246⟩ : ∃ y_ : List (S26), y_ = (([(⟨(⟨#[97]⟩ : ByteArray), (⟨#[]⟩ : ByteArray)⟩ : S26)] : List (S26))) := ⟨_, rfl⟩
        replace H : ((impl_SetMerge.f y246 (([(⟨(⟨#[98]⟩ : ByteArray), (⟨#[]⟩ : ByteArray)⟩ : S26)] : List (S26)))).bind fun t252 => (if (t252.length : Int) = 2 then ((laws_much.f l0).bind fun t255 => (if t255 = true then (laws_FnSetMerge.j1 kj2 l0 l1 true) else ((laws_much.f l1).bind fun t256 => (laws_FnSetMerge.j1 kj2 l0 l1 t256)))) else (some false))) = some r := by first | (rw [hy246]; with_reducible exact H) | (have H2_ := (Option.bind_some _ _).symm.trans H; rw [hy246]; with_reducible exact H2_) | (have H2_ := (Option.bind_some _ _).symm.trans H; with_reducible exact H2_) | with_reducible exact H | (rw [hy246]; exact H) | exact H
        have Ny246 := Aside0.mk hy246
        clear hy246
        obtain ⟨y249, hy249⟩ : ∃ y_ : List (S26), y_ = (([(⟨(⟨#[98]⟩ : ByteArray), (⟨#[]⟩ : ByteArray)⟩ : S26)] : List (S26))) := ⟨_, rfl⟩
        replace H : ((impl_SetMerge.f y246 y249).bind fun t252 => (if (t252.length : Int) = 2 then ((laws_much.f l0).bind fun t255 => (if t255 = true then (laws_FnSetMerge.j1 kj2 l0 l1 true) else ((laws_much.f l1).bind fun t256 => (laws_FnSetMerge.j1 kj2 l0 l1 t256)))) else (some false))) = some r := by first | (rw [hy249]; with_reducible exact H) | (have H2_ := (Option.bind_some _ _).symm.trans H; rw [hy249]; with_reducible exact H2_) | (have H2_ := (Option.bind_some _ _).symm.trans H; with_reducible exact H2_) | with_reducible exact H | (rw [hy249]; exact H) | exact H
        have Ny249 := Aside0.mk hy249
        clear hy249
        replace H := Option.bind_eq_some_iff.mp H
        obtain ⟨t252, A110, H⟩ := H
        replace H : (if (t252.length : Int) = 2 then ((laws_much.f l0).bind fun t255 => (if t255 = true then (laws_FnSetMerge.j1 kj2 l0 l1 true) else ((laws_much.f l1).bind fun t256 => (laws_FnSetMerge.j1 kj2 l0 l1 t256)))) else (some false)) = some r := H
        have A11 := Aside0.mk A110
        clear A110
        by_cases c12 : (t252.length : Int) = 2
        · rw [if_pos c12] at H
          have c12b0 : ((t252.length : Int) == 2) = true := beq_iff_eq.mpr c12
          have c12b1 : ((t252.length : Int) != 2) = false := bne_eq_false_iff_eq.mpr c12
          clear c12
          have HC13 := Aside0.mk H
          clear H
          go_upto_region 5 with (first | ((with_reducible refine gate_dst (N := 14) rfl ?_); refine Kd.R_lit k26 _ 26 ?hg (N := 14) ?hd (xs := ([(⟨(⟨#[97]⟩ : ByteArray), (⟨#[]⟩ : ByteArray)⟩ : S26)] : List (S26))) (inner := [.string (⟨#[97]⟩ : ByteArray), .string (⟨#[]⟩ : ByteArray)]) (ok := fun _ => True) (okp := fun _ => True) ?hr ?hp (fun _ hk => hk) trivial (Below.refl _ _) (Nat.le_refl _) (by simp) ?_; (case hd => rfl); (case hg => rfl); (case hr => first | (go_simp; done) | (go_simp; rfl)); (case hp => exact (Reps.c2 (show Kd.M k26 _ _ _ (⟨(⟨#[97]⟩ : ByteArray), (⟨#[]⟩ : ByteArray)⟩ : S26) [.string (⟨#[97]⟩ : ByteArray), .string (⟨#[]⟩ : ByteArray)] from (k26_mkM _ _ _ (⟨(⟨#[97]⟩ : ByteArray), (⟨#[]⟩ : ByteArray)⟩ : S26) )) (Reps.none _ _))); intro v247 w14 ho15 hb hg_ hnew_; clear hg_ hnew_; (first | rw [← Ny246.out] at ho15 | (simp only [Int.reduceToNat] at ho15; rw [← Ny246.out] at ho15)); have n0_ := Aside0.mk (Kd.R_lower ho15 (below_size (by repeat (first | (with_reducible first | exact HB.out | apply below_alloc | apply pw_below_drewN | apply below_drew1) | exact HB.out)))); have n1_ := Aside0.mk (below_step (by repeat (first | (with_reducible first | exact HB.out | apply below_alloc | apply pw_below_drewN | apply below_drew1) | exact HB.out)) hb); clear HB; have HO248 := n0_; have HB := n1_; clear n0_ n1_; clear hb ho15) | ((with_reducible refine gate_dst (N := 16) rfl ?_); refine Kd.R_lit k26 _ 26 ?hg (N := 16) ?hd (xs := ([(⟨(⟨#[98]⟩ : ByteArray), (⟨#[]⟩ : ByteArray)⟩ : S26)] : List (S26))) (inner := [.string (⟨#[98]⟩ : ByteArray), .string (⟨#[]⟩ : ByteArray)]) (ok := fun _ => True) (okp := fun _ => True) ?hr ?hp (fun _ hk => hk) trivial (Below.refl _ _) (Nat.le_refl _) (by simp) ?_; (case hd => rfl); (case hg => rfl); (case hr => first | (go_simp; done) | (go_simp; rfl)); (case hp => exact (Reps.c2 (show Kd.M k26 _ _ _ (⟨(⟨#[98]⟩ : ByteArray), (⟨#[]⟩ : ByteArray)⟩ : S26) [.string (⟨#[98]⟩ : ByteArray), .string (⟨#[]⟩ : ByteArray)] from (k26_mkM _ _ _ (⟨(⟨#[98]⟩ : ByteArray), (⟨#[]⟩ : ByteArray)⟩ : S26) )) (Reps.none _ _))); intro v250 w16 ho17 hb hg_ hnew_; clear hg_ hnew_; (first | rw [← Ny249.out] at ho17 | (simp only [Int.reduceToNat] at ho17; rw [← Ny249.out] at ho17)); have n0_ := Aside0.mk (Kd.R_elder' (by (with_reducible repeat (first | apply Kd.R_alloc | apply Kd.R_drewN | apply Kd.R_drew)); exact HO248.out) (Kd.R_base ho17) hb); have n1_ := Aside0.mk (Kd.R_lower (Kd.R_new' ho17 (Kd.R_lt (by (with_reducible repeat (first | apply Kd.R_alloc | apply Kd.R_drewN | apply Kd.R_drew)); exact HO248.out))) (below_size (by repeat (first | (with_reducible first | exact HB.out | apply below_alloc | apply pw_below_drewN | apply below_drew1) | exact HB.out)))); have n2_ := Aside0.mk (below_step (by repeat (first | (with_reducible first | exact HB.out | apply below_alloc | apply pw_below_drewN | apply below_drew1) | exact HB.out)) hb); clear HO248; clear HB; have HO248 := n0_; have HO251 := n1_; have HB := n2_; clear n0_ n1_ n2_; clear hb ho17; obtain ⟨Ao18, co18, eo18⟩ := Kd.R_slice HO248.out; subst eo18; obtain ⟨Ao19, co19, eo19⟩ := Kd.R_slice HO251.out; subst eo19) | ((with_reducible refine gate_callee (f := 15) rfl ?_); refine goesL_ (some 17) rfl rfl Try.func15 (by kernel_rfl) rfl #[.slice Ao18 y246.length co18, .slice Ao19 y249.length co19] rfl (by (try simp only [List.map_toArray, List.map_cons, List.map_nil]); first | done | rfl | (simp only [List.length_drop, List.length_take]; rfl)) ?_; (with_reducible refine (impl_SetMerge.calls _ _ y246 _ _ y249 t252 _ ?side1 ?side2 ?side3 ?side4 A11.out).mono ?_); (case side1 => repeat (first | exact (Kd.R_reads' HO248.out).2.2 | (with_reducible refine Kd.C_alloc ?_ _) | (with_reducible refine Kd.C_drewN ?_ _) | (with_reducible refine Kd.C_drew ?_))); (case side2 => exact (Kd.R_reads' HO248.out).2.1); (case side3 => repeat (first | exact (Kd.R_reads' HO251.out).2.2 | (with_reducible refine Kd.C_alloc ?_ _) | (with_reducible refine Kd.C_drewN ?_ _) | (with_reducible refine Kd.C_drew ?_))); (case side4 => exact (Kd.R_reads' HO251.out).2.1); rintro e w20 ⟨v253, rfl, ho0, hb⟩; refine ⟨_, rfl, ?_⟩; have n0_ := Aside0.mk (Kd.R_elder' (by (with_reducible repeat (first | apply Kd.R_alloc | apply Kd.R_drewN | apply Kd.R_drew)); exact HO248.out) (Kd.R_base ho0) hb); have n1_ := Aside0.mk (Kd.R_elder' (by (with_reducible repeat (first | apply Kd.R_alloc | apply Kd.R_drewN | apply Kd.R_drew)); exact HO251.out) (Kd.R_base ho0) hb); have n2_ := Aside0.mk (Kd.R_lower (Kd.R_new' (Kd.R_new' ho0 (Kd.R_lt (by (with_reducible repeat (first | apply Kd.R_alloc | apply Kd.R_drewN | apply Kd.R_drew)); exact HO248.out))) (Kd.R_lt (by (with_reducible repeat (first | apply Kd.R_alloc | apply Kd.R_drewN | apply Kd.R_drew)); exact HO251.out))) (below_size (by repeat (first | (with_reducible first | exact HB.out | apply below_alloc | apply pw_below_drewN | apply below_drew1) | exact HB.out)))); have n3_ := Aside0.mk (below_step (by repeat (first | (with_reducible first | exact HB.out | apply below_alloc | apply pw_below_drewN | apply below_drew1) | exact HB.out)) hb); clear HO248; clear HO251; clear HB; have HO248 := n0_; have HO251 := n1_; have HO254 := n2_; have HB := n3_; clear n0_ n1_ n2_ n3_; (try clear hb); (try clear hb2); (try clear hk); (try clear hi); (try clear ho0); obtain ⟨Ao21, co21, eo21⟩ := Kd.R_slice HO254.out; subst eo21))
          (try simp only [Act.put, List.setIfInBounds_toArray, List.set_cons_zero, List.set_cons_succ])
          go_cut [25] (fun v25 wc => ∃ (kq : Nat) (x25_12 : Bool), v25 = .bool x25_12 ∧ Aside0 (laws_FnSetMerge.j1 kq l0 l1 x25_12 = some r) ∧ Aside0 (kq ≤ kj2) ∧ Aside0 (Below w.heap.size w wc))
          case first =>
            have H := HC13.out
            clear HC13
            replace H := Option.bind_eq_some_iff.mp H
            obtain ⟨t255, A220, H⟩ := H
            replace H : (if t255 = true then (laws_FnSetMerge.j1 kj2 l0 l1 true) else ((laws_much.f l1).bind fun t256 => (laws_FnSetMerge.j1 kj2 l0 l1 t256))) = some r := H
            have A22 := Aside0.mk A220
            clear A220
            by_cases c23 : t255 = true
            · subst c23
              have H1 : (laws_FnSetMerge.j1 kj2 l0 l1 true) = some r := by rw [if_pos rfl] at H; exact H
              clear H
              have H := H1
              clear H1
              have H' := Aside0.mk H
              clear H
              go_wp2_with (first | ((with_reducible refine gate_callee (f := 16) rfl ?_); refine goesL_ (some 21) rfl rfl Try.func16 (by kernel_rfl) rfl #[.slice A0 l0.length c0] rfl (by (try simp only [List.map_toArray, List.map_cons, List.map_nil]); first | done | rfl | (simp only [List.length_drop, List.length_take]; rfl)) ?_; (with_reducible refine (laws_much.calls _ _ l0 true _ ?side1 ?side2 A22.out).mono ?_); (case side1 => repeat (first | exact (Kd.C_below HR0.out HB.out) | (with_reducible refine Kd.C_alloc ?_ _) | (with_reducible refine Kd.C_drewN ?_ _) | (with_reducible refine Kd.C_drew ?_))); (case side2 => exact HC0.out); rintro e w' ⟨rfl, ⟨nd, rfl⟩⟩; refine ⟨_, rfl, ?_⟩))
              go_meet
              case rel => exact ⟨_, (true), (by first | rfl | (simp; done) | (simp [*]; done) | (simp [*, q_isEmpty]; done)), H', ⟨by have := HJ2.out; first | omega | exact Nat.le_refl _⟩, ⟨by repeat (first | (with_reducible first | exact HB.out | apply below_alloc | apply pw_below_drewN | apply below_drew1) | exact HB.out)⟩⟩
            · replace c23 := Bool.eq_false_iff.mpr c23
              subst c23
              have H1 : ((laws_much.f l1).bind fun t256 => (laws_FnSetMerge.j1 kj2 l0 l1 t256)) = some r := by rw [if_neg (show ¬ (false = true) by decide)] at H; exact H
              clear H
              have H := H1
              clear H1
              replace H := Option.bind_eq_some_iff.mp H
              obtain ⟨t256, A240, H⟩ := H
              replace H : (laws_FnSetMerge.j1 kj2 l0 l1 t256) = some r := H
              have A24 := Aside0.mk A240
              clear A240
              have H' := Aside0.mk H
              clear H
              go_wp2_with (first | ((with_reducible refine gate_callee (f := 16) rfl ?_); refine goesL_ (some 21) rfl rfl Try.func16 (by kernel_rfl) rfl #[.slice A0 l0.length c0] rfl (by (try simp only [List.map_toArray, List.map_cons, List.map_nil]); first | done | rfl | (simp only [List.length_drop, List.length_take]; rfl)) ?_; (with_reducible refine (laws_much.calls _ _ l0 false _ ?side1 ?side2 A22.out).mono ?_); (case side1 => repeat (first | exact (Kd.C_below HR0.out HB.out) | (with_reducible refine Kd.C_alloc ?_ _) | (with_reducible refine Kd.C_drewN ?_ _) | (with_reducible refine Kd.C_drew ?_))); (case side2 => exact HC0.out); rintro e w' ⟨rfl, ⟨nd, rfl⟩⟩; refine ⟨_, rfl, ?_⟩) | (go_at_call 16; (with_reducible refine (laws_much.calls _ _ l1 t256 _ ?side1 ?side2 A24.out).mono ?_); (case side1 => repeat (first | exact (Kd.C_below HR1.out (by repeat (first | (with_reducible first | exact HB.out | apply below_alloc | apply pw_below_drewN | apply below_drew1) | exact HB.out))) | (with_reducible refine Kd.C_alloc ?_ _) | (with_reducible refine Kd.C_drewN ?_ _) | (with_reducible refine Kd.C_drew ?_))); (case side2 => exact HC1.out); rintro e w' ⟨rfl, ⟨nd, rfl⟩⟩))
              go_meet
              case rel => exact ⟨_, (t256), (by first | rfl | (simp; done) | (simp [*]; done) | (simp [*, q_isEmpty]; done)), H', ⟨by have := HJ2.out; first | omega | exact Nat.le_refl _⟩, ⟨by repeat (first | (with_reducible first | exact HB.out | apply below_alloc | apply pw_below_drewN | apply below_drew1) | exact HB.out)⟩⟩
          case rest =>
            clear HC13
            try clear c1
            try clear c2
            try clear p2
            try clear c3
            try clear c5
            try clear c10
            try clear c12
            try clear c12b0
            try clear c12b1
            try clear c14
            try clear c15
            try clear c16
            try clear c23
            try clear p2
            obtain ⟨kq, x25_12, rfl, HA, HJ12, HB⟩ := hcut
            cases kq with
            | zero => exact absurd HA.out (by simp [laws_FnSetMerge.j1])
            | succ kj12 =>
              have H := HA.out
              clear HA
              simp only [laws_FnSetMerge.j1] at H
              by_cases c25 : x25_12 = true
              · subst c25
                have H1 : (some true) = some r := by rw [if_pos rfl] at H; exact H
                clear H
                have H := H1
                clear H1
                obtain rfl := Option.some.inj H
                go_wp2
                go_ret
                exact ⟨by first | rfl | (simp [errW_none, errW_some] <;> rfl) | (simp [*, errW_none, errW_some] <;> rfl) | (simp [*, q_isEmpty]; done), by repeat (first | (with_reducible first | exact HB.out | apply below_alloc | apply pw_below_drewN | apply below_drew1) | exact HB.out)⟩
              · replace c25 := Bool.eq_false_iff.mpr c25
                subst c25
                have H1 : ((impl_SetMerge.f l0 l1).bind fun t257 => ((some (([] : List (S26)) : List (S26))).bind fun y260 => (if y260.length + l0.length < 4398046511104 then ((some (y260 ++ l0 : List (S26))).bind fun y263 => (if y263.length + l1.length < 4398046511104 then ((laws_eqSets.f kj12 t257 (y263 ++ l1)).bind fun t269 => (some t269)) else (none))) else (none)))) = some r := by rw [if_neg (show ¬ (false = true) by decide)] at H; exact H
                clear H
                have H := H1
                clear H1
                replace H := Option.bind_eq_some_iff.mp H
                obtain ⟨t257, A260, H⟩ := H
                replace H : ((some (([] : List (S26)) : List (S26))).bind fun y260 => (if y260.length + l0.length < 4398046511104 then ((some (y260 ++ l0 : List (S26))).bind fun y263 => (if y263.length + l1.length < 4398046511104 then ((laws_eqSets.f kj12 t257 (y263 ++ l1)).bind fun t269 => (some t269)) else (none))) else (none))) = some r := H
                have A26 := Aside0.mk A260
                clear A260
                obtain ⟨y260, hy260⟩ : ∃ y_ : List (S26), y_ = (([] : List (S26))) := ⟨_, rfl⟩
                replace H : (if y260.length + l0.length < 4398046511104 then ((some (y260 ++ l0 : List (S26))).bind fun y263 => (if y263.length + l1.length < 4398046511104 then ((laws_eqSets.f kj12 t257 (y263 ++ l1)).bind fun t269 => (some t269)) else (none))) else (none)) = some r := by first | (rw [hy260]; with_reducible exact H) | (have H2_ := (Option.bind_some _ _).symm.trans H; rw [hy260]; with_reducible exact H2_) | (have H2_ := (Option.bind_some _ _).symm.trans H; with_reducible exact H2_) | with_reducible exact H | (rw [hy260]; exact H) | exact H
                have Ny260 := Aside0.mk hy260
                clear hy260
                by_cases c27 : y260.length + l0.length < 4398046511104
                · rw [if_pos c27] at H
                  have LMc27 := Aside0.mk c27
                  clear c27
                  obtain ⟨y263, hy263⟩ : ∃ y_ : List (S26), y_ = (y260 ++ l0) := ⟨_, rfl⟩
                  replace H : (if y263.length + l1.length < 4398046511104 then ((laws_eqSets.f kj12 t257 (y263 ++ l1)).bind fun t269 => (some t269)) else (none)) = some r := by first | (rw [hy263]; with_reducible exact H) | (have H2_ := (Option.bind_some _ _).symm.trans H; rw [hy263]; with_reducible exact H2_) | (have H2_ := (Option.bind_some _ _).symm.trans H; with_reducible exact H2_) | with_reducible exact H | (rw [hy263]; exact H) | exact H
                  have Ny263 := Aside0.mk hy263
                  clear hy263
                  by_cases c28 : y263.length + l1.length < 4398046511104
                  · rw [if_pos c28] at H
                    have LMc28 := Aside0.mk c28
                    clear c28
                    obtain ⟨y266, hy266⟩ : ∃ y_ : List (S26), y_ = (y263 ++ l1) := ⟨_, rfl⟩
                    replace H : ((laws_eqSets.f kj12 t257 y266).bind fun t269 => (some t269)) = some r := by first | (rw [hy266]; with_reducible exact H) | (have H2_ := (Option.bind_some _ _).symm.trans H; rw [hy266]; with_reducible exact H2_) | (have H2_ := (Option.bind_some _ _).symm.trans H; with_reducible exact H2_) | with_reducible exact H | (rw [hy266]; exact H) | exact H
                    have Ny266 := Aside0.mk hy266
                    clear hy266
                    replace H := Option.bind_eq_some_iff.mp H
                    obtain ⟨t269, A290, H⟩ := H
                    replace H : (some t269) = some r := H
                    have A29 := Aside0.mk A290
                    clear A290
                    obtain rfl := Option.some.inj H
                    go_wp2_with (first | ((with_reducible refine gate_callee (f := 15) rfl ?_); refine goesL_ (some 28) rfl rfl Try.func15 (by kernel_rfl) rfl #[.slice A0 l0.length c0, .slice A1 l1.length c1] rfl (by (try simp only [List.map_toArray, List.map_cons, List.map_nil]); first | done | rfl | (simp only [List.length_drop, List.length_take]; rfl)) ?_; (with_reducible refine (impl_SetMerge.calls _ _ l0 _ _ l1 t257 _ ?side1 ?side2 ?side3 ?side4 A26.out).mono ?_); (case side1 => repeat (first | exact (Kd.C_below HR0.out HB.out) | (with_reducible refine Kd.C_alloc ?_ _) | (with_reducible refine Kd.C_drewN ?_ _) | (with_reducible refine Kd.C_drew ?_))); (case side2 => exact HC0.out); (case side3 => repeat (first | exact (Kd.C_below HR1.out HB.out) | (with_reducible refine Kd.C_alloc ?_ _) | (with_reducible refine Kd.C_drewN ?_ _) | (with_reducible refine Kd.C_drew ?_))); (case side4 => exact HC1.out); rintro e w30 ⟨v258, rfl, ho0, hb⟩; refine ⟨_, rfl, ?_⟩; have n0_ := Aside0.mk (Kd.R_lower ho0 (below_size (by repeat (first | (with_reducible first | exact HB.out | apply below_alloc | apply pw_below_drewN | apply below_drew1) | exact HB.out)))); have n1_ := Aside0.mk (below_step (by repeat (first | (with_reducible first | exact HB.out | apply below_alloc | apply pw_below_drewN | apply below_drew1) | exact HB.out)) hb); clear HB; have HO259 := n0_; have HB := n1_; clear n0_ n1_; (try clear hb); (try clear hb2); (try clear hk); (try clear hi); (try clear ho0)) | ((with_reducible refine gate_dst (N := 29) rfl ?_); refine Kd.R_lit k26 _ 26 ?hg (N := 29) ?hd (xs := ([] : List (S26))) (inner := []) (ok := fun _ => True) (okp := fun _ => True) ?hr ?hp (fun _ hk => hk) trivial (Below.refl _ _) (Nat.le_refl _) (by simp) ?_; (case hd => rfl); (case hg => rfl); (case hr => first | (go_simp; done) | (go_simp; rfl)); (case hp => exact (Reps.none _ _)); intro v261 w31 ho32 hb hg_ hnew_; clear hg_ hnew_; (first | rw [← Ny260.out] at ho32 | (simp only [Int.reduceToNat] at ho32; rw [← Ny260.out] at ho32)); have n0_ := Aside0.mk (Kd.R_elder' (by (with_reducible repeat (first | apply Kd.R_alloc | apply Kd.R_drewN | apply Kd.R_drew)); exact HO259.out) (Kd.R_base ho32) hb); have n1_ := Aside0.mk (Kd.R_lower (Kd.R_new' ho32 (Kd.R_lt (by (with_reducible repeat (first | apply Kd.R_alloc | apply Kd.R_drewN | apply Kd.R_drew)); exact HO259.out))) (below_size (by repeat (first | (with_reducible first | exact HB.out | apply below_alloc | apply pw_below_drewN | apply below_drew1) | exact HB.out)))); have n2_ := Aside0.mk (below_step (by repeat (first | (with_reducible first | exact HB.out | apply below_alloc | apply pw_below_drewN | apply below_drew1) | exact HB.out)) hb); clear HO259; clear HB; have HO259 := n0_; have HO262 := n1_; have HB := n2_; clear n0_ n1_ n2_; clear hb ho32) | ((with_reducible refine gate_builtin (b := .append) (xs := #[.tmp 29, .tmp 30]) rfl ?_); at_builtin; refine Kd.R_append_rows k26 (w0 := w) w.heap.size rfl (.tmp 29) (.tmp 30) 22 26 (.agg #[(.string ⟨#[]⟩), (.string ⟨#[]⟩)]) 32 rfl Try.underlying22 info26 rfl (by decide) (by omega) v261 y260 l0 _ _ _ (fun k_ => some k_ ≠ (v258 : Value).ownBlock) (fun _ => False) rfl rfl ?aO ?aR (fun _ _ h => h) (fun _ h => h.elim) ?aF ?aB ?aS ?aL ?_; (case aR => repeat (first | exact (Kd.C_below HR0.out HB.out) | (with_reducible refine Kd.C_alloc ?_ _) | (with_reducible refine Kd.C_drewN ?_ _) | (with_reducible refine Kd.C_drew ?_))); (case aB => exact (by repeat (first | (with_reducible first | exact HB.out | apply below_alloc | apply pw_below_drewN | apply below_drew1) | exact HB.out))); (case aF => exact (fun k_ hk => Kd.fresh' (Kd.R_lt (by (with_reducible repeat (first | apply Kd.R_alloc | apply Kd.R_drewN | apply Kd.R_drew)); exact HO259.out)) k_ hk)); (case aO => exact (by (with_reducible repeat (first | apply Kd.R_alloc | apply Kd.R_drewN | apply Kd.R_drew)); exact Kd.R_mono HO262.out (fun _ hk => hk.2))); (case aS => exact (below_size (by repeat (first | (with_reducible first | exact HB.out | apply below_alloc | apply pw_below_drewN | apply below_drew1) | exact HB.out)))); (case aL => have := LMc27.out; omega); intro v264 w33 ho hb hg hat; rw [← Ny263.out] at ho; have n0_ := Aside0.mk (Kd.R_after (ok := (fun _ => True)) (by (with_reducible repeat (first | apply Kd.R_alloc | apply Kd.R_drewN | apply Kd.R_drew)); exact HO259.out) hg hat); have n1_ := Aside0.mk (hb); have n2_ := Aside0.mk (ho); clear HO259; clear HB; clear HO262; have HO259 := n0_; have HB := n1_; have HO265 := n2_; clear n0_ n1_ n2_; clear ho hb hg hat) | ((with_reducible refine gate_builtin (b := .append) (xs := #[.tmp 31, .tmp 32]) rfl ?_); at_builtin; refine Kd.R_append_rows k26 (w0 := w) w.heap.size rfl (.tmp 31) (.tmp 32) 22 26 (.agg #[(.string ⟨#[]⟩), (.string ⟨#[]⟩)]) 32 rfl Try.underlying22 info26 rfl (by decide) (by omega) v264 y263 l1 _ _ _ (fun k_ => some k_ ≠ (v258 : Value).ownBlock) (fun _ => False) rfl rfl ?aO ?aR (fun _ _ h => h) (fun _ h => h.elim) ?aF ?aB ?aS ?aL ?_; (case aR => repeat (first | exact (Kd.C_below HR1.out HB.out) | (with_reducible refine Kd.C_alloc ?_ _) | (with_reducible refine Kd.C_drewN ?_ _) | (with_reducible refine Kd.C_drew ?_))); (case aB => exact (by repeat (first | (with_reducible first | exact HB.out | apply below_alloc | apply pw_below_drewN | apply below_drew1) | exact HB.out))); (case aF => exact (fun k_ hk => Kd.fresh' (Kd.R_lt (by (with_reducible repeat (first | apply Kd.R_alloc | apply Kd.R_drewN | apply Kd.R_drew)); exact HO259.out)) k_ hk)); (case aO => exact (by (with_reducible repeat (first | apply Kd.R_alloc | apply Kd.R_drewN | apply Kd.R_drew)); exact HO265.out)); (case aS => exact (below_size (by repeat (first | (with_reducible first | exact HB.out | apply below_alloc | apply pw_below_drewN | apply below_drew1) | exact HB.out)))); (case aL => have := LMc28.out; omega); intro v267 w34 ho hb hg hat; rw [← Ny266.out] at ho; have n0_ := Aside0.mk (Kd.R_after (ok := (fun _ => True)) (by (with_reducible repeat (first | apply Kd.R_alloc | apply Kd.R_drewN | apply Kd.R_drew)); exact HO259.out) hg hat); have n1_ := Aside0.mk (hb); have n2_ := Aside0.mk (ho); clear HO259; clear HB; clear HO265; have HO259 := n0_; have HB := n1_; have HO268 := n2_; clear n0_ n1_ n2_; clear ho hb hg hat; obtain ⟨Ao35, co35, eo35⟩ := Kd.R_slice HO259.out; subst eo35; obtain ⟨Ao36, co36, eo36⟩ := Kd.R_slice HO268.out; subst eo36) | ((with_reducible refine gate_callee (f := 17) rfl ?_); refine goesL_ (some 34) rfl rfl Try.func17 (by kernel_rfl) rfl #[.slice Ao35 t257.length co35, .slice Ao36 y266.length co36] rfl (by (try simp only [List.map_toArray, List.map_cons, List.map_nil]); first | done | rfl | (simp only [List.length_drop, List.length_take]; rfl)) ?_; (with_reducible refine (laws_eqSets.calls kj12 _ _ t257 _ _ y266 t269 _ ?side1 ?side2 ?side3 ?side4 A29.out).mono ?_); (case side1 => repeat (first | exact (Kd.R_reads' HO259.out).2.2 | (with_reducible refine Kd.C_alloc ?_ _) | (with_reducible refine Kd.C_drewN ?_ _) | (with_reducible refine Kd.C_drew ?_))); (case side2 => exact (Kd.R_reads' HO259.out).2.1); (case side3 => repeat (first | exact (Kd.R_reads' HO268.out).2.2 | (with_reducible refine Kd.C_alloc ?_ _) | (with_reducible refine Kd.C_drewN ?_ _) | (with_reducible refine Kd.C_drew ?_))); (case side4 => exact (Kd.R_reads' HO268.out).2.1); rintro e w37 ⟨rfl, hb⟩; refine ⟨_, rfl, ?_⟩; have n0_ := Aside0.mk (Kd.R_below (by (with_reducible repeat (first | apply Kd.R_alloc | apply Kd.R_drewN | apply Kd.R_drew)); exact HO259.out) hb); have n1_ := Aside0.mk (Kd.R_below (by (with_reducible repeat (first | apply Kd.R_alloc | apply Kd.R_drewN | apply Kd.R_drew)); exact HO268.out) hb); have n2_ := Aside0.mk (below_step (by repeat (first | (with_reducible first | exact HB.out | apply below_alloc | apply pw_below_drewN | apply below_drew1) | exact HB.out)) hb); clear HO259; clear HO268; clear HB; have HO259 := n0_; have HO268 := n1_; have HB := n2_; clear n0_ n1_ n2_; (try clear hb); (try clear hb2); (try clear hk); (try clear hi)))
                    go_ret
                    exact ⟨by first | rfl | (simp [errW_none, errW_some] <;> rfl) | (simp [*, errW_none, errW_some] <;> rfl) | (simp [*, q_isEmpty]; done), by repeat (first | (with_reducible first | exact HB.out | apply below_alloc | apply pw_below_drewN | apply below_drew1) | exact HB.out)⟩
                  · rw [if_neg c28] at H
                    exact absurd H (by simp)
                · rw [if_neg c27] at H
                  exact absurd H (by simp)
        · rw [if_neg c12] at H
          have c12b0 : ((t252.length : Int) == 2) = false := beq_eq_false_iff_ne.mpr c12
          have c12b1 : ((t252.length : Int) != 2) = true := bne_iff_ne.mpr c12
          obtain rfl := Option.some.inj H
          go_wp2_with (first | ((with_reducible refine gate_dst (N := 14) rfl ?_); refine Kd.R_lit k26 _ 26 ?hg (N := 14) ?hd (xs := ([(⟨(⟨#[97]⟩ : ByteArray), (⟨#[]⟩ : ByteArray)⟩ : S26)] : List (S26))) (inner := [.string (⟨#[97]⟩ : ByteArray), .string (⟨#[]⟩ : ByteArray)]) (ok := fun _ => True) (okp := fun _ => True) ?hr ?hp (fun _ hk => hk) trivial (Below.refl _ _) (Nat.le_refl _) (by simp) ?_; (case hd => rfl); (case hg => rfl); (case hr => first | (go_simp; done) | (go_simp; rfl)); (case hp => exact (Reps.c2 (show Kd.M k26 _ _ _ (⟨(⟨#[97]⟩ : ByteArray), (⟨#[]⟩ : ByteArray)⟩ : S26) [.string (⟨#[97]⟩ : ByteArray), .string (⟨#[]⟩ : ByteArray)] from (k26_mkM _ _ _ (⟨(⟨#[97]⟩ : ByteArray), (⟨#[]⟩ : ByteArray)⟩ : S26) )) (Reps.none _ _))); intro v247 w38 ho39 hb hg_ hnew_; clear hg_ hnew_; (first | rw [← Ny246.out] at ho39 | (simp only [Int.reduceToNat] at ho39; rw [← Ny246.out] at ho39)); have n0_ := Aside0.mk (Kd.R_lower ho39 (below_size (by repeat (first | (with_reducible first | exact HB.out | apply below_alloc | apply pw_below_drewN | apply below_drew1) | exact HB.out)))); have n1_ := Aside0.mk (below_step (by repeat (first | (with_reducible first | exact HB.out | apply below_alloc | apply pw_below_drewN | apply below_drew1) | exact HB.out)) hb); clear HB; have HO248 := n0_; have HB := n1_; clear n0_ n1_; clear hb ho39) | ((with_reducible refine gate_dst (N := 16) rfl ?_); refine Kd.R_lit k26 _ 26 ?hg (N := 16) ?hd (xs := ([(⟨(⟨#[98]⟩ : ByteArray), (⟨#[]⟩ : ByteArray)⟩ : S26)] : List (S26))) (inner := [.string (⟨#[98]⟩ : ByteArray), .string (⟨#[]⟩ : ByteArray)]) (ok := fun _ => True) (okp := fun _ => True) ?hr ?hp (fun _ hk => hk) trivial (Below.refl _ _) (Nat.le_refl _) (by simp) ?_; (case hd => rfl); (case hg => rfl); (case hr => first | (go_simp; done) | (go_simp; rfl)); (case hp => exact (Reps.c2 (show Kd.M k26 _ _ _ (⟨(⟨#[98]⟩ : ByteArray), (⟨#[]⟩ : ByteArray)⟩ : S26) [.string (⟨#[98]⟩ : ByteArray), .string (⟨#[]⟩ : ByteArray)] from (k26_mkM _ _ _ (⟨(⟨#[98]⟩ : ByteArray), (⟨#[]⟩ : ByteArray)⟩ : S26) )) (Reps.none _ _))); intro v250 w40 ho41 hb hg_ hnew_; clear hg_ hnew_; (first | rw [← Ny249.out] at ho41 | (simp only [Int.reduceToNat] at ho41; rw [← Ny249.out] at ho41)); have n0_ := Aside0.mk (Kd.R_elder' (by (with_reducible repeat (first | apply Kd.R_alloc | apply Kd.R_drewN | apply Kd.R_drew)); exact HO248.out) (Kd.R_base ho41) hb); have n1_ := Aside0.mk (Kd.R_lower (Kd.R_new' ho41 (Kd.R_lt (by (with_reducible repeat (first | apply Kd.R_alloc | apply Kd.R_drewN | apply Kd.R_drew)); exact HO248.out))) (below_size (by repeat (first | (with_reducible first | exact HB.out | apply below_alloc | apply pw_below_drewN | apply below_drew1) | exact HB.out)))); have n2_ := Aside0.mk (below_step (by repeat (first | (with_reducible first | exact HB.out | apply below_alloc | apply pw_below_drewN | apply below_drew1) | exact HB.out)) hb); clear HO248; clear HB; have HO248 := n0_; have HO251 := n1_; have HB := n2_; clear n0_ n1_ n2_; clear hb ho41; obtain ⟨Ao42, co42, eo42⟩ := Kd.R_slice HO248.out; subst eo42; obtain ⟨Ao43, co43, eo43⟩ := Kd.R_slice HO251.out; subst eo43) | ((with_reducible refine gate_callee (f := 15) rfl ?_); refine goesL_ (some 17) rfl rfl Try.func15 (by kernel_rfl) rfl #[.slice Ao42 y246.length co42, .slice Ao43 y249.length co43] rfl (by (try simp only [List.map_toArray, List.map_cons, List.map_nil]); first | done | rfl | (simp only [List.length_drop, List.length_take]; rfl)) ?_; (with_reducible refine (impl_SetMerge.calls _ _ y246 _ _ y249 t252 _ ?side1 ?side2 ?side3 ?side4 A11.out).mono ?_); (case side1 => repeat (first | exact (Kd.R_reads' HO248.out).2.2 | (with_reducible refine Kd.C_alloc ?_ _) | (with_reducible refine Kd.C_drewN ?_ _) | (with_reducible refine Kd.C_drew ?_))); (case side2 => exact (Kd.R_reads' HO248.out).2.1); (case side3 => repeat (first | exact (Kd.R_reads' HO251.out).2.2 | (with_reducible refine Kd.C_alloc ?_ _) | (with_reducible refine Kd.C_drewN ?_ _) | (with_reducible refine Kd.C_drew ?_))); (case side4 => exact (Kd.R_reads' HO251.out).2.1); rintro e w44 ⟨v253, rfl, ho0, hb⟩; refine ⟨_, rfl, ?_⟩; have n0_ := Aside0.mk (Kd.R_elder' (by (with_reducible repeat (first | apply Kd.R_alloc | apply Kd.R_drewN | apply Kd.R_drew)); exact HO248.out) (Kd.R_base ho0) hb); have n1_ := Aside0.mk (Kd.R_elder' (by (with_reducible repeat (first | apply Kd.R_alloc | apply Kd.R_drewN | apply Kd.R_drew)); exact HO251.out) (Kd.R_base ho0) hb); have n2_ := Aside0.mk (Kd.R_lower (Kd.R_new' (Kd.R_new' ho0 (Kd.R_lt (by (with_reducible repeat (first | apply Kd.R_alloc | apply Kd.R_drewN | apply Kd.R_drew)); exact HO248.out))) (Kd.R_lt (by (with_reducible repeat (first | apply Kd.R_alloc | apply Kd.R_drewN | apply Kd.R_drew)); exact HO251.out))) (below_size (by repeat (first | (with_reducible first | exact HB.out | apply below_alloc | apply pw_below_drewN | apply below_drew1) | exact HB.out)))); have n3_ := Aside0.mk (below_step (by repeat (first | (with_reducible first | exact HB.out | apply below_alloc | apply pw_below_drewN | apply below_drew1) | exact HB.out)) hb); clear HO248; clear HO251; clear HB; have HO248 := n0_; have HO251 := n1_; have HO254 := n2_; have HB := n3_; clear n0_ n1_ n2_ n3_; (try clear hb); (try clear hb2); (try clear hk); (try clear hi); (try clear ho0); obtain ⟨Ao45, co45, eo45⟩ := Kd.R_slice HO254.out; subst eo45))
          go_ret
          exact ⟨by first | rfl | (simp [errW_none, errW_some] <;> rfl) | (simp [*, errW_none, errW_some] <;> rfl) | (simp [*, q_isEmpty]; done), by repeat (first | (with_reducible first | exact HB.out | apply below_alloc | apply pw_below_drewN | apply below_drew1) | exact HB.out)⟩

end Go.Proofs.Ytikhlolhodgegaa.Q
