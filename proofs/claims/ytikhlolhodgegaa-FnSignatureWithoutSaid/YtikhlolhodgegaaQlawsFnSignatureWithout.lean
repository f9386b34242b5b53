-- Printed for this seat by wip/pp.py of this repo; nothing here is trusted: Lean checks it.
import Derived.Test.YtikhlolhodgegaaQ0
import Derived.Test.YtikhlolhodgegaaHPr1
import Derived.Test.YtikhlolhodgegaaHSignW
import Derived.Test.YtikhlolhodgegaaQlawsmuch
import Derived.Test.YtikhlolhodgegaaQlawspairs
import Derived.Test.YtikhlolhodgegaaQlawszzFits1
import Derived.Test.YtikhlolhodgegaaQlawszzFits6
import Derived.Test.YtikhlolhodgegaaQspecSignatureWithout
import Derived.Test.YtikhlolhodgegaaQspecWithout
namespace Go.Proofs.Ytikhlolhodgegaa.Q
open Go.RowKit Go.Proofs.YtikhlolhodgegaaW.PrintWords Go.Proofs.YtikhlolhodgegaaW.PrintLast Go.Proofs.YtikhlolhodgegaaW.PrintMore
attribute [local go_sem] max2_int min2_int max_two min_two max_three min_three max_four min_four   -- for this text's walks alone
set_option linter.unusedVariables false
set_option linter.unusedSimpArgs false

/-! ### laws_FnSignatureWithout: function 13 -/
mutual
def laws_FnSignatureWithout.j0 : Nat → List (S26) → List ByteArray → Bool → Option (Bool)
  | 0, _, _, _ => none
  | k + 1, x0, x1, x15 => if x15 = true then (some true) else ((impl_Signature.f (([(⟨(⟨#[97]⟩ : ByteArray), (⟨#[]⟩ : ByteArray)⟩ : S26)] : List (S26)))).bind fun t706 => ((impl_Signature.f ([] : List (S26))).bind fun t707 => (if t706 = t707 then (some false) else ((laws_much.f x0).bind fun t708 => (if t708 = true then (laws_FnSignatureWithout.j1 k x0 x1 true) else (laws_FnSignatureWithout.j1 k x0 x1 (decide ((x1.length : Int) > 300))))))))
def laws_FnSignatureWithout.j1 : Nat → List (S26) → List ByteArray → Bool → Option (Bool)
  | 0, _, _, _ => none
  | k + 1, x0, x1, x27 => if x27 = true then (some true) else ((laws_pairs.f k x0).bind fun t709 => ((spec_Without.f k t709 x1).bind fun t712 => (laws_FnSignatureWithout.l0 k x0 x1 ([] : List (S26)) t712 (t712.length : Int) 0)))
def laws_FnSignatureWithout.l0 : Nat → List (S26) → List ByteArray → List (S26) → List (S59) → Int → Int → Option (Bool)
  | 0, _, _, _, _, _, _ => none
  | k + 1, x0, x1, x5, x31, x32, x33 => if x33 < x32 then (if 0 ≤ x33 then (if x33 < (x31.length : Int) then (if x5.length < 4398046511104 then (laws_FnSignatureWithout.l0 k x0 x1 (x5 ++ [(⟨(rd_T59 x31 x33).f0, (rd_T59 x31 x33).f1⟩ : S26)]) x31 x32 (wrap64 (x33 + 1))) else (none)) else (none)) else (none)) else ((impl_SignatureWithout.f x0 x1).bind fun t720 => ((impl_Signature.f x5).bind fun t721 => (if t720 = t721 then ((impl_Signature.f x5).bind fun t722 => ((laws_pairs.f k x0).bind fun t723 => ((spec_SignatureWithout.f k t723 x1).bind fun t726 => (some (t722 == t726))))) else (some false))))
end
def laws_FnSignatureWithout.f (k : Nat) (l0 : List (S26)) (l1 : List ByteArray) : Option (Bool) := (laws_zzFits1.f k l0).bind fun t701 => (if t701 = true then ((laws_zzFits6.f k l1).bind fun t702 => (laws_FnSignatureWithout.j0 k l0 l1 (!t702))) else (laws_FnSignatureWithout.j0 k l0 l1 true))
theorem laws_FnSignatureWithout.mono_l : ∀ k, (∀ y0 y1 y2, LeO (laws_FnSignatureWithout.j0 k y0 y1 y2) (laws_FnSignatureWithout.j0 (k + 1) y0 y1 y2)) ∧ (∀ y0 y1 y2, LeO (laws_FnSignatureWithout.j1 k y0 y1 y2) (laws_FnSignatureWithout.j1 (k + 1) y0 y1 y2)) ∧ (∀ y0 y1 y2 y3 y4 y5, LeO (laws_FnSignatureWithout.l0 k y0 y1 y2 y3 y4 y5) (laws_FnSignatureWithout.l0 (k + 1) y0 y1 y2 y3 y4 y5))
  | 0 => ⟨fun _ _ _ r h => by simp [laws_FnSignatureWithout.j0] at h, fun _ _ _ r h => by simp [laws_FnSignatureWithout.j1] at h, fun _ _ _ _ _ _ r h => by simp [laws_FnSignatureWithout.l0] at h⟩
  | k + 1 => by
    obtain ⟨ih0, ih1, ih2⟩ := laws_FnSignatureWithout.mono_l k
    refine ⟨?_, ?_, ?_⟩
    · intro y0 y1 y2
      unfold laws_FnSignatureWithout.j0
      repeat' first
      | (with_reducible exact ih0 _ _ _)
      | (with_reducible exact ih1 _ _ _)
      | (with_reducible exact ih2 _ _ _ _ _ _)
      | (with_reducible exact laws_pairs.mono _ _)
      | (with_reducible exact laws_zzFits1.mono _ _)
      | (with_reducible exact laws_zzFits6.mono _ _)
      | (with_reducible exact spec_SignatureWithout.mono _ _ _)
      | (with_reducible exact spec_Without.mono _ _ _)
      | (with_reducible exact LeO.refl _)
      | (with_reducible exact LeO.none _)
      | (with_reducible refine LeO.ite ?_ ?_)
      | (with_reducible refine LeO.bind ?_ (fun _ => ?_))
      | exact ih0 _ _ _
      | exact ih1 _ _ _
      | exact ih2 _ _ _ _ _ _
      | exact laws_pairs.mono _ _
      | exact laws_zzFits1.mono _ _
      | exact laws_zzFits6.mono _ _
      | exact spec_SignatureWithout.mono _ _ _
      | exact spec_Without.mono _ _ _
      | exact LeO.none _
      | refine LeO.ite ?_ ?_
      | refine LeO.bind ?_ (fun _ => ?_)
    · intro y0 y1 y2
      unfold laws_FnSignatureWithout.j1
      repeat' first
      | (with_reducible exact ih0 _ _ _)
      | (with_reducible exact ih1 _ _ _)
      | (with_reducible exact ih2 _ _ _ _ _ _)
      | (with_reducible exact laws_pairs.mono _ _)
      | (with_reducible exact laws_zzFits1.mono _ _)
      | (with_reducible exact laws_zzFits6.mono _ _)
      | (with_reducible exact spec_SignatureWithout.mono _ _ _)
      | (with_reducible exact spec_Without.mono _ _ _)
      | (with_reducible exact LeO.refl _)
      | (with_reducible exact LeO.none _)
      | (with_reducible refine LeO.ite ?_ ?_)
      | (with_reducible refine LeO.bind ?_ (fun _ => ?_))
      | exact ih0 _ _ _
      | exact ih1 _ _ _
      | exact ih2 _ _ _ _ _ _
      | exact laws_pairs.mono _ _
      | exact laws_zzFits1.mono _ _
      | exact laws_zzFits6.mono _ _
      | exact spec_SignatureWithout.mono _ _ _
      | exact spec_Without.mono _ _ _
      | exact LeO.none _
      | refine LeO.ite ?_ ?_
      | refine LeO.bind ?_ (fun _ => ?_)
    · intro y0 y1 y2 y3 y4 y5
      unfold laws_FnSignatureWithout.l0
      repeat' first
      | (with_reducible exact ih0 _ _ _)
      | (with_reducible exact ih1 _ _ _)
      | (with_reducible exact ih2 _ _ _ _ _ _)
      | (with_reducible exact laws_pairs.mono _ _)
      | (with_reducible exact laws_zzFits1.mono _ _)
      | (with_reducible exact laws_zzFits6.mono _ _)
      | (with_reducible exact spec_SignatureWithout.mono _ _ _)
      | (with_reducible exact spec_Without.mono _ _ _)
      | (with_reducible exact LeO.refl _)
      | (with_reducible exact LeO.none _)
      | (with_reducible refine LeO.ite ?_ ?_)
      | (with_reducible refine LeO.bind ?_ (fun _ => ?_))
      | exact ih0 _ _ _
      | exact ih1 _ _ _
      | exact ih2 _ _ _ _ _ _
      | exact laws_pairs.mono _ _
      | exact laws_zzFits1.mono _ _
      | exact laws_zzFits6.mono _ _
      | exact spec_SignatureWithout.mono _ _ _
      | exact spec_Without.mono _ _ _
      | exact LeO.none _
      | refine LeO.ite ?_ ?_
      | refine LeO.bind ?_ (fun _ => ?_)
theorem laws_FnSignatureWithout.mono : ∀ a0 a1 k, LeO (laws_FnSignatureWithout.f k a0 a1) (laws_FnSignatureWithout.f (k + 1) a0 a1) := by
  intro a0 a1 k
  obtain ⟨ih0, ih1, ih2⟩ := laws_FnSignatureWithout.mono_l k
  unfold laws_FnSignatureWithout.f
  repeat' first
      | (with_reducible exact ih0 _ _ _)
      | (with_reducible exact ih1 _ _ _)
      | (with_reducible exact ih2 _ _ _ _ _ _)
      | (with_reducible exact laws_pairs.mono _ _)
      | (with_reducible exact laws_zzFits1.mono _ _)
      | (with_reducible exact laws_zzFits6.mono _ _)
      | (with_reducible exact spec_SignatureWithout.mono _ _ _)
      | (with_reducible exact spec_Without.mono _ _ _)
      | (with_reducible exact LeO.refl _)
      | (with_reducible exact LeO.none _)
      | (with_reducible refine LeO.ite ?_ ?_)
      | (with_reducible refine LeO.bind ?_ (fun _ => ?_))
      | exact ih0 _ _ _
      | exact ih1 _ _ _
      | exact ih2 _ _ _ _ _ _
      | exact laws_pairs.mono _ _
      | exact laws_zzFits1.mono _ _
      | exact laws_zzFits6.mono _ _
      | exact spec_SignatureWithout.mono _ _ _
      | exact spec_Without.mono _ _ _
      | exact LeO.none _
      | refine LeO.ite ?_ ?_
      | refine LeO.bind ?_ (fun _ => ?_)
set_option maxHeartbeats 8000000 in
set_option maxRecDepth 100000 in
theorem laws_FnSignatureWithout.calls (k : Nat) (A0 : Option Addr) (c0 : Nat) (l0 : List (S26)) (A1 : Option Addr) (c1 : Nat) (l1 : List ByteArray) (r : Bool) (w : World) (hr0 : Kd.C k26 w A0 l0.length l0) (hc0 : l0.length ≤ c0) (hr1 : Kd.C Kd.string w A1 l1.length l1) (hc1 : l1.length ≤ c1) (h : laws_FnSignatureWithout.f k l0 l1 = some r) :
    Calls Try.prog 13 #[.slice A0 l0.length c0, .slice A1 l1.length c1] w fun e w' => e = .returned (.bool r) ∧ Below w.heap.size w w' := by
  have hu26 := Try.underlying26
  have hu59 := Try.underlying59
  have HR0 := Aside0.mk hr0
  have HC0 := Aside0.mk hc0
  clear hr0 hc0
  have HR1 := Aside0.mk hr1
  have HC1 := Aside0.mk hc1
  clear hr1 hc1
  have HB := Aside0.mk (Below.refl w.heap.size w)
  have H : ((laws_zzFits1.f k l0).bind fun t701 => (if t701 = true then ((laws_zzFits6.f k l1).bind fun t702 => (laws_FnSignatureWithout.j0 k l0 l1 (!t702))) else (laws_FnSignatureWithout.j0 k l0 l1 true))) = some r := h
  clear h
  have HC3 := Aside0.mk H
  clear H
  go_enter Try.func13, Try.ntmps13
  go_upto_region 1 with (fail)
  go_cut [15] (fun v15 wc => ∃ (kq : Nat) (x15_2 : Bool), v15 = .bool x15_2 ∧ Aside0 (laws_FnSignatureWithout.j0 kq l0 l1 x15_2 = some r) ∧ Aside0 (kq ≤ k) ∧ Aside0 (Below w.heap.size w wc))
  case first =>
    have H := HC3.out
    clear HC3
    replace H := Option.bind_eq_some_iff.mp H
    obtain ⟨t701, A40, H⟩ := H
    replace H : (if t701 = true then ((laws_zzFits6.f k l1).bind fun t702 => (laws_FnSignatureWithout.j0 k l0 l1 (!t702))) else (laws_FnSignatureWithout.j0 k l0 l1 true)) = some r := H
    have A4 := Aside0.mk A40
    clear A40
    by_cases c5 : t701 = true
    · subst c5
      have H1 : ((laws_zzFits6.f k l1).bind fun t702 => (laws_FnSignatureWithout.j0 k l0 l1 (!t702))) = some r := by rw [if_pos rfl] at H; exact H
      clear H
      have H := H1
      clear H1
      replace H := Option.bind_eq_some_iff.mp H
      obtain ⟨t702, A60, H⟩ := H
      replace H : (laws_FnSignatureWithout.j0 k l0 l1 (!t702)) = some r := H
      have A6 := Aside0.mk A60
      clear A60
      have H' := Aside0.mk H
      clear H
      go_wp2_with (first | ((with_reducible refine gate_callee (f := 14) rfl ?_); refine goesL_ (some 9) rfl rfl Try.func14 (by kernel_rfl) rfl #[.slice A0 l0.length c0] rfl (by (try simp only [List.map_toArray, List.map_cons, List.map_nil]); first | done | rfl | (simp only [List.length_drop, List.length_take]; rfl)) ?_; (with_reducible refine (laws_zzFits1.calls k _ _ l0 true _ ?side1 ?side2 A4.out).mono ?_); (case side1 => repeat (first | exact (Kd.C_below HR0.out HB.out) | (with_reducible refine Kd.C_alloc ?_ _) | (with_reducible refine Kd.C_drewN ?_ _) | (with_reducible refine Kd.C_drew ?_))); (case side2 => exact HC0.out); rintro e w7 ⟨rfl, hb⟩; refine ⟨_, rfl, ?_⟩; have n0_ := Aside0.mk (below_step (by repeat (first | (with_reducible first | exact HB.out | apply below_alloc | apply pw_below_drewN | apply below_drew1) | exact HB.out)) hb); clear HB; have HB := n0_; clear n0_; (try clear hb); (try clear hb2); (try clear hk); (try clear hi)) | (go_at_call 30; (with_reducible refine (laws_zzFits6.calls k _ _ l1 t702 _ ?side1 ?side2 A6.out).mono ?_); (case side1 => repeat (first | exact (Kd.C_below HR1.out HB.out) | (with_reducible refine Kd.C_alloc ?_ _) | (with_reducible refine Kd.C_drewN ?_ _) | (with_reducible refine Kd.C_drew ?_))); (case side2 => exact HC1.out); rintro e w' ⟨rfl, ⟨nd, rfl⟩⟩))
      go_meet
      case rel => exact ⟨_, (!t702), (by first | rfl | (simp; done) | (simp [*]; done) | (simp [*, q_isEmpty]; done)), H', ⟨by first | omega | exact Nat.le_refl _⟩, ⟨by repeat (first | (with_reducible first | exact HB.out | apply below_alloc | apply pw_below_drewN | apply below_drew1) | exact HB.out)⟩⟩
    · replace c5 := Bool.eq_false_iff.mpr c5
      subst c5
      have H1 : (laws_FnSignatureWithout.j0 k l0 l1 true) = some r := by rw [if_neg (show ¬ (false = true) by decide)] at H; exact H
      clear H
      have H := H1
      clear H1
      have H' := Aside0.mk H
      clear H
      go_wp2_with (first | ((with_reducible refine gate_callee (f := 14) rfl ?_); refine goesL_ (some 9) rfl rfl Try.func14 (by kernel_rfl) rfl #[.slice A0 l0.length c0] rfl (by (try simp only [List.map_toArray, List.map_cons, List.map_nil]); first | done | rfl | (simp only [List.length_drop, List.length_take]; rfl)) ?_; (with_reducible refine (laws_zzFits1.calls k _ _ l0 false _ ?side1 ?side2 A4.out).mono ?_); (case side1 => repeat (first | exact (Kd.C_below HR0.out HB.out) | (with_reducible refine Kd.C_alloc ?_ _) | (with_reducible refine Kd.C_drewN ?_ _) | (with_reducible refine Kd.C_drew ?_))); (case side2 => exact HC0.out); rintro e w8 ⟨rfl, hb⟩; refine ⟨_, rfl, ?_⟩; have n0_ := Aside0.mk (below_step (by repeat (first | (with_reducible first | exact HB.out | apply below_alloc | apply pw_below_drewN | apply below_drew1) | exact HB.out)) hb); clear HB; have HB := n0_; clear n0_; (try clear hb); (try clear hb2); (try clear hk); (try clear hi)))
      go_meet
      case rel => exact ⟨_, (true), (by first | rfl | (simp; done) | (simp [*]; done) | (simp [*, q_isEmpty]; done)), H', ⟨by first | omega | exact Nat.le_refl _⟩, ⟨by repeat (first | (with_reducible first | exact HB.out | apply below_alloc | apply pw_below_drewN | apply below_drew1) | exact HB.out)⟩⟩
  case rest =>
    clear HC3
    try clear c1
    try clear p2
    try clear c5
    obtain ⟨kq, x15_2, rfl, HA, HJ2, HB⟩ := hcut
    cases kq with
    | zero => exact absurd HA.out (by simp [laws_FnSignatureWithout.j0])
    | succ kj2 =>
      have H := HA.out
      clear HA
      simp only [laws_FnSignatureWithout.j0] at H
      by_cases c9 : x15_2 = true
      · subst c9
        have H1 : (some true) = some r := by rw [if_pos rfl] at H; exact H
        clear H
        have H := H1
        clear H1
        obtain rfl := Option.some.inj H
        go_wp2
        go_ret
        exact ⟨by first | rfl | (simp [errW_none, errW_some] <;> rfl) | (simp [*, errW_none, errW_some] <;> rfl) | (simp [*, q_isEmpty]; done), by repeat (first | (with_reducible first | exact HB.out | apply below_alloc | apply pw_below_drewN | apply below_drew1) | exact HB.out)⟩
      · replace c9 := Bool.eq_false_iff.mpr c9
        subst c9
        have H1 : ((impl_Signature.f (([(⟨(⟨#[97]⟩ : ByteArray), (⟨#[]⟩ : ByteArray)⟩ : S26)] : List (S26)))).bind fun t706 => ((impl_Signature.f ([] : List (S26))).bind fun t707 => (if t706 = t707 then (some false) else ((laws_much.f l0).bind fun t708 => (if t708 = true then (laws_FnSignatureWithout.j1 kj2 l0 l1 true) else (laws_FnSignatureWithout.j1 kj2 l0 l1 (decide ((l1.length : Int) > 300)))))))) = some r := by rw [if_neg (show ¬ (false = true) by decide)] at H; exact H
        clear H
        have H := H1
        clear H1
        obtain ⟨y703, hy703⟩ : ∃ y_ : List (S26), y_ = (([(⟨(⟨#[97]⟩ : ByteArray), (⟨#[]⟩ : ByteArray)⟩ : S26)] : List (S26))) := ⟨_, rfl⟩
        replace H : ((impl_Signature.f y703).bind fun t706 => ((impl_Signature.f ([] : List (S26))).bind fun t707 => (if t706 = t707 then (some false) else ((laws_much.f l0).bind fun t708 => (if t708 = true then (laws_FnSignatureWithout.j1 kj2 l0 l1 true) else (laws_FnSignatureWithout.j1 kj2 l0 l1 (decide ((l1.length : Int) > 300)))))))) = some r := by first | (rw [hy703]; with_reducible exact H) | (have H2_ := (Option.bind_some _ _).symm.trans H; rw [hy703]; with_reducible exact H2_) | (have H2_ := (Option.bind_some _ _).symm.trans H; with_reducible exact H2_) | with_reducible exact H | (rw [hy703]; exact H) | exact H
        have Ny703 := Aside0.mk hy703
        clear hy703
        replace H := Option.bind_eq_some_iff.mp H
        obtain ⟨t706, A100, H⟩ := H
        replace H : ((impl_Signature.f ([] : List (S26))).bind fun t707 => (if t706 = t707 then (some false) else ((laws_much.f l0).bind fun t708 => (if t708 = true then (laws_FnSignatureWithout.j1 kj2 l0 l1 true) else (laws_FnSignatureWithout.j1 kj2 l0 l1 (decide ((l1.length : Int) > 300))))))) = some r := H
        have A10 := Aside0.mk A100
        clear A100
        replace H := Option.bind_eq_some_iff.mp H
        obtain ⟨t707, A110, H⟩ := H
        replace H : (if t706 = t707 then (some false) else ((laws_much.f l0).bind fun t708 => (if t708 = true then (laws_FnSignatureWithout.j1 kj2 l0 l1 true) else (laws_FnSignatureWithout.j1 kj2 l0 l1 (decide ((l1.length : Int) > 300)))))) = some r := H
        have A11 := Aside0.mk A110
        clear A110
        by_cases c12 : t706 = t707
        · rw [if_pos c12] at H
          have c12b0 : (t706 == t707) = true := beq_iff_eq.mpr c12
          have c12b1 : (t706 != t707) = false := bne_eq_false_iff_eq.mpr c12
          clear c12
          obtain rfl := Option.some.inj H
          go_wp2_with (first | ((with_reducible refine gate_dst (N := 17) rfl ?_); (try (refine gate_guard (by rfl) ?_; dsimp only)); refine Kd.R_lit k26 _ 26 ?hg (N := 17) ?hd (xs := ([(⟨(⟨#[97]⟩ : ByteArray), (⟨#[]⟩ : ByteArray)⟩ : S26)] : List (S26))) (inner := [.string (⟨#[97]⟩ : ByteArray), .string (⟨#[]⟩ : ByteArray)]) (ok := fun _ => True) (okp := fun _ => True) ?hr ?hp (fun _ hk => hk) trivial (Below.refl _ _) (Nat.le_refl _) (by simp) ?_; (case hd => rfl); (case hg => rfl); (case hr => first | (go_simp; done) | (go_simp; rfl)); (case hp => exact (Reps.c2 (show Kd.M k26 _ _ _ (⟨(⟨#[97]⟩ : ByteArray), (⟨#[]⟩ : ByteArray)⟩ : S26) [.string (⟨#[97]⟩ : ByteArray), .string (⟨#[]⟩ : ByteArray)] from (k26_mkM _ _ _ (⟨(⟨#[97]⟩ : ByteArray), (⟨#[]⟩ : ByteArray)⟩ : S26) )) (Reps.none _ _))); intro v704 w13 ho14 hb hg_ hnew_; clear hg_ hnew_; (first | rw [← Ny703.out] at ho14 | (simp only [Int.reduceToNat] at ho14; rw [← Ny703.out] at ho14)); have n0_ := Aside0.mk (Kd.R_lower ho14 (below_size (by repeat (first | (with_reducible first | exact HB.out | apply below_alloc | apply pw_below_drewN | apply below_drew1) | exact HB.out)))); have n1_ := Aside0.mk (below_step (by repeat (first | (with_reducible first | exact HB.out | apply below_alloc | apply pw_below_drewN | apply below_drew1) | exact HB.out)) hb); clear HB; have HO705 := n0_; have HB := n1_; clear n0_ n1_; clear hb ho14; obtain ⟨Ao15, co15, eo15⟩ := Kd.R_slice HO705.out; subst eo15) | ((with_reducible refine gate_callee (f := 50) rfl ?_); refine goesL_ (some 18) rfl rfl Try.func50 (by kernel_rfl) rfl #[.slice Ao15 y703.length co15] rfl (by (try simp only [List.map_toArray, List.map_cons, List.map_nil]); first | done | rfl | (simp only [List.length_drop, List.length_take]; rfl)) ?_; (with_reducible refine (impl_Signature.calls _ _ y703 t706 _ ?side1 ?side2 A10.out).mono ?_); (case side1 => repeat (first | exact (Kd.R_reads' HO705.out).2.2 | (with_reducible refine Kd.C_alloc ?_ _) | (with_reducible refine Kd.C_drewN ?_ _) | (with_reducible refine Kd.C_drew ?_))); (case side2 => exact (Kd.R_reads' HO705.out).2.1); rintro e w16 ⟨rfl, hb⟩; refine ⟨_, rfl, ?_⟩; have n0_ := Aside0.mk (Kd.R_below (by (with_reducible repeat (first | apply Kd.R_alloc | apply Kd.R_drewN | apply Kd.R_drew)); exact HO705.out) hb); have n1_ := Aside0.mk (below_step (by repeat (first | (with_reducible first | exact HB.out | apply below_alloc | apply pw_below_drewN | apply below_drew1) | exact HB.out)) hb); clear HO705; clear HB; have HO705 := n0_; have HB := n1_; clear n0_ n1_; (try clear hb); (try clear hb2); (try clear hk); (try clear hi); clear A10) | ((with_reducible refine gate_callee (f := 50) rfl ?_); refine goesL_ (some 19) rfl rfl Try.func50 (by kernel_rfl) rfl #[.slice none 0 0] rfl (by (try simp only [List.map_toArray, List.map_cons, List.map_nil]); first | done | rfl | (simp only [List.length_drop, List.length_take]; rfl)) ?_; (refine (impl_Signature.calls _ _ ([] : List (S26)) t707 _ ?side1 ?side2 A11.out).mono ?_); (case side1 => exact Kd.C_nil _ _); (case side2 => exact Nat.le_refl _); rintro e w17 ⟨rfl, hb⟩; refine ⟨_, rfl, ?_⟩; have n0_ := Aside0.mk (Kd.R_below (by (with_reducible repeat (first | apply Kd.R_alloc | apply Kd.R_drewN | apply Kd.R_drew)); exact HO705.out) hb); have n1_ := Aside0.mk (below_step (by repeat (first | (with_reducible first | exact HB.out | apply below_alloc | apply pw_below_drewN | apply below_drew1) | exact HB.out)) hb); clear HO705; clear HB; have HO705 := n0_; have HB := n1_; clear n0_ n1_; (try clear hb); (try clear hb2); (try clear hk); (try clear hi)))
          go_ret
          exact ⟨by first | rfl | (simp [errW_none, errW_some] <;> rfl) | (simp [*, errW_none, errW_some] <;> rfl) | (simp [*, q_isEmpty]; done), by repeat (first | (with_reducible first | exact HB.out | apply below_alloc | apply pw_below_drewN | apply below_drew1) | exact HB.out)⟩
        · rw [if_neg c12] at H
          have c12b0 : (t706 == t707) = false := beq_eq_false_iff_ne.mpr c12
          have c12b1 : (t706 != t707) = true := bne_iff_ne.mpr c12
          have HC18 := Aside0.mk H
          clear H
          go_upto_region 5 with (first | ((with_reducible refine gate_dst (N := 17) rfl ?_); (try (refine gate_guard (by rfl) ?_; dsimp only)); refine Kd.R_lit k26 _ 26 ?hg (N := 17) ?hd (xs := ([(⟨(⟨#[97]⟩ : ByteArray), (⟨#[]⟩ : ByteArray)⟩ : S26)] : List (S26))) (inner := [.string (⟨#[97]⟩ : ByteArray), .string (⟨#[]⟩ : ByteArray)]) (ok := fun _ => True) (okp := fun _ => True) ?hr ?hp (fun _ hk => hk) trivial (Below.refl _ _) (Nat.le_refl _) (by simp) ?_; (case hd => rfl); (case hg => rfl); (case hr => first | (go_simp; done) | (go_simp; rfl)); (case hp => exact (Reps.c2 (show Kd.M k26 _ _ _ (⟨(⟨#[97]⟩ : ByteArray), (⟨#[]⟩ : ByteArray)⟩ : S26) [.string (⟨#[97]⟩ : ByteArray), .string (⟨#[]⟩ : ByteArray)] from (k26_mkM _ _ _ (⟨(⟨#[97]⟩ : ByteArray), (⟨#[]⟩ : ByteArray)⟩ : S26) )) (Reps.none _ _))); intro v704 w19 ho20 hb hg_ hnew_; clear hg_ hnew_; (first | rw [← Ny703.out] at ho20 | (simp only [Int.reduceToNat] at ho20; rw [← Ny703.out] at ho20)); have n0_ := Aside0.mk (Kd.R_lower ho20 (below_size (by repeat (first | (with_reducible first | exact HB.out | apply below_alloc | apply pw_below_drewN | apply below_drew1) | exact HB.out)))); have n1_ := Aside0.mk (below_step (by repeat (first | (with_reducible first | exact HB.out | apply below_alloc | apply pw_below_drewN | apply below_drew1) | exact HB.out)) hb); clear HB; have HO705 := n0_; have HB := n1_; clear n0_ n1_; clear hb ho20; obtain ⟨Ao21, co21, eo21⟩ := Kd.R_slice HO705.out; subst eo21) | ((with_reducible refine gate_callee (f := 50) rfl ?_); refine goesL_ (some 18) rfl rfl Try.func50 (by kernel_rfl) rfl #[.slice Ao21 y703.length co21] rfl (by (try simp only [List.map_toArray, List.map_cons, List.map_nil]); first | done | rfl | (simp only [List.length_drop, List.length_take]; rfl)) ?_; (with_reducible refine (impl_Signature.calls _ _ y703 t706 _ ?side1 ?side2 A10.out).mono ?_); (case side1 => repeat (first | exact (Kd.R_reads' HO705.out).2.2 | (with_reducible refine Kd.C_alloc ?_ _) | (with_reducible refine Kd.C_drewN ?_ _) | (with_reducible refine Kd.C_drew ?_))); (case side2 => exact (Kd.R_reads' HO705.out).2.1); rintro e w22 ⟨rfl, hb⟩; refine ⟨_, rfl, ?_⟩; have n0_ := Aside0.mk (Kd.R_below (by (with_reducible repeat (first | apply Kd.R_alloc | apply Kd.R_drewN | apply Kd.R_drew)); exact HO705.out) hb); have n1_ := Aside0.mk (below_step (by repeat (first | (with_reducible first | exact HB.out | apply below_alloc | apply pw_below_drewN | apply below_drew1) | exact HB.out)) hb); clear HO705; clear HB; have HO705 := n0_; have HB := n1_; clear n0_ n1_; (try clear hb); (try clear hb2); (try clear hk); (try clear hi)) | ((with_reducible refine gate_callee (f := 50) rfl ?_); refine goesL_ (some 19) rfl rfl Try.func50 (by kernel_rfl) rfl #[.slice none 0 0] rfl (by (try simp only [List.map_toArray, List.map_cons, List.map_nil]); first | done | rfl | (simp only [List.length_drop, List.length_take]; rfl)) ?_; (refine (impl_Signature.calls _ _ ([] : List (S26)) t707 _ ?side1 ?side2 A11.out).mono ?_); (case side1 => exact Kd.C_nil _ _); (case side2 => exact Nat.le_refl _); rintro e w23 ⟨rfl, hb⟩; refine ⟨_, rfl, ?_⟩; have n0_ := Aside0.mk (Kd.R_below (by (with_reducible repeat (first | apply Kd.R_alloc | apply Kd.R_drewN | apply Kd.R_drew)); exact HO705.out) hb); have n1_ := Aside0.mk (below_step (by repeat (first | (with_reducible first | exact HB.out | apply below_alloc | apply pw_below_drewN | apply below_drew1) | exact HB.out)) hb); clear HO705; clear HB; have HO705 := n0_; have HB := n1_; clear n0_ n1_; (try clear hb); (try clear hb2); (try clear hk); (try clear hi)))
          (try simp only [Act.put, List.setIfInBounds_toArray, List.set_cons_zero, List.set_cons_succ])
          go_cut [27] (fun v27 wc => ∃ (kq : Nat) (x27_17 : Bool), v27 = .bool x27_17 ∧ Aside0 (laws_FnSignatureWithout.j1 kq l0 l1 x27_17 = some r) ∧ Aside0 (kq ≤ kj2) ∧ Aside0 (Below w.heap.size w wc))
          case first =>
            have H := HC18.out
            clear HC18
            replace H := Option.bind_eq_some_iff.mp H
            obtain ⟨t708, A240, H⟩ := H
            replace H : (if t708 = true then (laws_FnSignatureWithout.j1 kj2 l0 l1 true) else (laws_FnSignatureWithout.j1 kj2 l0 l1 (decide ((l1.length : Int) > 300)))) = some r := H
            have A24 := Aside0.mk A240
            clear A240
            by_cases c25 : t708 = true
            · subst c25
              have H1 : (laws_FnSignatureWithout.j1 kj2 l0 l1 true) = some r := by rw [if_pos rfl] at H; exact H
              clear H
              have H := H1
              clear H1
              have H' := Aside0.mk H
              clear H
              go_wp2_with (first | ((with_reducible refine gate_callee (f := 16) rfl ?_); refine goesL_ (some 22) rfl rfl Try.func16 (by kernel_rfl) rfl #[.slice A0 l0.length c0] rfl (by (try simp only [List.map_toArray, List.map_cons, List.map_nil]); first | done | rfl | (simp only [List.length_drop, List.length_take]; rfl)) ?_; (with_reducible refine (laws_much.calls _ _ l0 true _ ?side1 ?side2 A24.out).mono ?_); (case side1 => repeat (first | exact (Kd.C_below HR0.out HB.out) | (with_reducible refine Kd.C_alloc ?_ _) | (with_reducible refine Kd.C_drewN ?_ _) | (with_reducible refine Kd.C_drew ?_))); (case side2 => exact HC0.out); rintro e w' ⟨rfl, ⟨nd, rfl⟩⟩; refine ⟨_, rfl, ?_⟩))
              go_meet
              case rel => exact ⟨_, (true), (by first | rfl | (simp; done) | (simp [*]; done) | (simp [*, q_isEmpty]; done)), H', ⟨by have := HJ2.out; first | omega | exact Nat.le_refl _⟩, ⟨by repeat (first | (with_reducible first | exact HB.out | apply below_alloc | apply pw_below_drewN | apply below_drew1) | exact HB.out)⟩⟩
            · replace c25 := Bool.eq_false_iff.mpr c25
              subst c25
              have H1 : (laws_FnSignatureWithout.j1 kj2 l0 l1 (decide ((l1.length : Int) > 300))) = some r := by rw [if_neg (show ¬ (false = true) by decide)] at H; exact H
              clear H
              have H := H1
              clear H1
              have H' := Aside0.mk H
              clear H
              go_wp2_with (first | ((with_reducible refine gate_callee (f := 16) rfl ?_); refine goesL_ (some 22) rfl rfl Try.func16 (by kernel_rfl) rfl #[.slice A0 l0.length c0] rfl (by (try simp only [List.map_toArray, List.map_cons, List.map_nil]); first | done | rfl | (simp only [List.length_drop, List.length_take]; rfl)) ?_; (with_reducible refine (laws_much.calls _ _ l0 false _ ?side1 ?side2 A24.out).mono ?_); (case side1 => repeat (first | exact (Kd.C_below HR0.out HB.out) | (with_reducible refine Kd.C_alloc ?_ _) | (with_reducible refine Kd.C_drewN ?_ _) | (with_reducible refine Kd.C_drew ?_))); (case side2 => exact HC0.out); rintro e w' ⟨rfl, ⟨nd, rfl⟩⟩; refine ⟨_, rfl, ?_⟩))
              go_meet
              case rel => exact ⟨_, (decide ((l1.length : Int) > 300)), (by first | rfl | (simp; done) | (simp [*]; done) | (simp [*, q_isEmpty]; done)), H', ⟨by have := HJ2.out; first | omega | exact Nat.le_refl _⟩, ⟨by repeat (first | (with_reducible first | exact HB.out | apply below_alloc | apply pw_below_drewN | apply below_drew1) | exact HB.out)⟩⟩
          case rest =>
            clear HC18
            try clear c1
            try clear c2
            try clear p2
            try clear c5
            try clear c9
            try clear c12
            try clear c12b0
            try clear c12b1
            try clear c13
            try clear c14
            try clear c16
            try clear c25
            try clear p2
            obtain ⟨kq, x27_17, rfl, HA, HJ17, HB⟩ := hcut
            cases kq with
            | zero => exact absurd HA.out (by simp [laws_FnSignatureWithout.j1])
            | succ kj17 =>
              have H := HA.out
              clear HA
              simp only [laws_FnSignatureWithout.j1] at H
              by_cases c26 : x27_17 = true
              · subst c26
                have H1 : (some true) = some r := by rw [if_pos rfl] at H; exact H
                clear H
                have H := H1
                clear H1
                obtain rfl := Option.some.inj H
                go_wp2
                go_ret
                exact ⟨by first | rfl | (simp [errW_none, errW_some] <;> rfl) | (simp [*, errW_none, errW_some] <;> rfl) | (simp [*, q_isEmpty]; done), by repeat (first | (with_reducible first | exact HB.out | apply below_alloc | apply pw_below_drewN | apply below_drew1) | exact HB.out)⟩
              · replace c26 := Bool.eq_false_iff.mpr c26
                subst c26
                have H1 : ((laws_pairs.f kj17 l0).bind fun t709 => ((spec_Without.f kj17 t709 l1).bind fun t712 => (laws_FnSignatureWithout.l0 kj17 l0 l1 ([] : List (S26)) t712 (t712.length : Int) 0))) = some r := by rw [if_neg (show ¬ (false = true) by decide)] at H; exact H
                clear H
                have H := H1
                clear H1
                replace H := Option.bind_eq_some_iff.mp H
                obtain ⟨t709, A270, H⟩ := H
                replace H : ((spec_Without.f kj17 t709 l1).bind fun t712 => (laws_FnSignatureWithout.l0 kj17 l0 l1 ([] : List (S26)) t712 (t712.length : Int) 0)) = some r := H
                have A27 := Aside0.mk A270
                clear A270
                replace H := Option.bind_eq_some_iff.mp H
                obtain ⟨t712, A280, H⟩ := H
                replace H : (laws_FnSignatureWithout.l0 kj17 l0 l1 ([] : List (S26)) t712 (t712.length : Int) 0) = some r := H
                have A28 := Aside0.mk A280
                clear A280
                have H' := Aside0.mk H
                clear H
                go_wp2_with (first | ((with_reducible refine gate_callee (f := 20) rfl ?_); refine goesL_ (some 29) rfl rfl Try.func20 (by kernel_rfl) rfl #[.slice A0 l0.length c0] rfl (by (try simp only [List.map_toArray, List.map_cons, List.map_nil]); first | done | rfl | (simp only [List.length_drop, List.length_take]; rfl)) ?_; (with_reducible refine (laws_pairs.calls kj17 _ _ l0 t709 _ ?side1 ?side2 A27.out).mono ?_); (case side1 => repeat (first | exact (Kd.C_below HR0.out HB.out) | (with_reducible refine Kd.C_alloc ?_ _) | (with_reducible refine Kd.C_drewN ?_ _) | (with_reducible refine Kd.C_drew ?_))); (case side2 => exact HC0.out); rintro e w29 ⟨v710, rfl, ho0, hb⟩; refine ⟨_, rfl, ?_⟩; have n0_ := Aside0.mk (Kd.R_lower ho0 (below_size (by repeat (first | (with_reducible first | exact HB.out | apply below_alloc | apply pw_below_drewN | apply below_drew1) | exact HB.out)))); have n1_ := Aside0.mk (below_step (by repeat (first | (with_reducible first | exact HB.out | apply below_alloc | apply pw_below_drewN | apply below_drew1) | exact HB.out)) hb); clear HB; have HO711 := n0_; have HB := n1_; clear n0_ n1_; (try clear hb); (try clear hb2); (try clear hk); (try clear hi); (try clear ho0); obtain ⟨Ao30, co30, eo30⟩ := Kd.R_slice HO711.out; subst eo30) | ((with_reducible refine gate_callee (f := 33) rfl ?_); refine goesL_ (some 31) rfl rfl Try.func33 (by kernel_rfl) rfl #[.slice Ao30 t709.length co30, .slice A1 l1.length c1] rfl (by (try simp only [List.map_toArray, List.map_cons, List.map_nil]); first | done | rfl | (simp only [List.length_drop, List.length_take]; rfl)) ?_; (with_reducible refine (spec_Without.calls kj17 _ _ t709 _ _ l1 t712 _ ?side1 ?side2 ?side3 ?side4 A28.out).mono ?_); (case side1 => repeat (first | exact (Kd.R_reads' HO711.out).2.2 | (with_reducible refine Kd.C_alloc ?_ _) | (with_reducible refine Kd.C_drewN ?_ _) | (with_reducible refine Kd.C_drew ?_))); (case side2 => exact (Kd.R_reads' HO711.out).2.1); (case side3 => repeat (first | exact (Kd.C_below HR1.out HB.out) | (with_reducible refine Kd.C_alloc ?_ _) | (with_reducible refine Kd.C_drewN ?_ _) | (with_reducible refine Kd.C_drew ?_))); (case side4 => exact HC1.out); rintro e w31 ⟨v713, rfl, ho0, hb⟩; refine ⟨_, rfl, ?_⟩; have n0_ := Aside0.mk (Kd.R_elder' (by (with_reducible repeat (first | apply Kd.R_alloc | apply Kd.R_drewN | apply Kd.R_drew)); exact HO711.out) (Kd.R_base ho0) hb); have n1_ := Aside0.mk (Kd.R_lower (Kd.R_new' ho0 (Kd.R_lt (by (with_reducible repeat (first | apply Kd.R_alloc | apply Kd.R_drewN | apply Kd.R_drew)); exact HO711.out))) (below_size (by repeat (first | (with_reducible first | exact HB.out | apply below_alloc | apply pw_below_drewN | apply below_drew1) | exact HB.out)))); have n2_ := Aside0.mk (below_step (by repeat (first | (with_reducible first | exact HB.out | apply below_alloc | apply pw_below_drewN | apply below_drew1) | exact HB.out)) hb); clear HO711; clear HB; have HO711 := n0_; have HO714 := n1_; have HB := n2_; clear n0_ n1_ n2_; (try clear hb); (try clear hb2); (try clear hk); (try clear hi); (try clear ho0); obtain ⟨Ao32, co32, eo32⟩ := Kd.R_slice HO714.out; subst eo32))
                go_loopg [5, 33] kj17 (fun kq v5 v33 w' => ∃ (x5_3 : List (S26)) (x33_3 : Int), v33 = .int .i64 x33_3 ∧ Aside0 (laws_FnSignatureWithout.l0 kq l0 l1 x5_3 t712 (t712.length : Int) x33_3 = some r) ∧ Aside0 (kq ≤ kj17) ∧ Aside0 (Kd.R k26 26 w' w.heap.size (fun _ => True) v5 x5_3) ∧ Aside0 (Kd.R k59 59 w' w.heap.size (fun _ => True) (.slice Ao32 t712.length co32) t712) ∧ Aside0 (Below w.heap.size w w'))
                case atStart => exact ⟨(([] : List (S26))), (0), (by first | rfl | (simp; done) | (simp [*]; done) | (simp [*, q_isEmpty]; done)), H', ⟨Nat.le_refl _⟩, ⟨by first | exact Kd.R_nil _ _ _ _ _ | exact Kd.N_nil _ _ _ _ _ | exact Kd.V_nil _ _ _ _ _ | exact Kd.Q_nil _ _ _ _ _ | exact Kd.S_nil _ _ _ _ _⟩, ⟨by (with_reducible repeat (first | apply Kd.R_alloc | apply Kd.R_drewN | apply Kd.R_drew)); exact Kd.R_mono HO714.out (fun _ hk => trivial)⟩, ⟨by repeat (first | (with_reducible first | exact HB.out | apply below_alloc | apply pw_below_drewN | apply below_drew1) | exact HB.out)⟩⟩
                case round =>
                  clear H'
                  try clear c1
                  try clear c2
                  try clear p2
                  try clear c3
                  try clear c5
                  try clear c9
                  try clear c12
                  try clear c12b0
                  try clear c12b1
                  try clear c13
                  try clear c14
                  try clear c16
                  try clear c20
                  try clear c25
                  try clear c26
                  try clear p2
                  obtain ⟨x5_3, x33_3, rfl, HA, HK3, HO_5, HO_31, HB⟩ := hrel
                  cases gk with
                  | zero => exact absurd HA.out (by simp [laws_FnSignatureWithout.l0])
                  | succ k3 =>
                    have H := HA.out
                    clear HA
                    simp only [laws_FnSignatureWithout.l0] at H
                    by_cases c33 : x33_3 < (t712.length : Int)
                    · rw [if_pos c33] at H
                      have c33b0 : decide (x33_3 < (t712.length : Int)) = true := decide_eq_true c33
                      clear c33
                      by_cases c34 : 0 ≤ x33_3
                      · rw [if_pos c34] at H
                        have c34b0 : decide (0 ≤ x33_3) = true := decide_eq_true c34
                        clear c34
                        by_cases c35 : x33_3 < (t712.length : Int)
                        · rw [if_pos c35] at H
                          have c35b0 : decide (x33_3 < (t712.length : Int)) = true := decide_eq_true c35
                          clear c35
                          by_cases c36 : x5_3.length < 4398046511104
                          · rw [if_pos c36] at H
                            have LMc36 := Aside0.mk c36
                            clear c36
                            obtain ⟨y717, hy717⟩ : ∃ y_ : List (S26), y_ = (x5_3 ++ [(⟨(rd_T59 t712 x33_3).f0, (rd_T59 t712 x33_3).f1⟩ : S26)]) := ⟨_, rfl⟩
                            replace H : (laws_FnSignatureWithout.l0 k3 l0 l1 y717 t712 (t712.length : Int) (wrap64 (x33_3 + 1))) = some r := by first | (rw [hy717]; with_reducible exact H) | (have H2_ := (Option.bind_some _ _).symm.trans H; rw [hy717]; with_reducible exact H2_) | (have H2_ := (Option.bind_some _ _).symm.trans H; with_reducible exact H2_) | with_reducible exact H | (rw [hy717]; exact H) | exact H
                            have Ny717 := Aside0.mk hy717
                            clear hy717
                            have H' := Aside0.mk H
                            clear H
                            have p715 : 0 ≤ (x33_3 : Int) := of_decide_eq_true (by first | (with_reducible assumption) | assumption)
                            have q715 : x33_3 < (t712.length : Int) := of_decide_eq_true (by first | (with_reducible assumption) | assumption)
                            obtain ⟨ad715, e715, hx715_0, hx715_1⟩ := at_T59 (Kd.R_reads' HO_31.out).2.2 x33_3 p715 q715
                            cases e715
                            replace p715 := eq_true p715
                            replace q715 := eq_true q715
                            go_wp2_with (first | ((with_reducible refine gate_dst (N := 7) rfl ?_); (try (refine gate_guard (by rfl) ?_; dsimp only)); refine box_event ?hg (N := 7) ?hd (cs := #[.string (⟨#[]⟩ : ByteArray), .string (⟨#[]⟩ : ByteArray)]) (t := 59) ?hr ?_; (case hd => rfl); (case hg => rfl); (case hr => first | (go_simp; done) | (go_simp; rfl)); intro gb716 hg w37 hbox hb; have n0_ := Aside0.mk (Kd.R_below (by (with_reducible repeat (first | apply Kd.R_alloc | apply Kd.R_drewN | apply Kd.R_drew)); exact HO_5.out) hb); have n1_ := Aside0.mk (Kd.R_below (Kd.R_elderB (by (with_reducible repeat (first | apply Kd.R_alloc | apply Kd.R_drewN | apply Kd.R_drew)); exact HO_31.out) gb716 (Nat.le_of_eq hg.symm)) hb); have n2_ := Aside0.mk (below_step (by repeat (first | (with_reducible first | exact HB.out | apply below_alloc | apply pw_below_drewN | apply below_drew1) | exact HB.out)) hb); have n3_ := Aside0.mk (hbox); have n4_ := Aside0.mk ((by rw [hg]; exact (below_size (by repeat (first | (with_reducible first | exact HB.out | apply below_alloc | apply pw_below_drewN | apply below_drew1) | exact HB.out))) : w.heap.size ≤ gb716)); have n5_ := Aside0.mk ((by rw [hg]; exact (below_size (by repeat (first | (with_reducible first | exact HB.out | apply below_alloc | apply pw_below_drewN | apply below_drew1) | exact HB.out))) : w.heap.size ≤ gb716)); clear HO_5; clear HO_31; clear HB; have HO_5 := n0_; have HO_31 := n1_; have HB := n2_; have BK716 := n3_; have GW716 := n4_; have GE716 := n5_; clear n0_ n1_ n2_ n3_ n4_ n5_; clear hb hbox hg; have hcz38_0 : w37.cell? ⟨gb716, 0, none⟩ = some (.string (⟨#[]⟩ : ByteArray)) := (blk_cell BK716.out 0).trans rfl; have hcz38_1 : w37.cell? ⟨gb716, 1, none⟩ = some (.string (⟨#[]⟩ : ByteArray)) := (blk_cell BK716.out 1).trans rfl; have hfz38_0 := blk_frozen BK716.out 0; have hfz38_1 := blk_frozen BK716.out 1) | ((with_reducible refine gate_builtin (b := .append) (xs := #[.tmp 37, .tmp 39]) rfl ?_); (try (refine gate_guard (by rfl) ?_; dsimp only)); at_builtin; refine Kd.R_append k26 (w0 := w) w.heap.size rfl (.tmp 37) (.tmp 39) 22 26 (.agg #[(.string ⟨#[]⟩), (.string ⟨#[]⟩)]) 32 rfl Try.underlying22 info26 rfl (by decide) (by omega) u5 x5_3 (⟨(rd_T59 t712 x33_3).f0, (rd_T59 t712 x33_3).f1⟩ : S26) [.string ((rd_T59 t712 x33_3).f0), .string ((rd_T59 t712 x33_3).f1)] (fun _ => True) (fun _ => False) rfl (by first | (go_simp; done) | (go_simp; rfl)) ?aP (fun _ hk => hk.elim) ?aF ?aO ?aB ?aS ?aL ?_; (case aP => exact k26_mkM _ _ _ (⟨(rd_T59 t712 x33_3).f0, (rd_T59 t712 x33_3).f1⟩ : S26)); (case aB => exact (by repeat (first | (with_reducible first | exact HB.out | apply below_alloc | apply pw_below_drewN | apply below_drew1 | refine below_set ?_ GE716.out) | exact HB.out))); (case aF => exact (fun _ _ => trivial)); (case aO => exact (by (with_reducible repeat (first | apply Kd.R_alloc | apply Kd.R_drewN | apply Kd.R_drew)); exact Kd.R_mono (Kd.R_far (p := ⟨gb716, 1, none⟩) (Kd.R_far (p := ⟨gb716, 0, none⟩) (Kd.R_types HO_5.out BK716.out (by decide)) (fun _ hk => hk.2) (.string ((rd_T59 t712 x33_3).f0))) (fun _ hk => hk.2) (.string ((rd_T59 t712 x33_3).f1))) (fun _ hk => trivial))); (case aS => exact (below_size (by repeat (first | (with_reducible first | exact HB.out | apply below_alloc | apply pw_below_drewN | apply below_drew1 | refine below_set ?_ GE716.out) | exact HB.out)))); (case aL => have := LMc36.out; omega); intro v718 w39 ho hb hg hat; rw [← Ny717.out] at ho; have n0_ := Aside0.mk (Kd.R_over' (by (with_reducible repeat (first | apply Kd.R_alloc | apply Kd.R_drewN | apply Kd.R_drew)); exact (Kd.R_mono (Kd.R_far (p := ⟨gb716, 1, none⟩) (Kd.R_far (p := ⟨gb716, 0, none⟩) (Kd.R_mono HO_31.out (fun k_ hk => (⟨hk, hk.2⟩ : _ ∧ k_ ≠ gb716))) (fun _ hk => hk.2) (.string ((rd_T59 t712 x33_3).f0))) (fun _ hk => hk.2) (.string ((rd_T59 t712 x33_3).f1))) (fun _ h_ => h_.1))) (Kd.R_typed (by (with_reducible repeat (first | apply Kd.R_alloc | apply Kd.R_drewN | apply Kd.R_drew)); exact (Kd.R_mono (Kd.R_far (p := ⟨gb716, 1, none⟩) (Kd.R_far (p := ⟨gb716, 0, none⟩) (Kd.R_types HO_5.out BK716.out (by decide)) (fun _ hk => hk.2) (.string ((rd_T59 t712 x33_3).f0))) (fun _ hk => hk.2) (.string ((rd_T59 t712 x33_3).f1))) (fun _ h_ => h_.1)))) (by decide) hg); have n1_ := Aside0.mk (blk_grown (g := gb716) (o := .cells #[.string ((rd_T59 t712 x33_3).f0), .string ((rd_T59 t712 x33_3).f1)] 59 (0, 0)) (by (with_reducible repeat (first | refine blk_drewN ?_ _ | refine blk_drew ?_ | refine blk_alloc ?_ _)); refine blk_put (cs := #[.string ((rd_T59 t712 x33_3).f0), .string (⟨#[]⟩ : ByteArray)]) ?_ 1 _ rfl; (with_reducible repeat (first | refine blk_drewN ?_ _ | refine blk_drew ?_ | refine blk_alloc ?_ _)); refine blk_put (cs := #[.string (⟨#[]⟩ : ByteArray), .string (⟨#[]⟩ : ByteArray)]) ?_ 0 _ rfl; (with_reducible repeat (first | refine blk_drewN ?_ _ | refine blk_drew ?_ | refine blk_alloc ?_ _)); exact BK716.out) hg (Kd.R_ne HO_5.out BK716.out (by decide))); have n2_ := Aside0.mk (hb); have n3_ := Aside0.mk (ho); clear HO_31; clear BK716; clear HB; clear HO_5; have HO_31 := n0_; have BK716 := n1_; have HB := n2_; have HO719 := n3_; clear n0_ n1_ n2_ n3_; clear ho hb hg hat))
                            go_roundg k3
                            case measure => have := HJ2.out; have := HJ17.out; have := HK3.out; omega
                            case rel => exact ⟨(y717), (wrap64 (x33_3 + 1)), (by first | rfl | (simp; done) | (simp [*]; done) | (simp [*, q_isEmpty]; done)), H', ⟨by have := HJ2.out; have := HJ17.out; have := HK3.out; omega⟩, ⟨by (with_reducible repeat (first | apply Kd.R_alloc | apply Kd.R_drewN | apply Kd.R_drew)); exact HO719.out⟩, ⟨by (with_reducible repeat (first | apply Kd.R_alloc | apply Kd.R_drewN | apply Kd.R_drew)); exact Kd.R_mono HO_31.out (fun _ hk => trivial)⟩, ⟨by repeat (first | (with_reducible first | exact HB.out | apply below_alloc | apply pw_below_drewN | apply below_drew1 | refine below_set ?_ GE716.out) | exact HB.out)⟩⟩
                          · rw [if_neg c36] at H
                            exact absurd H (by simp)
                        · rw [if_neg c35] at H
                          exact absurd H (by simp)
                      · rw [if_neg c34] at H
                        exact absurd H (by simp)
                    · rw [if_neg c33] at H
                      have c33b0 : decide (x33_3 < (t712.length : Int)) = false := decide_eq_false c33
                      clear c33
                      replace H := Option.bind_eq_some_iff.mp H
                      obtain ⟨t720, A400, H⟩ := H
                      replace H : ((impl_Signature.f x5_3).bind fun t721 => (if t720 = t721 then ((impl_Signature.f x5_3).bind fun t722 => ((laws_pairs.f k3 l0).bind fun t723 => ((spec_SignatureWithout.f k3 t723 l1).bind fun t726 => (some (t722 == t726))))) else (some false))) = some r := H
                      have A40 := Aside0.mk A400
                      clear A400
                      replace H := Option.bind_eq_some_iff.mp H
                      obtain ⟨t721, A410, H⟩ := H
                      replace H : (if t720 = t721 then ((impl_Signature.f x5_3).bind fun t722 => ((laws_pairs.f k3 l0).bind fun t723 => ((spec_SignatureWithout.f k3 t723 l1).bind fun t726 => (some (t722 == t726))))) else (some false)) = some r := H
                      have A41 := Aside0.mk A410
                      clear A410
                      by_cases c42 : t720 = t721
                      · rw [if_pos c42] at H
                        have c42b0 : (t720 == t721) = true := beq_iff_eq.mpr c42
                        have c42b1 : (t720 != t721) = false := bne_eq_false_iff_eq.mpr c42
                        clear c42
                        replace H := Option.bind_eq_some_iff.mp H
                        obtain ⟨t722, A430, H⟩ := H
                        replace H : ((laws_pairs.f k3 l0).bind fun t723 => ((spec_SignatureWithout.f k3 t723 l1).bind fun t726 => (some (t722 == t726)))) = some r := H
                        have A43 := Aside0.mk A430
                        clear A430
                        replace H := Option.bind_eq_some_iff.mp H
                        obtain ⟨t723, A440, H⟩ := H
                        replace H : ((spec_SignatureWithout.f k3 t723 l1).bind fun t726 => (some (t722 == t726))) = some r := H
                        have A44 := Aside0.mk A440
                        clear A440
                        replace H := Option.bind_eq_some_iff.mp H
                        obtain ⟨t726, A450, H⟩ := H
                        replace H : (some (t722 == t726)) = some r := H
                        have A45 := Aside0.mk A450
                        clear A450
                        obtain rfl := Option.some.inj H
                        go_wp2_with (first | ((with_reducible refine gate_callee (f := 52) rfl ?_); refine goesL_ (some 44) rfl rfl Try.func52 (by kernel_rfl) rfl #[.slice A0 l0.length c0, .slice A1 l1.length c1] rfl (by (try simp only [List.map_toArray, List.map_cons, List.map_nil]); first | done | rfl | (simp only [List.length_drop, List.length_take]; rfl)) ?_; (with_reducible refine (impl_SignatureWithout.calls _ _ l0 _ _ l1 t720 _ ?side1 ?side2 ?side3 ?side4 A40.out).mono ?_); (case side1 => repeat (first | exact (Kd.C_below HR0.out HB.out) | (with_reducible refine Kd.C_alloc ?_ _) | (with_reducible refine Kd.C_drewN ?_ _) | (with_reducible refine Kd.C_drew ?_))); (case side2 => exact HC0.out); (case side3 => repeat (first | exact (Kd.C_below HR1.out HB.out) | (with_reducible refine Kd.C_alloc ?_ _) | (with_reducible refine Kd.C_drewN ?_ _) | (with_reducible refine Kd.C_drew ?_))); (case side4 => exact HC1.out); rintro e w46 ⟨rfl, hb⟩; refine ⟨_, rfl, ?_⟩; have n0_ := Aside0.mk (Kd.R_below (by (with_reducible repeat (first | apply Kd.R_alloc | apply Kd.R_drewN | apply Kd.R_drew)); exact HO_5.out) hb); have n1_ := Aside0.mk (Kd.R_below (by (with_reducible repeat (first | apply Kd.R_alloc | apply Kd.R_drewN | apply Kd.R_drew)); exact HO_31.out) hb); have n2_ := Aside0.mk (below_step (by repeat (first | (with_reducible first | exact HB.out | apply below_alloc | apply pw_below_drewN | apply below_drew1) | exact HB.out)) hb); clear HO_5; clear HO_31; clear HB; have HO_5 := n0_; have HO_31 := n1_; have HB := n2_; clear n0_ n1_ n2_; (try clear hb); (try clear hb2); (try clear hk); (try clear hi); obtain ⟨Ao47, co47, eo47⟩ := Kd.R_slice HO_5.out; subst eo47) | ((with_reducible refine gate_callee (f := 50) rfl ?_); refine goesL_ (some 46) rfl rfl Try.func50 (by kernel_rfl) rfl #[.slice Ao47 x5_3.length co47] rfl (by (try simp only [List.map_toArray, List.map_cons, List.map_nil]); first | done | rfl | (simp only [List.length_drop, List.length_take]; rfl)) ?_; (with_reducible refine (impl_Signature.calls _ _ x5_3 t721 _ ?side1 ?side2 A41.out).mono ?_); (case side1 => repeat (first | exact (Kd.R_reads' HO_5.out).2.2 | (with_reducible refine Kd.C_alloc ?_ _) | (with_reducible refine Kd.C_drewN ?_ _) | (with_reducible refine Kd.C_drew ?_))); (case side2 => exact (Kd.R_reads' HO_5.out).2.1); rintro e w48 ⟨rfl, hb⟩; refine ⟨_, rfl, ?_⟩; have n0_ := Aside0.mk (Kd.R_below (by (with_reducible repeat (first | apply Kd.R_alloc | apply Kd.R_drewN | apply Kd.R_drew)); exact HO_5.out) hb); have n1_ := Aside0.mk (Kd.R_below (by (with_reducible repeat (first | apply Kd.R_alloc | apply Kd.R_drewN | apply Kd.R_drew)); exact HO_31.out) hb); have n2_ := Aside0.mk (below_step (by repeat (first | (with_reducible first | exact HB.out | apply below_alloc | apply pw_below_drewN | apply below_drew1) | exact HB.out)) hb); clear HO_5; clear HO_31; clear HB; have HO_5 := n0_; have HO_31 := n1_; have HB := n2_; clear n0_ n1_ n2_; (try clear hb); (try clear hb2); (try clear hk); (try clear hi); clear A41) | (go_at_call 50; (with_reducible refine (impl_Signature.calls _ _ x5_3 t722 _ ?side1 ?side2 A43.out).mono ?_); (case side1 => repeat (first | exact (Kd.R_reads' HO_5.out).2.2 | (with_reducible refine Kd.C_alloc ?_ _) | (with_reducible refine Kd.C_drewN ?_ _) | (with_reducible refine Kd.C_drew ?_))); (case side2 => exact (Kd.R_reads' HO_5.out).2.1); rintro e w49 ⟨rfl, hb⟩; have n0_ := Aside0.mk (Kd.R_below (by (with_reducible repeat (first | apply Kd.R_alloc | apply Kd.R_drewN | apply Kd.R_drew)); exact HO_5.out) hb); have n1_ := Aside0.mk (Kd.R_below (by (with_reducible repeat (first | apply Kd.R_alloc | apply Kd.R_drewN | apply Kd.R_drew)); exact HO_31.out) hb); have n2_ := Aside0.mk (below_step (by repeat (first | (with_reducible first | exact HB.out | apply below_alloc | apply pw_below_drewN | apply below_drew1) | exact HB.out)) hb); clear HO_5; clear HO_31; clear HB; have HO_5 := n0_; have HO_31 := n1_; have HB := n2_; clear n0_ n1_ n2_; (try clear hb); (try clear hb2); (try clear hk); (try clear hi)) | (go_at_call 20; (with_reducible refine (laws_pairs.calls k3 _ _ l0 t723 _ ?side1 ?side2 A44.out).mono ?_); (case side1 => repeat (first | exact (Kd.C_below HR0.out HB.out) | (with_reducible refine Kd.C_alloc ?_ _) | (with_reducible refine Kd.C_drewN ?_ _) | (with_reducible refine Kd.C_drew ?_))); (case side2 => exact HC0.out); rintro e w50 ⟨v724, rfl, ho0, hb⟩; have n0_ := Aside0.mk (Kd.R_below (by (with_reducible repeat (first | apply Kd.R_alloc | apply Kd.R_drewN | apply Kd.R_drew)); exact HO_5.out) hb); have n1_ := Aside0.mk (Kd.R_elder' (by (with_reducible repeat (first | apply Kd.R_alloc | apply Kd.R_drewN | apply Kd.R_drew)); exact HO_31.out) (Kd.R_base ho0) hb); have n2_ := Aside0.mk (Kd.R_lower (Kd.R_new' ho0 (Kd.R_lt (by (with_reducible repeat (first | apply Kd.R_alloc | apply Kd.R_drewN | apply Kd.R_drew)); exact HO_31.out))) (below_size (by repeat (first | (with_reducible first | exact HB.out | apply below_alloc | apply pw_below_drewN | apply below_drew1) | exact HB.out)))); have n3_ := Aside0.mk (below_step (by repeat (first | (with_reducible first | exact HB.out | apply below_alloc | apply pw_below_drewN | apply below_drew1) | exact HB.out)) hb); clear HO_5; clear HO_31; clear HB; have HO_5 := n0_; have HO_31 := n1_; have HO725 := n2_; have HB := n3_; clear n0_ n1_ n2_ n3_; (try clear hb); (try clear hb2); (try clear hk); (try clear hi); (try clear ho0); obtain ⟨Ao51, co51, eo51⟩ := Kd.R_slice HO725.out; subst eo51) | (go_at_call 53; (with_reducible refine (spec_SignatureWithout.calls k3 _ _ t723 _ _ l1 t726 _ ?side1 ?side2 ?side3 ?side4 A45.out).mono ?_); (case side1 => repeat (first | exact (Kd.R_reads' HO725.out).2.2 | (with_reducible refine Kd.C_alloc ?_ _) | (with_reducible refine Kd.C_drewN ?_ _) | (with_reducible refine Kd.C_drew ?_))); (case side2 => exact (Kd.R_reads' HO725.out).2.1); (case side3 => repeat (first | exact (Kd.C_below HR1.out HB.out) | (with_reducible refine Kd.C_alloc ?_ _) | (with_reducible refine Kd.C_drewN ?_ _) | (with_reducible refine Kd.C_drew ?_))); (case side4 => exact HC1.out); rintro e w52 ⟨rfl, hb⟩; have n0_ := Aside0.mk (Kd.R_below (by (with_reducible repeat (first | apply Kd.R_alloc | apply Kd.R_drewN | apply Kd.R_drew)); exact HO_5.out) hb); have n1_ := Aside0.mk (Kd.R_below (by (with_reducible repeat (first | apply Kd.R_alloc | apply Kd.R_drewN | apply Kd.R_drew)); exact HO_31.out) hb); have n2_ := Aside0.mk (Kd.R_below (by (with_reducible repeat (first | apply Kd.R_alloc | apply Kd.R_drewN | apply Kd.R_drew)); exact HO725.out) hb); have n3_ := Aside0.mk (below_step (by repeat (first | (with_reducible first | exact HB.out | apply below_alloc | apply pw_below_drewN | apply below_drew1) | exact HB.out)) hb); clear HO_5; clear HO_31; clear HO725; clear HB; have HO_5 := n0_; have HO_31 := n1_; have HO725 := n2_; have HB := n3_; clear n0_ n1_ n2_ n3_; (try clear hb); (try clear hb2); (try clear hk); (try clear hi)))
                        go_ret
                        exact ⟨by first | rfl | (simp [errW_none, errW_some] <;> rfl) | (simp [*, errW_none, errW_some] <;> rfl) | (simp [*, q_isEmpty]; done), by repeat (first | (with_reducible first | exact HB.out | apply below_alloc | apply pw_below_drewN | apply below_drew1) | exact HB.out)⟩
                      · rw [if_neg c42] at H
                        have c42b0 : (t720 == t721) = false := beq_eq_false_iff_ne.mpr c42
                        have c42b1 : (t720 != t721) = true := bne_iff_ne.mpr c42
                        obtain rfl := Option.some.inj H
                        go_wp2_with (first | ((with_reducible refine gate_callee (f := 52) rfl ?_); refine goesL_ (some 44) rfl rfl Try.func52 (by kernel_rfl) rfl #[.slice A0 l0.length c0, .slice A1 l1.length c1] rfl (by (try simp only [List.map_toArray, List.map_cons, List.map_nil]); first | done | rfl | (simp only [List.length_drop, List.length_take]; rfl)) ?_; (with_reducible refine (impl_SignatureWithout.calls _ _ l0 _ _ l1 t720 _ ?side1 ?side2 ?side3 ?side4 A40.out).mono ?_); (case side1 => repeat (first | exact (Kd.C_below HR0.out HB.out) | (with_reducible refine Kd.C_alloc ?_ _) | (with_reducible refine Kd.C_drewN ?_ _) | (with_reducible refine Kd.C_drew ?_))); (case side2 => exact HC0.out); (case side3 => repeat (first | exact (Kd.C_below HR1.out HB.out) | (with_reducible refine Kd.C_alloc ?_ _) | (with_reducible refine Kd.C_drewN ?_ _) | (with_reducible refine Kd.C_drew ?_))); (case side4 => exact HC1.out); rintro e w53 ⟨rfl, hb⟩; refine ⟨_, rfl, ?_⟩; have n0_ := Aside0.mk (Kd.R_below (by (with_reducible repeat (first | apply Kd.R_alloc | apply Kd.R_drewN | apply Kd.R_drew)); exact HO_5.out) hb); have n1_ := Aside0.mk (Kd.R_below (by (with_reducible repeat (first | apply Kd.R_alloc | apply Kd.R_drewN | apply Kd.R_drew)); exact HO_31.out) hb); have n2_ := Aside0.mk (below_step (by repeat (first | (with_reducible first | exact HB.out | apply below_alloc | apply pw_below_drewN | apply below_drew1) | exact HB.out)) hb); clear HO_5; clear HO_31; clear HB; have HO_5 := n0_; have HO_31 := n1_; have HB := n2_; clear n0_ n1_ n2_; (try clear hb); (try clear hb2); (try clear hk); (try clear hi); obtain ⟨Ao54, co54, eo54⟩ := Kd.R_slice HO_5.out; subst eo54) | ((with_reducible refine gate_callee (f := 50) rfl ?_); refine goesL_ (some 46) rfl rfl Try.func50 (by kernel_rfl) rfl #[.slice Ao54 x5_3.length co54] rfl (by (try simp only [List.map_toArray, List.map_cons, List.map_nil]); first | done | rfl | (simp only [List.length_drop, List.length_take]; rfl)) ?_; (with_reducible refine (impl_Signature.calls _ _ x5_3 t721 _ ?side1 ?side2 A41.out).mono ?_); (case side1 => repeat (first | exact (Kd.R_reads' HO_5.out).2.2 | (with_reducible refine Kd.C_alloc ?_ _) | (with_reducible refine Kd.C_drewN ?_ _) | (with_reducible refine Kd.C_drew ?_))); (case side2 => exact (Kd.R_reads' HO_5.out).2.1); rintro e w55 ⟨rfl, hb⟩; refine ⟨_, rfl, ?_⟩; have n0_ := Aside0.mk (Kd.R_below (by (with_reducible repeat (first | apply Kd.R_alloc | apply Kd.R_drewN | apply Kd.R_drew)); exact HO_5.out) hb); have n1_ := Aside0.mk (Kd.R_below (by (with_reducible repeat (first | apply Kd.R_alloc | apply Kd.R_drewN | apply Kd.R_drew)); exact HO_31.out) hb); have n2_ := Aside0.mk (below_step (by repeat (first | (with_reducible first | exact HB.out | apply below_alloc | apply pw_below_drewN | apply below_drew1) | exact HB.out)) hb); clear HO_5; clear HO_31; clear HB; have HO_5 := n0_; have HO_31 := n1_; have HB := n2_; clear n0_ n1_ n2_; (try clear hb); (try clear hb2); (try clear hk); (try clear hi)))
                        go_ret
                        exact ⟨by first | rfl | (simp [errW_none, errW_some] <;> rfl) | (simp [*, errW_none, errW_some] <;> rfl) | (simp [*, q_isEmpty]; done), by repeat (first | (with_reducible first | exact HB.out | apply below_alloc | apply pw_below_drewN | apply below_drew1) | exact HB.out)⟩

end Go.Proofs.Ytikhlolhodgegaa.Q
