-- Printed for this seat by wip/pp.py of this repo; nothing here is trusted: Lean checks it.
import Derived.Test.YtbcijcmmpbkkbaaQ0
import Derived.Test.YtbcijcmmpbkkbaaHJoin
import Derived.Test.YtbcijcmmpbkkbaaQlawsslight
import Derived.Test.YtbcijcmmpbkkbaaQlawszzFits6
namespace Go.Proofs.Ytbcijcmmpbkkbaa.Q
open Go.RowKit Go.Proofs.YtbcijcmmpbkkbaaW.PrintWords Go.Proofs.YtbcijcmmpbkkbaaW.PrintLast Go.Proofs.YtbcijcmmpbkkbaaW.PrintMore
attribute [local go_sem] max2_int min2_int max_two min_two max_three min_three max_four min_four   -- for this text's walks alone
set_option linter.unusedVariables false
set_option linter.unusedSimpArgs false

/-! ### laws_FnJoinedParts: function 12 -/
mutual
def laws_FnJoinedParts.j0 : Nat → List ByteArray → List ByteArray → ByteArray → Bool → Option (Bool)
  | 0, _, _, _, _ => none
  | k + 1, x0, x1, x2, x19 => if x19 = true then (some true) else ((impl_Joined.f (([(⟨#[97]⟩ : ByteArray), (⟨#[98]⟩ : ByteArray)] : List ByteArray)) (⟨#[45]⟩ : ByteArray)).bind fun t267 => (if t267.toList = ([97, 45, 98] : List UInt8) then ((laws_slight.f k x0 x2).bind fun t268 => (if t268 = true then ((laws_slight.f k x1 x2).bind fun t269 => (if t269 = true then (if (x0.length : Int) = 0 then (laws_FnJoinedParts.j1 k x0 x1 x2 true) else (laws_FnJoinedParts.j1 k x0 x1 x2 ((x1.length : Int) == 0))) else (laws_FnJoinedParts.j1 k x0 x1 x2 true))) else (laws_FnJoinedParts.j1 k x0 x1 x2 true))) else (some false)))
def laws_FnJoinedParts.j1 : Nat → List ByteArray → List ByteArray → ByteArray → Bool → Option (Bool)
  | 0, _, _, _, _ => none
  | k + 1, x0, x1, x2, x42 => if x42 = true then (some true) else ((some (([] : List ByteArray) : List ByteArray)).bind fun y270 => (if y270.length + x0.length < 8796093022208 then ((some (y270 ++ x0 : List ByteArray)).bind fun y273 => (if y273.length + x1.length < 8796093022208 then ((impl_Joined.f (y273 ++ x1) x2).bind fun t279 => ((impl_Joined.f x0 x2).bind fun t280 => ((impl_Joined.f x1 x2).bind fun t281 => ((impl_Joined.f (([t280, t281] : List ByteArray)) x2).bind fun t285 => (some (t279.toList == t285.toList)))))) else (none))) else (none)))
end
def laws_FnJoinedParts.f (k : Nat) (l0 : List ByteArray) (l1 : List ByteArray) (a2 : ByteArray) : Option (Bool) := (laws_zzFits6.f k l0).bind fun t262 => (if t262 = true then ((laws_zzFits6.f k l1).bind fun t263 => (if t263 = true then (laws_FnJoinedParts.j0 k l0 l1 a2 (decide ((a2.size : Int) > 2147483647))) else (laws_FnJoinedParts.j0 k l0 l1 a2 true))) else (laws_FnJoinedParts.j0 k l0 l1 a2 true))
theorem laws_FnJoinedParts.mono_l : ∀ k, (∀ y0 y1 y2 y3, LeO (laws_FnJoinedParts.j0 k y0 y1 y2 y3) (laws_FnJoinedParts.j0 (k + 1) y0 y1 y2 y3)) ∧ (∀ y0 y1 y2 y3, LeO (laws_FnJoinedParts.j1 k y0 y1 y2 y3) (laws_FnJoinedParts.j1 (k + 1) y0 y1 y2 y3))
  | 0 => ⟨fun _ _ _ _ r h => by simp [laws_FnJoinedParts.j0] at h, fun _ _ _ _ r h => by simp [laws_FnJoinedParts.j1] at h⟩
  | k + 1 => by
    obtain ⟨ih0, ih1⟩ := laws_FnJoinedParts.mono_l k
    refine ⟨?_, ?_⟩
    · intro y0 y1 y2 y3
      unfold laws_FnJoinedParts.j0
      repeat' first
      | (with_reducible exact ih0 _ _ _ _)
      | (with_reducible exact ih1 _ _ _ _)
      | (with_reducible exact laws_slight.mono _ _ _)
      | (with_reducible exact laws_zzFits6.mono _ _)
      | (with_reducible exact LeO.refl _)
      | (with_reducible exact LeO.none _)
      | (with_reducible refine LeO.ite ?_ ?_)
      | (with_reducible refine LeO.bind ?_ (fun _ => ?_))
      | exact ih0 _ _ _ _
      | exact ih1 _ _ _ _
      | exact laws_slight.mono _ _ _
      | exact laws_zzFits6.mono _ _
      | exact LeO.none _
      | refine LeO.ite ?_ ?_
      | refine LeO.bind ?_ (fun _ => ?_)
    · intro y0 y1 y2 y3
      unfold laws_FnJoinedParts.j1
      repeat' first
      | (with_reducible exact ih0 _ _ _ _)
      | (with_reducible exact ih1 _ _ _ _)
      | (with_reducible exact laws_slight.mono _ _ _)
      | (with_reducible exact laws_zzFits6.mono _ _)
      | (with_reducible exact LeO.refl _)
      | (with_reducible exact LeO.none _)
      | (with_reducible refine LeO.ite ?_ ?_)
      | (with_reducible refine LeO.bind ?_ (fun _ => ?_))
      | exact ih0 _ _ _ _
      | exact ih1 _ _ _ _
      | exact laws_slight.mono _ _ _
      | exact laws_zzFits6.mono _ _
      | exact LeO.none _
      | refine LeO.ite ?_ ?_
      | refine LeO.bind ?_ (fun _ => ?_)
theorem laws_FnJoinedParts.mono : ∀ a0 a1 a2 k, LeO (laws_FnJoinedParts.f k a0 a1 a2) (laws_FnJoinedParts.f (k + 1) a0 a1 a2) := by
  intro a0 a1 a2 k
  obtain ⟨ih0, ih1⟩ := laws_FnJoinedParts.mono_l k
  unfold laws_FnJoinedParts.f
  repeat' first
      | (with_reducible exact ih0 _ _ _ _)
      | (with_reducible exact ih1 _ _ _ _)
      | (with_reducible exact laws_slight.mono _ _ _)
      | (with_reducible exact laws_zzFits6.mono _ _)
      | (with_reducible exact LeO.refl _)
      | (with_reducible exact LeO.none _)
      | (with_reducible refine LeO.ite ?_ ?_)
      | (with_reducible refine LeO.bind ?_ (fun _ => ?_))
      | exact ih0 _ _ _ _
      | exact ih1 _ _ _ _
      | exact laws_slight.mono _ _ _
      | exact laws_zzFits6.mono _ _
      | exact LeO.none _
      | refine LeO.ite ?_ ?_
      | refine LeO.bind ?_ (fun _ => ?_)
set_option maxHeartbeats 8000000 in
set_option maxRecDepth 100000 in
theorem laws_FnJoinedParts.calls (k : Nat) (A0 : Option Addr) (c0 : Nat) (l0 : List ByteArray) (A1 : Option Addr) (c1 : Nat) (l1 : List ByteArray) (a2 : ByteArray) (r : Bool) (w : World) (hr0 : Kd.C Kd.string w A0 l0.length l0) (hc0 : l0.length ≤ c0) (hr1 : Kd.C Kd.string w A1 l1.length l1) (hc1 : l1.length ≤ c1) (h : laws_FnJoinedParts.f k l0 l1 a2 = some r) :
    Calls Try.prog 12 #[.slice A0 l0.length c0, .slice A1 l1.length c1, .string a2] w fun e w' => e = .returned (.bool r) ∧ Below w.heap.size w w' := by
  have HR0 := Aside0.mk hr0
  have HC0 := Aside0.mk hc0
  clear hr0 hc0
  have HR1 := Aside0.mk hr1
  have HC1 := Aside0.mk hc1
  clear hr1 hc1
  have HB := Aside0.mk (Below.refl w.heap.size w)
  have H : ((laws_zzFits6.f k l0).bind fun t262 => (if t262 = true then ((laws_zzFits6.f k l1).bind fun t263 => (if t263 = true then (laws_FnJoinedParts.j0 k l0 l1 a2 (decide ((a2.size : Int) > 2147483647))) else (laws_FnJoinedParts.j0 k l0 l1 a2 true))) else (laws_FnJoinedParts.j0 k l0 l1 a2 true))) = some r := h
  clear h
  have HC4 := Aside0.mk H
  clear H
  go_enter Try.func12, Try.ntmps12
  go_upto_region 1 with (fail)
  go_cut [19] (fun v19 wc => ∃ (kq : Nat) (x19_3 : Bool), v19 = .bool x19_3 ∧ Aside0 (laws_FnJoinedParts.j0 kq l0 l1 a2 x19_3 = some r) ∧ Aside0 (kq ≤ k) ∧ Aside0 (Below w.heap.size w wc))
  case first =>
    have H := HC4.out
    clear HC4
    replace H := Option.bind_eq_some_iff.mp H
    obtain ⟨t262, A50, H⟩ := H
    replace H : (if t262 = true then ((laws_zzFits6.f k l1).bind fun t263 => (if t263 = true then (laws_FnJoinedParts.j0 k l0 l1 a2 (decide ((a2.size : Int) > 2147483647))) else (laws_FnJoinedParts.j0 k l0 l1 a2 true))) else (laws_FnJoinedParts.j0 k l0 l1 a2 true)) = some r := H
    have A5 := Aside0.mk A50
    clear A50
    by_cases c6 : t262 = true
    · subst c6
      have H1 : ((laws_zzFits6.f k l1).bind fun t263 => (if t263 = true then (laws_FnJoinedParts.j0 k l0 l1 a2 (decide ((a2.size : Int) > 2147483647))) else (laws_FnJoinedParts.j0 k l0 l1 a2 true))) = some r := by rw [if_pos rfl] at H; exact H
      clear H
      have H := H1
      clear H1
      replace H := Option.bind_eq_some_iff.mp H
      obtain ⟨t263, A70, H⟩ := H
      replace H : (if t263 = true then (laws_FnJoinedParts.j0 k l0 l1 a2 (decide ((a2.size : Int) > 2147483647))) else (laws_FnJoinedParts.j0 k l0 l1 a2 true)) = some r := H
      have A7 := Aside0.mk A70
      clear A70
      by_cases c8 : t263 = true
      · subst c8
        have H1 : (laws_FnJoinedParts.j0 k l0 l1 a2 (decide ((a2.size : Int) > 2147483647))) = some r := by rw [if_pos rfl] at H; exact H
        clear H
        have H := H1
        clear H1
        have H' := Aside0.mk H
        clear H
        go_wp2_with (first | ((with_reducible refine gate_callee (f := 40) rfl ?_); refine goesL_ (some 8) rfl rfl Try.func40 (by kernel_rfl) rfl #[.slice A0 l0.length c0] rfl (by (try simp only [List.map_toArray, List.map_cons, List.map_nil]); first | done | rfl | (simp only [List.length_drop, List.length_take]; rfl)) ?_; (with_reducible refine (laws_zzFits6.calls k _ _ l0 true _ ?side1 ?side2 A5.out).mono ?_); (case side1 => repeat (first | exact (Kd.C_below HR0.out HB.out) | (with_reducible refine Kd.C_alloc ?_ _) | (with_reducible refine Kd.C_drewN ?_ _) | (with_reducible refine Kd.C_drew ?_))); (case side2 => exact HC0.out); rintro e w' ⟨rfl, ⟨nd, rfl⟩⟩; refine ⟨_, rfl, ?_⟩) | (go_at_call 40; (with_reducible refine (laws_zzFits6.calls k _ _ l1 true _ ?side1 ?side2 A7.out).mono ?_); (case side1 => repeat (first | exact (Kd.C_below HR1.out (by repeat (first | (with_reducible first | exact HB.out | apply below_alloc | apply pw_below_drewN | apply below_drew1) | exact HB.out))) | (with_reducible refine Kd.C_alloc ?_ _) | (with_reducible refine Kd.C_drewN ?_ _) | (with_reducible refine Kd.C_drew ?_))); (case side2 => exact HC1.out); rintro e w' ⟨rfl, ⟨nd, rfl⟩⟩))
        go_meet
        case rel => exact ⟨_, (decide ((a2.size : Int) > 2147483647)), (by first | rfl | (simp; done) | (simp [*]; done) | (simp [*, q_isEmpty]; done)), H', ⟨by first | omega | exact Nat.le_refl _⟩, ⟨by repeat (first | (with_reducible first | exact HB.out | apply below_alloc | apply pw_below_drewN | apply below_drew1) | exact HB.out)⟩⟩
      · replace c8 := Bool.eq_false_iff.mpr c8
        subst c8
        have H1 : (laws_FnJoinedParts.j0 k l0 l1 a2 true) = some r := by rw [if_neg (show ¬ (false = true) by decide)] at H; exact H
        clear H
        have H := H1
        clear H1
        have H' := Aside0.mk H
        clear H
        go_wp2_with (first | ((with_reducible refine gate_callee (f := 40) rfl ?_); refine goesL_ (some 8) rfl rfl Try.func40 (by kernel_rfl) rfl #[.slice A0 l0.length c0] rfl (by (try simp only [List.map_toArray, List.map_cons, List.map_nil]); first | done | rfl | (simp only [List.length_drop, List.length_take]; rfl)) ?_; (with_reducible refine (laws_zzFits6.calls k _ _ l0 true _ ?side1 ?side2 A5.out).mono ?_); (case side1 => repeat (first | exact (Kd.C_below HR0.out HB.out) | (with_reducible refine Kd.C_alloc ?_ _) | (with_reducible refine Kd.C_drewN ?_ _) | (with_reducible refine Kd.C_drew ?_))); (case side2 => exact HC0.out); rintro e w' ⟨rfl, ⟨nd, rfl⟩⟩; refine ⟨_, rfl, ?_⟩) | (go_at_call 40; (with_reducible refine (laws_zzFits6.calls k _ _ l1 false _ ?side1 ?side2 A7.out).mono ?_); (case side1 => repeat (first | exact (Kd.C_below HR1.out (by repeat (first | (with_reducible first | exact HB.out | apply below_alloc | apply pw_below_drewN | apply below_drew1) | exact HB.out))) | (with_reducible refine Kd.C_alloc ?_ _) | (with_reducible refine Kd.C_drewN ?_ _) | (with_reducible refine Kd.C_drew ?_))); (case side2 => exact HC1.out); rintro e w' ⟨rfl, ⟨nd, rfl⟩⟩))
        go_meet
        case rel => exact ⟨_, (true), (by first | rfl | (simp; done) | (simp [*]; done) | (simp [*, q_isEmpty]; done)), H', ⟨by first | omega | exact Nat.le_refl _⟩, ⟨by repeat (first | (with_reducible first | exact HB.out | apply below_alloc | apply pw_below_drewN | apply below_drew1) | exact HB.out)⟩⟩
    · replace c6 := Bool.eq_false_iff.mpr c6
      subst c6
      have H1 : (laws_FnJoinedParts.j0 k l0 l1 a2 true) = some r := by rw [if_neg (show ¬ (false = true) by decide)] at H; exact H
      clear H
      have H := H1
      clear H1
      have H' := Aside0.mk H
      clear H
      go_wp2_with (first | ((with_reducible refine gate_callee (f := 40) rfl ?_); refine goesL_ (some 8) rfl rfl Try.func40 (by kernel_rfl) rfl #[.slice A0 l0.length c0] rfl (by (try simp only [List.map_toArray, List.map_cons, List.map_nil]); first | done | rfl | (simp only [List.length_drop, List.length_take]; rfl)) ?_; (with_reducible refine (laws_zzFits6.calls k _ _ l0 false _ ?side1 ?side2 A5.out).mono ?_); (case side1 => repeat (first | exact (Kd.C_below HR0.out HB.out) | (with_reducible refine Kd.C_alloc ?_ _) | (with_reducible refine Kd.C_drewN ?_ _) | (with_reducible refine Kd.C_drew ?_))); (case side2 => exact HC0.out); rintro e w' ⟨rfl, ⟨nd, rfl⟩⟩; refine ⟨_, rfl, ?_⟩))
      go_meet
      case rel => exact ⟨_, (true), (by first | rfl | (simp; done) | (simp [*]; done) | (simp [*, q_isEmpty]; done)), H', ⟨by first | omega | exact Nat.le_refl _⟩, ⟨by repeat (first | (with_reducible first | exact HB.out | apply below_alloc | apply pw_below_drewN | apply below_drew1) | exact HB.out)⟩⟩
  case rest =>
    clear HC4
    try clear c1
    try clear p2
    try clear c4
    try clear c6
    try clear c8
    obtain ⟨kq, x19_3, rfl, HA, HJ3, HB⟩ := hcut
    cases kq with
    | zero => exact absurd HA.out (by simp [laws_FnJoinedParts.j0])
    | succ kj3 =>
      have H := HA.out
      clear HA
      simp only [laws_FnJoinedParts.j0] at H
      by_cases c9 : x19_3 = true
      · subst c9
        have H1 : (some true) = some r := by rw [if_pos rfl] at H; exact H
        clear H
        have H := H1
        clear H1
        obtain rfl := Option.some.inj H
        go_wp2
        go_ret
        exact ⟨by first | rfl | (simp [errW_none, errW_some] <;> rfl) | (simp [*, errW_none, errW_some] <;> rfl) | (simp [*, q_isEmpty]; done), by repeat (first | (with_reducible first | exact HB.out | apply below_alloc | apply pw_below_drewN | apply below_drew1) | exact HB.out)⟩
      · replace c9 := Bool.eq_false_iff.mpr c9
        subst c9
        have H1 : ((impl_Joined.f (([(⟨#[97]⟩ : ByteArray), (⟨#[98]⟩ : ByteArray)] : List ByteArray)) (⟨#[45]⟩ : ByteArray)).bind fun t267 => (if t267.toList = ([97, 45, 98] : List UInt8) then ((laws_slight.f kj3 l0 a2).bind fun t268 => (if t268 = true then ((laws_slight.f kj3 l1 a2).bind fun t269 => (if t269 = true then (if (l0.length : Int) = 0 then (laws_FnJoinedParts.j1 kj3 l0 l1 a2 true) else (laws_FnJoinedParts.j1 kj3 l0 l1 a2 ((l1.length : Int) == 0))) else (laws_FnJoinedParts.j1 kj3 l0 l1 a2 true))) else (laws_FnJoinedParts.j1 kj3 l0 l1 a2 true))) else (some false))) = some r := by rw [if_neg (show ¬ (false = true) by decide)] at H; exact H
        clear H
        have H := H1
        clear H1
        obtain ⟨y264, hy264⟩ : ∃ y_ : List ByteArray, y_ = (([(⟨#[97]⟩ : ByteArray), (⟨#[98]⟩ : ByteArray)] : List ByteArray)) := ⟨_, rfl⟩
        replace H : ((impl_Joined.f y264 (⟨#[45]⟩ : ByteArray)).bind fun t267 => (if t267.toList = ([97, 45, 98] : List UInt8) then ((laws_slight.f kj3 l0 a2).bind fun t268 => (if t268 = true then ((laws_slight.f kj3 l1 a2).bind fun t269 => (if t269 = true then (if (l0.length : Int) = 0 then (laws_FnJoinedParts.j1 kj3 l0 l1 a2 true) else (laws_FnJoinedParts.j1 kj3 l0 l1 a2 ((l1.length : Int) == 0))) else (laws_FnJoinedParts.j1 kj3 l0 l1 a2 true))) else (laws_FnJoinedParts.j1 kj3 l0 l1 a2 true))) else (some false))) = some r := by first | (rw [hy264]; with_reducible exact H) | (have H2_ := (Option.bind_some _ _).symm.trans H; rw [hy264]; with_reducible exact H2_) | (have H2_ := (Option.bind_some _ _).symm.trans H; with_reducible exact H2_) | with_reducible exact H | (rw [hy264]; exact H) | exact H
        have Ny264 := Aside0.mk hy264
        clear hy264
        replace H := Option.bind_eq_some_iff.mp H
        obtain ⟨t267, A100, H⟩ := H
        replace H : (if t267.toList = ([97, 45, 98] : List UInt8) then ((laws_slight.f kj3 l0 a2).bind fun t268 => (if t268 = true then ((laws_slight.f kj3 l1 a2).bind fun t269 => (if t269 = true then (if (l0.length : Int) = 0 then (laws_FnJoinedParts.j1 kj3 l0 l1 a2 true) else (laws_FnJoinedParts.j1 kj3 l0 l1 a2 ((l1.length : Int) == 0))) else (laws_FnJoinedParts.j1 kj3 l0 l1 a2 true))) else (laws_FnJoinedParts.j1 kj3 l0 l1 a2 true))) else (some false)) = some r := H
        have A10 := Aside0.mk A100
        clear A100
        by_cases c11 : t267.toList = ([97, 45, 98] : List UInt8)
        · rw [if_pos c11] at H
          have c11b0 : (t267.toList == ([97, 45, 98] : List UInt8)) = true := beq_iff_eq.mpr c11
          have c11b1 : (t267.toList != ([97, 45, 98] : List UInt8)) = false := bne_eq_false_iff_eq.mpr c11
          clear c11
          have HC12 := Aside0.mk H
          clear H
          go_upto_region 5 with (first | ((with_reducible refine gate_dst (N := 20) rfl ?_); (try (refine gate_guard (by rfl) ?_; dsimp only)); refine Kd.R_lit Kd.string _ 9 ?hg (N := 20) ?hd (xs := ([(⟨#[97]⟩ : ByteArray), (⟨#[98]⟩ : ByteArray)] : List ByteArray)) (inner := [.string (⟨#[97]⟩ : ByteArray), .string (⟨#[98]⟩ : ByteArray)]) (ok := fun _ => True) (okp := fun _ => True) ?hr ?hp (fun _ hk => hk) trivial (Below.refl _ _) (Nat.le_refl _) (by simp) ?_; (case hd => rfl); (case hg => rfl); (case hr => first | (go_simp; done) | (go_simp; rfl)); (case hp => exact (Reps.one (show Kd.M Kd.string _ _ _ (⟨#[97]⟩ : ByteArray) [.string (⟨#[97]⟩ : ByteArray)] from rfl) (Reps.one (show Kd.M Kd.string _ _ _ (⟨#[98]⟩ : ByteArray) [.string (⟨#[98]⟩ : ByteArray)] from rfl) (Reps.none _ _)))); intro v265 w13 ho14 hb hg_ hnew_; clear hg_ hnew_; (first | rw [← Ny264.out] at ho14 | (simp only [Int.reduceToNat] at ho14; rw [← Ny264.out] at ho14)); have n0_ := Aside0.mk (Kd.R_lower ho14 (below_size (by repeat (first | (with_reducible first | exact HB.out | apply below_alloc | apply pw_below_drewN | apply below_drew1) | exact HB.out)))); have n1_ := Aside0.mk (below_step (by repeat (first | (with_reducible first | exact HB.out | apply below_alloc | apply pw_below_drewN | apply below_drew1) | exact HB.out)) hb); clear HB; have HO266 := n0_; have HB := n1_; clear n0_ n1_; clear hb ho14; obtain ⟨Ao15, co15, eo15⟩ := Kd.R_slice HO266.out; subst eo15) | ((with_reducible refine gate_callee (f := 41) rfl ?_); refine goesL_ (some 21) rfl rfl Try.func41 (by kernel_rfl) rfl #[.slice Ao15 y264.length co15, .string (⟨#[45]⟩ : ByteArray)] rfl (by (try simp only [List.map_toArray, List.map_cons, List.map_nil]); first | done | rfl | (simp only [List.length_drop, List.length_take]; rfl)) ?_; (with_reducible refine (impl_Joined.calls _ _ y264 (⟨#[45]⟩ : ByteArray) t267 _ ?side1 ?side2 A10.out).mono ?_); (case side1 => repeat (first | exact (Kd.R_reads' HO266.out).2.2 | (with_reducible refine Kd.C_alloc ?_ _) | (with_reducible refine Kd.C_drewN ?_ _) | (with_reducible refine Kd.C_drew ?_))); (case side2 => exact (Kd.R_reads' HO266.out).2.1); rintro e w16 ⟨rfl, hb⟩; refine ⟨_, rfl, ?_⟩; have n0_ := Aside0.mk (Kd.R_below (by (with_reducible repeat (first | apply Kd.R_alloc | apply Kd.R_drewN | apply Kd.R_drew)); exact HO266.out) hb); have n1_ := Aside0.mk (below_step (by repeat (first | (with_reducible first | exact HB.out | apply below_alloc | apply pw_below_drewN | apply below_drew1) | exact HB.out)) hb); clear HO266; clear HB; have HO266 := n0_; have HB := n1_; clear n0_ n1_; (try clear hb); (try clear hb2); (try clear hk); (try clear hi)))
          (try simp only [Act.put, List.setIfInBounds_toArray, List.set_cons_zero, List.set_cons_succ])
          go_cut [42] (fun v42 wc => ∃ (kq : Nat) (x42_11 : Bool), v42 = .bool x42_11 ∧ Aside0 (laws_FnJoinedParts.j1 kq l0 l1 a2 x42_11 = some r) ∧ Aside0 (kq ≤ kj3) ∧ Aside0 (Below w.heap.size w wc))
          case first =>
            have H := HC12.out
            clear HC12
            replace H := Option.bind_eq_some_iff.mp H
            obtain ⟨t268, A170, H⟩ := H
            replace H : (if t268 = true then ((laws_slight.f kj3 l1 a2).bind fun t269 => (if t269 = true then (if (l0.length : Int) = 0 then (laws_FnJoinedParts.j1 kj3 l0 l1 a2 true) else (laws_FnJoinedParts.j1 kj3 l0 l1 a2 ((l1.length : Int) == 0))) else (laws_FnJoinedParts.j1 kj3 l0 l1 a2 true))) else (laws_FnJoinedParts.j1 kj3 l0 l1 a2 true)) = some r := H
            have A17 := Aside0.mk A170
            clear A170
            by_cases c18 : t268 = true
            · subst c18
              have H1 : ((laws_slight.f kj3 l1 a2).bind fun t269 => (if t269 = true then (if (l0.length : Int) = 0 then (laws_FnJoinedParts.j1 kj3 l0 l1 a2 true) else (laws_FnJoinedParts.j1 kj3 l0 l1 a2 ((l1.length : Int) == 0))) else (laws_FnJoinedParts.j1 kj3 l0 l1 a2 true))) = some r := by rw [if_pos rfl] at H; exact H
              clear H
              have H := H1
              clear H1
              replace H := Option.bind_eq_some_iff.mp H
              obtain ⟨t269, A190, H⟩ := H
              replace H : (if t269 = true then (if (l0.length : Int) = 0 then (laws_FnJoinedParts.j1 kj3 l0 l1 a2 true) else (laws_FnJoinedParts.j1 kj3 l0 l1 a2 ((l1.length : Int) == 0))) else (laws_FnJoinedParts.j1 kj3 l0 l1 a2 true)) = some r := H
              have A19 := Aside0.mk A190
              clear A190
              by_cases c20 : t269 = true
              · subst c20
                have H1 : (if (l0.length : Int) = 0 then (laws_FnJoinedParts.j1 kj3 l0 l1 a2 true) else (laws_FnJoinedParts.j1 kj3 l0 l1 a2 ((l1.length : Int) == 0))) = some r := by rw [if_pos rfl] at H; exact H
                clear H
                have H := H1
                clear H1
                by_cases c21 : (l0.length : Int) = 0
                · rw [if_pos c21] at H
                  have c21b0 : ((l0.length : Int) == 0) = true := beq_iff_eq.mpr c21
                  have c21b1 : ((l0.length : Int) != 0) = false := bne_eq_false_iff_eq.mpr c21
                  clear c21
                  (first | rw [c21b0] | (simp only [i64_w, i32_w]; rw [c21b0]) | skip)
                  have H' := Aside0.mk H
                  clear H
                  go_wp2_with (first | ((with_reducible refine gate_callee (f := 42) rfl ?_); refine goesL_ (some 25) rfl rfl Try.func42 (by kernel_rfl) rfl #[.slice A0 l0.length c0, .string a2] rfl (by (try simp only [List.map_toArray, List.map_cons, List.map_nil]); first | done | rfl | (simp only [List.length_drop, List.length_take]; rfl)) ?_; (with_reducible refine (laws_slight.calls kj3 _ _ l0 a2 true _ ?side1 ?side2 A17.out).mono ?_); (case side1 => repeat (first | exact (Kd.C_below HR0.out HB.out) | (with_reducible refine Kd.C_alloc ?_ _) | (with_reducible refine Kd.C_drewN ?_ _) | (with_reducible refine Kd.C_drew ?_))); (case side2 => exact HC0.out); rintro e w' ⟨rfl, ⟨nd, rfl⟩⟩; refine ⟨_, rfl, ?_⟩) | (go_at_call 42; (with_reducible refine (laws_slight.calls kj3 _ _ l1 a2 true _ ?side1 ?side2 A19.out).mono ?_); (case side1 => repeat (first | exact (Kd.C_below HR1.out (by repeat (first | (with_reducible first | exact HB.out | apply below_alloc | apply pw_below_drewN | apply below_drew1) | exact HB.out))) | (with_reducible refine Kd.C_alloc ?_ _) | (with_reducible refine Kd.C_drewN ?_ _) | (with_reducible refine Kd.C_drew ?_))); (case side2 => exact HC1.out); rintro e w' ⟨rfl, ⟨nd, rfl⟩⟩))
                  go_meet
                  case rel => exact ⟨_, (true), (by first | rfl | (simp; done) | (simp [*]; done) | (simp [*, q_isEmpty]; done)), H', ⟨by have := HJ3.out; first | omega | exact Nat.le_refl _⟩, ⟨by repeat (first | (with_reducible first | exact HB.out | apply below_alloc | apply pw_below_drewN | apply below_drew1) | exact HB.out)⟩⟩
                · rw [if_neg c21] at H
                  have c21b0 : ((l0.length : Int) == 0) = false := beq_eq_false_iff_ne.mpr c21
                  have c21b1 : ((l0.length : Int) != 0) = true := bne_iff_ne.mpr c21
                  have c21b2 : ¬ (l0 = []) := fun h_ => c21 (by rw [h_]; rfl)
                  (first | rw [c21b0] | (simp only [i64_w, i32_w]; rw [c21b0]) | skip)
                  have H' := Aside0.mk H
                  clear H
                  go_wp2_with (first | ((with_reducible refine gate_callee (f := 42) rfl ?_); refine goesL_ (some 25) rfl rfl Try.func42 (by kernel_rfl) rfl #[.slice A0 l0.length c0, .string a2] rfl (by (try simp only [List.map_toArray, List.map_cons, List.map_nil]); first | done | rfl | (simp only [List.length_drop, List.length_take]; rfl)) ?_; (with_reducible refine (laws_slight.calls kj3 _ _ l0 a2 true _ ?side1 ?side2 A17.out).mono ?_); (case side1 => repeat (first | exact (Kd.C_below HR0.out HB.out) | (with_reducible refine Kd.C_alloc ?_ _) | (with_reducible refine Kd.C_drewN ?_ _) | (with_reducible refine Kd.C_drew ?_))); (case side2 => exact HC0.out); rintro e w' ⟨rfl, ⟨nd, rfl⟩⟩; refine ⟨_, rfl, ?_⟩) | (go_at_call 42; (with_reducible refine (laws_slight.calls kj3 _ _ l1 a2 true _ ?side1 ?side2 A19.out).mono ?_); (case side1 => repeat (first | exact (Kd.C_below HR1.out (by repeat (first | (with_reducible first | exact HB.out | apply below_alloc | apply pw_below_drewN | apply below_drew1) | exact HB.out))) | (with_reducible refine Kd.C_alloc ?_ _) | (with_reducible refine Kd.C_drewN ?_ _) | (with_reducible refine Kd.C_drew ?_))); (case side2 => exact HC1.out); rintro e w' ⟨rfl, ⟨nd, rfl⟩⟩))
                  go_meet
                  case rel => exact ⟨_, (((l1.length : Int) == 0)), (by first | rfl | (simp; done) | (simp [*]; done) | (simp [*, q_isEmpty]; done)), H', ⟨by have := HJ3.out; first | omega | exact Nat.le_refl _⟩, ⟨by repeat (first | (with_reducible first | exact HB.out | apply below_alloc | apply pw_below_drewN | apply below_drew1) | exact HB.out)⟩⟩
              · replace c20 := Bool.eq_false_iff.mpr c20
                subst c20
                have H1 : (laws_FnJoinedParts.j1 kj3 l0 l1 a2 true) = some r := by rw [if_neg (show ¬ (false = true) by decide)] at H; exact H
                clear H
                have H := H1
                clear H1
                have H' := Aside0.mk H
                clear H
                go_wp2_with (first | ((with_reducible refine gate_callee (f := 42) rfl ?_); refine goesL_ (some 25) rfl rfl Try.func42 (by kernel_rfl) rfl #[.slice A0 l0.length c0, .string a2] rfl (by (try simp only [List.map_toArray, List.map_cons, List.map_nil]); first | done | rfl | (simp only [List.length_drop, List.length_take]; rfl)) ?_; (with_reducible refine (laws_slight.calls kj3 _ _ l0 a2 true _ ?side1 ?side2 A17.out).mono ?_); (case side1 => repeat (first | exact (Kd.C_below HR0.out HB.out) | (with_reducible refine Kd.C_alloc ?_ _) | (with_reducible refine Kd.C_drewN ?_ _) | (with_reducible refine Kd.C_drew ?_))); (case side2 => exact HC0.out); rintro e w' ⟨rfl, ⟨nd, rfl⟩⟩; refine ⟨_, rfl, ?_⟩) | (go_at_call 42; (with_reducible refine (laws_slight.calls kj3 _ _ l1 a2 false _ ?side1 ?side2 A19.out).mono ?_); (case side1 => repeat (first | exact (Kd.C_below HR1.out (by repeat (first | (with_reducible first | exact HB.out | apply below_alloc | apply pw_below_drewN | apply below_drew1) | exact HB.out))) | (with_reducible refine Kd.C_alloc ?_ _) | (with_reducible refine Kd.C_drewN ?_ _) | (with_reducible refine Kd.C_drew ?_))); (case side2 => exact HC1.out); rintro e w' ⟨rfl, ⟨nd, rfl⟩⟩))
                go_meet
                case rel => exact ⟨_, (true), (by first | rfl | (simp; done) | (simp [*]; done) | (simp [*, q_isEmpty]; done)), H', ⟨by have := HJ3.out; first | omega | exact Nat.le_refl _⟩, ⟨by repeat (first | (with_reducible first | exact HB.out | apply below_alloc | apply pw_below_drewN | apply below_drew1) | exact HB.out)⟩⟩
            · replace c18 := Bool.eq_false_iff.mpr c18
              subst c18
              have H1 : (laws_FnJoinedParts.j1 kj3 l0 l1 a2 true) = some r := by rw [if_neg (show ¬ (false = true) by decide)] at H; exact H
              clear H
              have H := H1
              clear H1
              have H' := Aside0.mk H
              clear H
              go_wp2_with (first | ((with_reducible refine gate_callee (f := 42) rfl ?_); refine goesL_ (some 25) rfl rfl Try.func42 (by kernel_rfl) rfl #[.slice A0 l0.length c0, .string a2] rfl (by (try simp only [List.map_toArray, List.map_cons, List.map_nil]); first | done | rfl | (simp only [List.length_drop, List.length_take]; rfl)) ?_; (with_reducible refine (laws_slight.calls kj3 _ _ l0 a2 false _ ?side1 ?side2 A17.out).mono ?_); (case side1 => repeat (first | exact (Kd.C_below HR0.out HB.out) | (with_reducible refine Kd.C_alloc ?_ _) | (with_reducible refine Kd.C_drewN ?_ _) | (with_reducible refine Kd.C_drew ?_))); (case side2 => exact HC0.out); rintro e w' ⟨rfl, ⟨nd, rfl⟩⟩; refine ⟨_, rfl, ?_⟩))
              go_meet
              case rel => exact ⟨_, (true), (by first | rfl | (simp; done) | (simp [*]; done) | (simp [*, q_isEmpty]; done)), H', ⟨by have := HJ3.out; first | omega | exact Nat.le_refl _⟩, ⟨by repeat (first | (with_reducible first | exact HB.out | apply below_alloc | apply pw_below_drewN | apply below_drew1) | exact HB.out)⟩⟩
          case rest =>
            clear HC12
            try clear c1
            try clear c2
            try clear p2
            try clear c4
            try clear c6
            try clear c8
            try clear c9
            try clear c11
            try clear c11b0
            try clear c11b1
            try clear c12
            try clear c18
            try clear c20
            try clear c21
            try clear c21b0
            try clear c21b1
            try clear c21b2
            try clear p2
            obtain ⟨kq, x42_11, rfl, HA, HJ11, HB⟩ := hcut
            cases kq with
            | zero => exact absurd HA.out (by simp [laws_FnJoinedParts.j1])
            | succ kj11 =>
              have H := HA.out
              clear HA
              simp only [laws_FnJoinedParts.j1] at H
              by_cases c22 : x42_11 = true
              · subst c22
                have H1 : (some true) = some r := by rw [if_pos rfl] at H; exact H
                clear H
                have H := H1
                clear H1
                obtain rfl := Option.some.inj H
                go_wp2
                go_ret
                exact ⟨by first | rfl | (simp [errW_none, errW_some] <;> rfl) | (simp [*, errW_none, errW_some] <;> rfl) | (simp [*, q_isEmpty]; done), by repeat (first | (with_reducible first | exact HB.out | apply below_alloc | apply pw_below_drewN | apply below_drew1) | exact HB.out)⟩
              · replace c22 := Bool.eq_false_iff.mpr c22
                subst c22
                have H1 : ((some (([] : List ByteArray) : List ByteArray)).bind fun y270 => (if y270.length + l0.length < 8796093022208 then ((some (y270 ++ l0 : List ByteArray)).bind fun y273 => (if y273.length + l1.length < 8796093022208 then ((impl_Joined.f (y273 ++ l1) a2).bind fun t279 => ((impl_Joined.f l0 a2).bind fun t280 => ((impl_Joined.f l1 a2).bind fun t281 => ((impl_Joined.f (([t280, t281] : List ByteArray)) a2).bind fun t285 => (some (t279.toList == t285.toList)))))) else (none))) else (none))) = some r := by rw [if_neg (show ¬ (false = true) by decide)] at H; exact H
                clear H
                have H := H1
                clear H1
                obtain ⟨y270, hy270⟩ : ∃ y_ : List ByteArray, y_ = (([] : List ByteArray)) := ⟨_, rfl⟩
                replace H : (if y270.length + l0.length < 8796093022208 then ((some (y270 ++ l0 : List ByteArray)).bind fun y273 => (if y273.length + l1.length < 8796093022208 then ((impl_Joined.f (y273 ++ l1) a2).bind fun t279 => ((impl_Joined.f l0 a2).bind fun t280 => ((impl_Joined.f l1 a2).bind fun t281 => ((impl_Joined.f (([t280, t281] : List ByteArray)) a2).bind fun t285 => (some (t279.toList == t285.toList)))))) else (none))) else (none)) = some r := by first | (rw [hy270]; with_reducible exact H) | (have H2_ := (Option.bind_some _ _).symm.trans H; rw [hy270]; with_reducible exact H2_) | (have H2_ := (Option.bind_some _ _).symm.trans H; with_reducible exact H2_) | with_reducible exact H | (rw [hy270]; exact H) | exact H
                have Ny270 := Aside0.mk hy270
                clear hy270
                by_cases c23 : y270.length + l0.length < 8796093022208
                · rw [if_pos c23] at H
                  have LMc23 := Aside0.mk c23
                  clear c23
                  obtain ⟨y273, hy273⟩ : ∃ y_ : List ByteArray, y_ = (y270 ++ l0) := ⟨_, rfl⟩
                  replace H : (if y273.length + l1.length < 8796093022208 then ((impl_Joined.f (y273 ++ l1) a2).bind fun t279 => ((impl_Joined.f l0 a2).bind fun t280 => ((impl_Joined.f l1 a2).bind fun t281 => ((impl_Joined.f (([t280, t281] : List ByteArray)) a2).bind fun t285 => (some (t279.toList == t285.toList)))))) else (none)) = some r := by first | (rw [hy273]; with_reducible exact H) | (have H2_ := (Option.bind_some _ _).symm.trans H; rw [hy273]; with_reducible exact H2_) | (have H2_ := (Option.bind_some _ _).symm.trans H; with_reducible exact H2_) | with_reducible exact H | (rw [hy273]; exact H) | exact H
                  have Ny273 := Aside0.mk hy273
                  clear hy273
                  by_cases c24 : y273.length + l1.length < 8796093022208
                  · rw [if_pos c24] at H
                    have LMc24 := Aside0.mk c24
                    clear c24
                    obtain ⟨y276, hy276⟩ : ∃ y_ : List ByteArray, y_ = (y273 ++ l1) := ⟨_, rfl⟩
                    replace H : ((impl_Joined.f y276 a2).bind fun t279 => ((impl_Joined.f l0 a2).bind fun t280 => ((impl_Joined.f l1 a2).bind fun t281 => ((impl_Joined.f (([t280, t281] : List ByteArray)) a2).bind fun t285 => (some (t279.toList == t285.toList)))))) = some r := by first | (rw [hy276]; with_reducible exact H) | (have H2_ := (Option.bind_some _ _).symm.trans H; rw [hy276]; with_reducible exact H2_) | (have H2_ := (Option.bind_some _ _).symm.trans H; with_reducible exact H2_) | with_reducible exact H | (rw [hy276]; exact H) | exact H
                    have Ny276 := Aside0.mk hy276
                    clear hy276
                    replace H := Option.bind_eq_some_iff.mp H
                    obtain ⟨t279, A250, H⟩ := H
                    replace H : ((impl_Joined.f l0 a2).bind fun t280 => ((impl_Joined.f l1 a2).bind fun t281 => ((impl_Joined.f (([t280, t281] : List ByteArray)) a2).bind fun t285 => (some (t279.toList == t285.toList))))) = some r := H
                    have A25 := Aside0.mk A250
                    clear A250
                    replace H := Option.bind_eq_some_iff.mp H
                    obtain ⟨t280, A260, H⟩ := H
                    replace H : ((impl_Joined.f l1 a2).bind fun t281 => ((impl_Joined.f (([t280, t281] : List ByteArray)) a2).bind fun t285 => (some (t279.toList == t285.toList)))) = some r := H
                    have A26 := Aside0.mk A260
                    clear A260
                    replace H := Option.bind_eq_some_iff.mp H
                    obtain ⟨t281, A270, H⟩ := H
                    replace H : ((impl_Joined.f (([t280, t281] : List ByteArray)) a2).bind fun t285 => (some (t279.toList == t285.toList))) = some r := H
                    have A27 := Aside0.mk A270
                    clear A270
                    obtain ⟨y282, hy282⟩ : ∃ y_ : List ByteArray, y_ = (([t280, t281] : List ByteArray)) := ⟨_, rfl⟩
                    replace H : ((impl_Joined.f y282 a2).bind fun t285 => (some (t279.toList == t285.toList))) = some r := by first | (rw [hy282]; with_reducible exact H) | (have H2_ := (Option.bind_some _ _).symm.trans H; rw [hy282]; with_reducible exact H2_) | (have H2_ := (Option.bind_some _ _).symm.trans H; with_reducible exact H2_) | with_reducible exact H | (rw [hy282]; exact H) | exact H
                    have Ny282 := Aside0.mk hy282
                    clear hy282
                    replace H := Option.bind_eq_some_iff.mp H
                    obtain ⟨t285, A280, H⟩ := H
                    replace H : (some (t279.toList == t285.toList)) = some r := H
                    have A28 := Aside0.mk A280
                    clear A280
                    obtain rfl := Option.some.inj H
                    go_wp2_with (first | ((with_reducible refine gate_dst (N := 43) rfl ?_); (try (refine gate_guard (by rfl) ?_; dsimp only)); refine Kd.R_lit Kd.string _ 9 ?hg (N := 43) ?hd (xs := ([] : List ByteArray)) (inner := []) (ok := fun _ => True) (okp := fun _ => True) ?hr ?hp (fun _ hk => hk) trivial (Below.refl _ _) (Nat.le_refl _) (by simp) ?_; (case hd => rfl); (case hg => rfl); (case hr => first | (go_simp; done) | (go_simp; rfl)); (case hp => exact (Reps.none _ _)); intro v271 w29 ho30 hb hg_ hnew_; clear hg_ hnew_; (first | rw [← Ny270.out] at ho30 | (simp only [Int.reduceToNat] at ho30; rw [← Ny270.out] at ho30)); have n0_ := Aside0.mk (Kd.R_lower ho30 (below_size (by repeat (first | (with_reducible first | exact HB.out | apply below_alloc | apply pw_below_drewN | apply below_drew1) | exact HB.out)))); have n1_ := Aside0.mk (below_step (by repeat (first | (with_reducible first | exact HB.out | apply below_alloc | apply pw_below_drewN | apply below_drew1) | exact HB.out)) hb); clear HB; have HO272 := n0_; have HB := n1_; clear n0_ n1_; clear hb ho30) | ((with_reducible refine gate_builtin (b := .append) (xs := #[.tmp 43, .tmp 44]) rfl ?_); (try (refine gate_guard (by rfl) ?_; dsimp only)); at_builtin; refine Kd.R_append_rows Kd.string (w0 := w) w.heap.size rfl (.tmp 43) (.tmp 44) 44 9 (.string ⟨#[]⟩) 16 rfl Try.underlying44 info9 rfl (by decide) (by omega) v271 y270 l0 _ _ _ (fun _ => True) (fun _ => False) rfl rfl ?aO ?aR (fun _ _ h => h) (fun _ h => h.elim) ?aF ?aB ?aS ?aL ?_; (case aR => repeat (first | exact (Kd.C_below HR0.out HB.out) | (with_reducible refine Kd.C_alloc ?_ _) | (with_reducible refine Kd.C_drewN ?_ _) | (with_reducible refine Kd.C_drew ?_))); (case aB => exact (by repeat (first | (with_reducible first | exact HB.out | apply below_alloc | apply pw_below_drewN | apply below_drew1) | exact HB.out))); (case aF => exact (fun _ _ => trivial)); (case aO => exact (by (with_reducible repeat (first | apply Kd.R_alloc | apply Kd.R_drewN | apply Kd.R_drew)); exact HO272.out)); (case aS => exact (below_size (by repeat (first | (with_reducible first | exact HB.out | apply below_alloc | apply pw_below_drewN | apply below_drew1) | exact HB.out)))); (case aL => have := LMc23.out; omega); intro v274 w31 ho hb hg hat; rw [← Ny273.out] at ho; have n0_ := Aside0.mk (hb); have n1_ := Aside0.mk (ho); clear HB; clear HO272; have HB := n0_; have HO275 := n1_; clear n0_ n1_; clear ho hb hg hat) | ((with_reducible refine gate_builtin (b := .append) (xs := #[.tmp 45, .tmp 46]) rfl ?_); (try (refine gate_guard (by rfl) ?_; dsimp only)); at_builtin; refine Kd.R_append_rows Kd.string (w0 := w) w.heap.size rfl (.tmp 45) (.tmp 46) 44 9 (.string ⟨#[]⟩) 16 rfl Try.underlying44 info9 rfl (by decide) (by omega) v274 y273 l1 _ _ _ (fun _ => True) (fun _ => False) rfl rfl ?aO ?aR (fun _ _ h => h) (fun _ h => h.elim) ?aF ?aB ?aS ?aL ?_; (case aR => repeat (first | exact (Kd.C_below HR1.out HB.out) | (with_reducible refine Kd.C_alloc ?_ _) | (with_reducible refine Kd.C_drewN ?_ _) | (with_reducible refine Kd.C_drew ?_))); (case aB => exact (by repeat (first | (with_reducible first | exact HB.out | apply below_alloc | apply pw_below_drewN | apply below_drew1) | exact HB.out))); (case aF => exact (fun _ _ => trivial)); (case aO => exact (by (with_reducible repeat (first | apply Kd.R_alloc | apply Kd.R_drewN | apply Kd.R_drew)); exact HO275.out)); (case aS => exact (below_size (by repeat (first | (with_reducible first | exact HB.out | apply below_alloc | apply pw_below_drewN | apply below_drew1) | exact HB.out)))); (case aL => have := LMc24.out; omega); intro v277 w32 ho hb hg hat; rw [← Ny276.out] at ho; have n0_ := Aside0.mk (hb); have n1_ := Aside0.mk (ho); clear HB; clear HO275; have HB := n0_; have HO278 := n1_; clear n0_ n1_; clear ho hb hg hat; obtain ⟨Ao33, co33, eo33⟩ := Kd.R_slice HO278.out; subst eo33) | ((with_reducible refine gate_callee (f := 41) rfl ?_); refine goesL_ (some 49) rfl rfl Try.func41 (by kernel_rfl) rfl #[.slice Ao33 y276.length co33, .string a2] rfl (by (try simp only [List.map_toArray, List.map_cons, List.map_nil]); first | done | rfl | (simp only [List.length_drop, List.length_take]; rfl)) ?_; (with_reducible refine (impl_Joined.calls _ _ y276 a2 t279 _ ?side1 ?side2 A25.out).mono ?_); (case side1 => repeat (first | exact (Kd.R_reads' HO278.out).2.2 | (with_reducible refine Kd.C_alloc ?_ _) | (with_reducible refine Kd.C_drewN ?_ _) | (with_reducible refine Kd.C_drew ?_))); (case side2 => exact (Kd.R_reads' HO278.out).2.1); rintro e w34 ⟨rfl, hb⟩; refine ⟨_, rfl, ?_⟩; have n0_ := Aside0.mk (Kd.R_below (by (with_reducible repeat (first | apply Kd.R_alloc | apply Kd.R_drewN | apply Kd.R_drew)); exact HO278.out) hb); have n1_ := Aside0.mk (below_step (by repeat (first | (with_reducible first | exact HB.out | apply below_alloc | apply pw_below_drewN | apply below_drew1) | exact HB.out)) hb); clear HO278; clear HB; have HO278 := n0_; have HB := n1_; clear n0_ n1_; (try clear hb); (try clear hb2); (try clear hk); (try clear hi)) | ((with_reducible refine gate_callee (f := 41) rfl ?_); refine goesL_ (some 52) rfl rfl Try.func41 (by kernel_rfl) rfl #[.slice A0 l0.length c0, .string a2] rfl (by (try simp only [List.map_toArray, List.map_cons, List.map_nil]); first | done | rfl | (simp only [List.length_drop, List.length_take]; rfl)) ?_; (with_reducible refine (impl_Joined.calls _ _ l0 a2 t280 _ ?side1 ?side2 A26.out).mono ?_); (case side1 => repeat (first | exact (Kd.C_below HR0.out HB.out) | (with_reducible refine Kd.C_alloc ?_ _) | (with_reducible refine Kd.C_drewN ?_ _) | (with_reducible refine Kd.C_drew ?_))); (case side2 => exact HC0.out); rintro e w35 ⟨rfl, hb⟩; refine ⟨_, rfl, ?_⟩; have n0_ := Aside0.mk (Kd.R_below (by (with_reducible repeat (first | apply Kd.R_alloc | apply Kd.R_drewN | apply Kd.R_drew)); exact HO278.out) hb); have n1_ := Aside0.mk (below_step (by repeat (first | (with_reducible first | exact HB.out | apply below_alloc | apply pw_below_drewN | apply below_drew1) | exact HB.out)) hb); clear HO278; clear HB; have HO278 := n0_; have HB := n1_; clear n0_ n1_; (try clear hb); (try clear hb2); (try clear hk); (try clear hi)) | ((with_reducible refine gate_callee (f := 41) rfl ?_); refine goesL_ (some 55) rfl rfl Try.func41 (by kernel_rfl) rfl #[.slice A1 l1.length c1, .string a2] rfl (by (try simp only [List.map_toArray, List.map_cons, List.map_nil]); first | done | rfl | (simp only [List.length_drop, List.length_take]; rfl)) ?_; (with_reducible refine (impl_Joined.calls _ _ l1 a2 t281 _ ?side1 ?side2 A27.out).mono ?_); (case side1 => repeat (first | exact (Kd.C_below HR1.out HB.out) | (with_reducible refine Kd.C_alloc ?_ _) | (with_reducible refine Kd.C_drewN ?_ _) | (with_reducible refine Kd.C_drew ?_))); (case side2 => exact HC1.out); rintro e w36 ⟨rfl, hb⟩; refine ⟨_, rfl, ?_⟩; have n0_ := Aside0.mk (Kd.R_below (by (with_reducible repeat (first | apply Kd.R_alloc | apply Kd.R_drewN | apply Kd.R_drew)); exact HO278.out) hb); have n1_ := Aside0.mk (below_step (by repeat (first | (with_reducible first | exact HB.out | apply below_alloc | apply pw_below_drewN | apply below_drew1) | exact HB.out)) hb); clear HO278; clear HB; have HO278 := n0_; have HB := n1_; clear n0_ n1_; (try clear hb); (try clear hb2); (try clear hk); (try clear hi)) | ((with_reducible refine gate_dst (N := 56) rfl ?_); (try (refine gate_guard (by rfl) ?_; dsimp only)); refine Kd.R_lit Kd.string _ 9 ?hg (N := 56) ?hd (xs := ([t280, t281] : List ByteArray)) (inner := [.string t280, .string t281]) (ok := fun _ => True) (okp := fun _ => True) ?hr ?hp (fun _ hk => hk) trivial (Below.refl _ _) (Nat.le_refl _) (by simp) ?_; (case hd => rfl); (case hg => rfl); (case hr => first | (go_simp; done) | (go_simp; rfl)); (case hp => exact (Reps.one (show Kd.M Kd.string _ _ _ t280 [.string t280] from rfl) (Reps.one (show Kd.M Kd.string _ _ _ t281 [.string t281] from rfl) (Reps.none _ _)))); intro v283 w37 ho38 hb hg_ hnew_; clear hg_ hnew_; (first | rw [← Ny282.out] at ho38 | (simp only [Int.reduceToNat] at ho38; rw [← Ny282.out] at ho38)); have n0_ := Aside0.mk (Kd.R_elder' (by (with_reducible repeat (first | apply Kd.R_alloc | apply Kd.R_drewN | apply Kd.R_drew)); exact HO278.out) (Kd.R_base ho38) hb); have n1_ := Aside0.mk (Kd.R_lower (Kd.R_new' ho38 (Kd.R_lt (by (with_reducible repeat (first | apply Kd.R_alloc | apply Kd.R_drewN | apply Kd.R_drew)); exact HO278.out))) (below_size (by repeat (first | (with_reducible first | exact HB.out | apply below_alloc | apply pw_below_drewN | apply below_drew1) | exact HB.out)))); have n2_ := Aside0.mk (below_step (by repeat (first | (with_reducible first | exact HB.out | apply below_alloc | apply pw_below_drewN | apply below_drew1) | exact HB.out)) hb); clear HO278; clear HB; have HO278 := n0_; have HO284 := n1_; have HB := n2_; clear n0_ n1_ n2_; clear hb ho38; obtain ⟨Ao39, co39, eo39⟩ := Kd.R_slice HO284.out; subst eo39) | ((with_reducible refine gate_callee (f := 41) rfl ?_); refine goesL_ (some 58) rfl rfl Try.func41 (by kernel_rfl) rfl #[.slice Ao39 y282.length co39, .string a2] rfl (by (try simp only [List.map_toArray, List.map_cons, List.map_nil]); first | done | rfl | (simp only [List.length_drop, List.length_take]; rfl)) ?_; (with_reducible refine (impl_Joined.calls _ _ y282 a2 t285 _ ?side1 ?side2 A28.out).mono ?_); (case side1 => repeat (first | exact (Kd.R_reads' HO284.out).2.2 | (with_reducible refine Kd.C_alloc ?_ _) | (with_reducible refine Kd.C_drewN ?_ _) | (with_reducible refine Kd.C_drew ?_))); (case side2 => exact (Kd.R_reads' HO284.out).2.1); rintro e w40 ⟨rfl, hb⟩; refine ⟨_, rfl, ?_⟩; have n0_ := Aside0.mk (Kd.R_below (by (with_reducible repeat (first | apply Kd.R_alloc | apply Kd.R_drewN | apply Kd.R_drew)); exact HO278.out) hb); have n1_ := Aside0.mk (Kd.R_below (by (with_reducible repeat (first | apply Kd.R_alloc | apply Kd.R_drewN | apply Kd.R_drew)); exact HO284.out) hb); have n2_ := Aside0.mk (below_step (by repeat (first | (with_reducible first | exact HB.out | apply below_alloc | apply pw_below_drewN | apply below_drew1) | exact HB.out)) hb); clear HO278; clear HO284; clear HB; have HO278 := n0_; have HO284 := n1_; have HB := n2_; clear n0_ n1_ n2_; (try clear hb); (try clear hb2); (try clear hk); (try clear hi)))
                    go_ret
                    exact ⟨by first | rfl | (simp [errW_none, errW_some] <;> rfl) | (simp [*, errW_none, errW_some] <;> rfl) | (simp [*, q_isEmpty]; done), by repeat (first | (with_reducible first | exact HB.out | apply below_alloc | apply pw_below_drewN | apply below_drew1) | exact HB.out)⟩
                  · rw [if_neg c24] at H
                    exact absurd H (by simp)
                · rw [if_neg c23] at H
                  exact absurd H (by simp)
        · rw [if_neg c11] at H
          have c11b0 : (t267.toList == ([97, 45, 98] : List UInt8)) = false := beq_eq_false_iff_ne.mpr c11
          have c11b1 : (t267.toList != ([97, 45, 98] : List UInt8)) = true := bne_iff_ne.mpr c11
          obtain rfl := Option.some.inj H
          go_wp2_with (first | ((with_reducible refine gate_dst (N := 20) rfl ?_); (try (refine gate_guard (by rfl) ?_; dsimp only)); refine Kd.R_lit Kd.string _ 9 ?hg (N := 20) ?hd (xs := ([(⟨#[97]⟩ : ByteArray), (⟨#[98]⟩ : ByteArray)] : List ByteArray)) (inner := [.string (⟨#[97]⟩ : ByteArray), .string (⟨#[98]⟩ : ByteArray)]) (ok := fun _ => True) (okp := fun _ => True) ?hr ?hp (fun _ hk => hk) trivial (Below.refl _ _) (Nat.le_refl _) (by simp) ?_; (case hd => rfl); (case hg => rfl); (case hr => first | (go_simp; done) | (go_simp; rfl)); (case hp => exact (Reps.one (show Kd.M Kd.string _ _ _ (⟨#[97]⟩ : ByteArray) [.string (⟨#[97]⟩ : ByteArray)] from rfl) (Reps.one (show Kd.M Kd.string _ _ _ (⟨#[98]⟩ : ByteArray) [.string (⟨#[98]⟩ : ByteArray)] from rfl) (Reps.none _ _)))); intro v265 w41 ho42 hb hg_ hnew_; clear hg_ hnew_; (first | rw [← Ny264.out] at ho42 | (simp only [Int.reduceToNat] at ho42; rw [← Ny264.out] at ho42)); have n0_ := Aside0.mk (Kd.R_lower ho42 (below_size (by repeat (first | (with_reducible first | exact HB.out | apply below_alloc | apply pw_below_drewN | apply below_drew1) | exact HB.out)))); have n1_ := Aside0.mk (below_step (by repeat (first | (with_reducible first | exact HB.out | apply below_alloc | apply pw_below_drewN | apply below_drew1) | exact HB.out)) hb); clear HB; have HO266 := n0_; have HB := n1_; clear n0_ n1_; clear hb ho42; obtain ⟨Ao43, co43, eo43⟩ := Kd.R_slice HO266.out; subst eo43) | ((with_reducible refine gate_callee (f := 41) rfl ?_); refine goesL_ (some 21) rfl rfl Try.func41 (by kernel_rfl) rfl #[.slice Ao43 y264.length co43, .string (⟨#[45]⟩ : ByteArray)] rfl (by (try simp only [List.map_toArray, List.map_cons, List.map_nil]); first | done | rfl | (simp only [List.length_drop, List.length_take]; rfl)) ?_; (with_reducible refine (impl_Joined.calls _ _ y264 (⟨#[45]⟩ : ByteArray) t267 _ ?side1 ?side2 A10.out).mono ?_); (case side1 => repeat (first | exact (Kd.R_reads' HO266.out).2.2 | (with_reducible refine Kd.C_alloc ?_ _) | (with_reducible refine Kd.C_drewN ?_ _) | (with_reducible refine Kd.C_drew ?_))); (case side2 => exact (Kd.R_reads' HO266.out).2.1); rintro e w44 ⟨rfl, hb⟩; refine ⟨_, rfl, ?_⟩; have n0_ := Aside0.mk (Kd.R_below (by (with_reducible repeat (first | apply Kd.R_alloc | apply Kd.R_drewN | apply Kd.R_drew)); exact HO266.out) hb); have n1_ := Aside0.mk (below_step (by repeat (first | (with_reducible first | exact HB.out | apply below_alloc | apply pw_below_drewN | apply below_drew1) | exact HB.out)) hb); clear HO266; clear HB; have HO266 := n0_; have HB := n1_; clear n0_ n1_; (try clear hb); (try clear hb2); (try clear hk); (try clear hi)))
          go_ret
          exact ⟨by first | rfl | (simp [errW_none, errW_some] <;> rfl) | (simp [*, errW_none, errW_some] <;> rfl) | (simp [*, q_isEmpty]; done), by repeat (first | (with_reducible first | exact HB.out | apply below_alloc | apply pw_below_drewN | apply below_drew1) | exact HB.out)⟩

end Go.Proofs.Ytbcijcmmpbkkbaa.Q
