-- Printed for this seat by wip/pp.py of this repo; nothing here is trusted: Lean checks it.
import Derived.Test.YtbcijcmmpbkkbaaQ0
import Derived.Test.YtbcijcmmpbkkbaaHMatchAll
import Derived.Test.YtbcijcmmpbkkbaaQlawsvalues
import Derived.Test.YtbcijcmmpbkkbaaQlawszzFits1
import Derived.Test.YtbcijcmmpbkkbaaQlawszzFits3
namespace Go.Proofs.Ytbcijcmmpbkkbaa.Q
open Go.RowKit Go.Proofs.YtbcijcmmpbkkbaaW.PrintWords Go.Proofs.YtbcijcmmpbkkbaaW.PrintLast Go.Proofs.YtbcijcmmpbkkbaaW.PrintMore
attribute [local go_sem] max2_int min2_int max_two min_two max_three min_three max_four min_four   -- for this text's walks alone
set_option linter.unusedVariables false
set_option linter.unusedSimpArgs false

/-! ### laws_FnMatchEach: function 10 -/
mutual
def laws_FnMatchEach.j0 : Nat → List (S30) → List (S26) → Bool → Option (Bool)
  | 0, _, _, _ => none
  | k + 1, x0, x1, x14 => if x14 = true then (some true) else ((laws_values.f k x0).bind fun t225 => (if t225 = true then (laws_FnMatchEach.j1 k x0 x1 (decide ((x1.length : Int) > 10000))) else (laws_FnMatchEach.j1 k x0 x1 true)))
def laws_FnMatchEach.j1 : Nat → List (S30) → List (S26) → Bool → Option (Bool)
  | 0, _, _, _ => none
  | k + 1, x0, x1, x22 => if x22 = true then ((impl_MatchAll.f ([] : List (S30)) ([] : List (S26))).bind fun t226 => (some t226)) else (laws_FnMatchEach.l0 k x0 x1 true (x0.length : Int) 0)
def laws_FnMatchEach.l0 : Nat → List (S30) → List (S26) → Bool → Int → Int → Option (Bool)
  | 0, _, _, _, _, _ => none
  | k + 1, x0, x1, x5, x25, x26 => if x26 < x25 then (if x5 = true then (if 0 ≤ x26 then (if x26 ≤ (wrap64 (x26 + 1)) then (if (wrap64 (x26 + 1)) ≤ (x0.length : Int) then ((impl_MatchAll.f ((x0.take ((wrap64 (x26 + 1)) : Int).toNat).drop (x26 : Int).toNat) x1).bind fun t231 => (laws_FnMatchEach.l0 k x0 x1 t231 x25 (wrap64 (x26 + 1)))) else (none)) else (none)) else (none)) else (laws_FnMatchEach.l0 k x0 x1 false x25 (wrap64 (x26 + 1)))) else ((impl_MatchAll.f x0 x1).bind fun t232 => (if (t232 == x5) = true then ((impl_MatchAll.f ([] : List (S30)) ([] : List (S26))).bind fun t233 => (some t233)) else (some false)))
end
def laws_FnMatchEach.f (k : Nat) (l0 : List (S30)) (l1 : List (S26)) : Option (Bool) := (laws_zzFits3.f k l0).bind fun t223 => (if t223 = true then ((laws_zzFits1.f k l1).bind fun t224 => (laws_FnMatchEach.j0 k l0 l1 (!t224))) else (laws_FnMatchEach.j0 k l0 l1 true))
theorem laws_FnMatchEach.mono_l : ∀ k, (∀ y0 y1 y2, LeO (laws_FnMatchEach.j0 k y0 y1 y2) (laws_FnMatchEach.j0 (k + 1) y0 y1 y2)) ∧ (∀ y0 y1 y2, LeO (laws_FnMatchEach.j1 k y0 y1 y2) (laws_FnMatchEach.j1 (k + 1) y0 y1 y2)) ∧ (∀ y0 y1 y2 y3 y4, LeO (laws_FnMatchEach.l0 k y0 y1 y2 y3 y4) (laws_FnMatchEach.l0 (k + 1) y0 y1 y2 y3 y4))
  | 0 => ⟨fun _ _ _ r h => by simp [laws_FnMatchEach.j0] at h, fun _ _ _ r h => by simp [laws_FnMatchEach.j1] at h, fun _ _ _ _ _ r h => by simp [laws_FnMatchEach.l0] at h⟩
  | k + 1 => by
    obtain ⟨ih0, ih1, ih2⟩ := laws_FnMatchEach.mono_l k
    refine ⟨?_, ?_, ?_⟩
    · intro y0 y1 y2
      unfold laws_FnMatchEach.j0
      repeat' first
      | (with_reducible exact ih0 _ _ _)
      | (with_reducible exact ih1 _ _ _)
      | (with_reducible exact ih2 _ _ _ _ _)
      | (with_reducible exact laws_values.mono _ _)
      | (with_reducible exact laws_zzFits1.mono _ _)
      | (with_reducible exact laws_zzFits3.mono _ _)
      | (with_reducible exact LeO.refl _)
      | (with_reducible exact LeO.none _)
      | (with_reducible refine LeO.ite ?_ ?_)
      | (with_reducible refine LeO.bind ?_ (fun _ => ?_))
      | exact ih0 _ _ _
      | exact ih1 _ _ _
      | exact ih2 _ _ _ _ _
      | exact laws_values.mono _ _
      | exact laws_zzFits1.mono _ _
      | exact laws_zzFits3.mono _ _
      | exact LeO.none _
      | refine LeO.ite ?_ ?_
      | refine LeO.bind ?_ (fun _ => ?_)
    · intro y0 y1 y2
      unfold laws_FnMatchEach.j1
      repeat' first
      | (with_reducible exact ih0 _ _ _)
      | (with_reducible exact ih1 _ _ _)
      | (with_reducible exact ih2 _ _ _ _ _)
      | (with_reducible exact laws_values.mono _ _)
      | (with_reducible exact laws_zzFits1.mono _ _)
      | (with_reducible exact laws_zzFits3.mono _ _)
      | (with_reducible exact LeO.refl _)
      | (with_reducible exact LeO.none _)
      | (with_reducible refine LeO.ite ?_ ?_)
      | (with_reducible refine LeO.bind ?_ (fun _ => ?_))
      | exact ih0 _ _ _
      | exact ih1 _ _ _
      | exact ih2 _ _ _ _ _
      | exact laws_values.mono _ _
      | exact laws_zzFits1.mono _ _
      | exact laws_zzFits3.mono _ _
      | exact LeO.none _
      | refine LeO.ite ?_ ?_
      | refine LeO.bind ?_ (fun _ => ?_)
    · intro y0 y1 y2 y3 y4
      unfold laws_FnMatchEach.l0
      repeat' first
      | (with_reducible exact ih0 _ _ _)
      | (with_reducible exact ih1 _ _ _)
      | (with_reducible exact ih2 _ _ _ _ _)
      | (with_reducible exact laws_values.mono _ _)
      | (with_reducible exact laws_zzFits1.mono _ _)
      | (with_reducible exact laws_zzFits3.mono _ _)
      | (with_reducible exact LeO.refl _)
      | (with_reducible exact LeO.none _)
      | (with_reducible refine LeO.ite ?_ ?_)
      | (with_reducible refine LeO.bind ?_ (fun _ => ?_))
      | exact ih0 _ _ _
      | exact ih1 _ _ _
      | exact ih2 _ _ _ _ _
      | exact laws_values.mono _ _
      | exact laws_zzFits1.mono _ _
      | exact laws_zzFits3.mono _ _
      | exact LeO.none _
      | refine LeO.ite ?_ ?_
      | refine LeO.bind ?_ (fun _ => ?_)
theorem laws_FnMatchEach.mono : ∀ a0 a1 k, LeO (laws_FnMatchEach.f k a0 a1) (laws_FnMatchEach.f (k + 1) a0 a1) := by
  intro a0 a1 k
  obtain ⟨ih0, ih1, ih2⟩ := laws_FnMatchEach.mono_l k
  unfold laws_FnMatchEach.f
  repeat' first
      | (with_reducible exact ih0 _ _ _)
      | (with_reducible exact ih1 _ _ _)
      | (with_reducible exact ih2 _ _ _ _ _)
      | (with_reducible exact laws_values.mono _ _)
      | (with_reducible exact laws_zzFits1.mono _ _)
      | (with_reducible exact laws_zzFits3.mono _ _)
      | (with_reducible exact LeO.refl _)
      | (with_reducible exact LeO.none _)
      | (with_reducible refine LeO.ite ?_ ?_)
      | (with_reducible refine LeO.bind ?_ (fun _ => ?_))
      | exact ih0 _ _ _
      | exact ih1 _ _ _
      | exact ih2 _ _ _ _ _
      | exact laws_values.mono _ _
      | exact laws_zzFits1.mono _ _
      | exact laws_zzFits3.mono _ _
      | exact LeO.none _
      | refine LeO.ite ?_ ?_
      | refine LeO.bind ?_ (fun _ => ?_)
set_option maxHeartbeats 8000000 in
set_option maxRecDepth 100000 in
theorem laws_FnMatchEach.calls (k : Nat) (A0 : Option Addr) (c0 : Nat) (l0 : List (S30)) (A1 : Option Addr) (c1 : Nat) (l1 : List (S26)) (r : Bool) (w : World) (hr0 : Kd.C k30 w A0 l0.length l0) (hc0 : l0.length ≤ c0) (hr1 : Kd.C k26 w A1 l1.length l1) (hc1 : l1.length ≤ c1) (h : laws_FnMatchEach.f k l0 l1 = some r) :
    Calls Try.prog 10 #[.slice A0 l0.length c0, .slice A1 l1.length c1] w fun e w' => e = .returned (.bool r) ∧ Below w.heap.size w w' := by
  have HR0 := Aside0.mk hr0
  have HC0 := Aside0.mk hc0
  clear hr0 hc0
  have HR1 := Aside0.mk hr1
  have HC1 := Aside0.mk hc1
  clear hr1 hc1
  have HB := Aside0.mk (Below.refl w.heap.size w)
  have H : ((laws_zzFits3.f k l0).bind fun t223 => (if t223 = true then ((laws_zzFits1.f k l1).bind fun t224 => (laws_FnMatchEach.j0 k l0 l1 (!t224))) else (laws_FnMatchEach.j0 k l0 l1 true))) = some r := h
  clear h
  have HC3 := Aside0.mk H
  clear H
  go_enter Try.func10, Try.ntmps10
  go_upto_region 1 with (fail)
  go_cut [14] (fun v14 wc => ∃ (kq : Nat) (x14_2 : Bool), v14 = .bool x14_2 ∧ Aside0 (laws_FnMatchEach.j0 kq l0 l1 x14_2 = some r) ∧ Aside0 (kq ≤ k) ∧ Aside0 (Below w.heap.size w wc))
  case first =>
    have H := HC3.out
    clear HC3
    replace H := Option.bind_eq_some_iff.mp H
    obtain ⟨t223, A40, H⟩ := H
    replace H : (if t223 = true then ((laws_zzFits1.f k l1).bind fun t224 => (laws_FnMatchEach.j0 k l0 l1 (!t224))) else (laws_FnMatchEach.j0 k l0 l1 true)) = some r := H
    have A4 := Aside0.mk A40
    clear A40
    by_cases c5 : t223 = true
    · subst c5
      have H1 : ((laws_zzFits1.f k l1).bind fun t224 => (laws_FnMatchEach.j0 k l0 l1 (!t224))) = some r := by rw [if_pos rfl] at H; exact H
      clear H
      have H := H1
      clear H1
      replace H := Option.bind_eq_some_iff.mp H
      obtain ⟨t224, A60, H⟩ := H
      replace H : (laws_FnMatchEach.j0 k l0 l1 (!t224)) = some r := H
      have A6 := Aside0.mk A60
      clear A60
      have H' := Aside0.mk H
      clear H
      go_wp2_with (first | ((with_reducible refine gate_callee (f := 36) rfl ?_); refine goesL_ (some 8) rfl rfl Try.func36 (by kernel_rfl) rfl #[.slice A0 l0.length c0] rfl (by (try simp only [List.map_toArray, List.map_cons, List.map_nil]); first | done | rfl | (simp only [List.length_drop, List.length_take]; rfl)) ?_; (with_reducible refine (laws_zzFits3.calls k _ _ l0 true _ ?side1 ?side2 A4.out).mono ?_); (case side1 => repeat (first | exact (Kd.C_below HR0.out HB.out) | (with_reducible refine Kd.C_alloc ?_ _) | (with_reducible refine Kd.C_drewN ?_ _) | (with_reducible refine Kd.C_drew ?_))); (case side2 => exact HC0.out); rintro e w7 ⟨rfl, hb⟩; refine ⟨_, rfl, ?_⟩; have n0_ := Aside0.mk (below_step (by repeat (first | (with_reducible first | exact HB.out | apply below_alloc | apply pw_below_drewN | apply below_drew1) | exact HB.out)) hb); clear HB; have HB := n0_; clear n0_; (try clear hb); (try clear hb2); (try clear hk); (try clear hi)) | (go_at_call 13; (with_reducible refine (laws_zzFits1.calls k _ _ l1 t224 _ ?side1 ?side2 A6.out).mono ?_); (case side1 => repeat (first | exact (Kd.C_below HR1.out HB.out) | (with_reducible refine Kd.C_alloc ?_ _) | (with_reducible refine Kd.C_drewN ?_ _) | (with_reducible refine Kd.C_drew ?_))); (case side2 => exact HC1.out); rintro e w8 ⟨rfl, hb⟩; have n0_ := Aside0.mk (below_step (by repeat (first | (with_reducible first | exact HB.out | apply below_alloc | apply pw_below_drewN | apply below_drew1) | exact HB.out)) hb); clear HB; have HB := n0_; clear n0_; (try clear hb); (try clear hb2); (try clear hk); (try clear hi)))
      go_meet
      case rel => exact ⟨_, (!t224), (by first | rfl | (simp; done) | (simp [*]; done) | (simp [*, q_isEmpty]; done)), H', ⟨by first | omega | exact Nat.le_refl _⟩, ⟨by repeat (first | (with_reducible first | exact HB.out | apply below_alloc | apply pw_below_drewN | apply below_drew1) | exact HB.out)⟩⟩
    · replace c5 := Bool.eq_false_iff.mpr c5
      subst c5
      have H1 : (laws_FnMatchEach.j0 k l0 l1 true) = some r := by rw [if_neg (show ¬ (false = true) by decide)] at H; exact H
      clear H
      have H := H1
      clear H1
      have H' := Aside0.mk H
      clear H
      go_wp2_with (first | ((with_reducible refine gate_callee (f := 36) rfl ?_); refine goesL_ (some 8) rfl rfl Try.func36 (by kernel_rfl) rfl #[.slice A0 l0.length c0] rfl (by (try simp only [List.map_toArray, List.map_cons, List.map_nil]); first | done | rfl | (simp only [List.length_drop, List.length_take]; rfl)) ?_; (with_reducible refine (laws_zzFits3.calls k _ _ l0 false _ ?side1 ?side2 A4.out).mono ?_); (case side1 => repeat (first | exact (Kd.C_below HR0.out HB.out) | (with_reducible refine Kd.C_alloc ?_ _) | (with_reducible refine Kd.C_drewN ?_ _) | (with_reducible refine Kd.C_drew ?_))); (case side2 => exact HC0.out); rintro e w9 ⟨rfl, hb⟩; refine ⟨_, rfl, ?_⟩; have n0_ := Aside0.mk (below_step (by repeat (first | (with_reducible first | exact HB.out | apply below_alloc | apply pw_below_drewN | apply below_drew1) | exact HB.out)) hb); clear HB; have HB := n0_; clear n0_; (try clear hb); (try clear hb2); (try clear hk); (try clear hi)))
      go_meet
      case rel => exact ⟨_, (true), (by first | rfl | (simp; done) | (simp [*]; done) | (simp [*, q_isEmpty]; done)), H', ⟨by first | omega | exact Nat.le_refl _⟩, ⟨by repeat (first | (with_reducible first | exact HB.out | apply below_alloc | apply pw_below_drewN | apply below_drew1) | exact HB.out)⟩⟩
  case rest =>
    clear HC3
    try clear c1
    try clear p2
    try clear c3
    try clear c5
    obtain ⟨kq, x14_2, rfl, HA, HJ2, HB⟩ := hcut
    cases kq with
    | zero => exact absurd HA.out (by simp [laws_FnMatchEach.j0])
    | succ kj2 =>
      have H := HA.out
      clear HA
      simp only [laws_FnMatchEach.j0] at H
      by_cases c10 : x14_2 = true
      · subst c10
        have H1 : (some true) = some r := by rw [if_pos rfl] at H; exact H
        clear H
        have H := H1
        clear H1
        obtain rfl := Option.some.inj H
        go_wp2
        go_ret
        exact ⟨by first | rfl | (simp [errW_none, errW_some] <;> rfl) | (simp [*, errW_none, errW_some] <;> rfl) | (simp [*, q_isEmpty]; done), by repeat (first | (with_reducible first | exact HB.out | apply below_alloc | apply pw_below_drewN | apply below_drew1) | exact HB.out)⟩
      · replace c10 := Bool.eq_false_iff.mpr c10
        subst c10
        have H1 : ((laws_values.f kj2 l0).bind fun t225 => (if t225 = true then (laws_FnMatchEach.j1 kj2 l0 l1 (decide ((l1.length : Int) > 10000))) else (laws_FnMatchEach.j1 kj2 l0 l1 true))) = some r := by rw [if_neg (show ¬ (false = true) by decide)] at H; exact H
        clear H
        have H := H1
        clear H1
        have HC11 := Aside0.mk H
        clear H
        go_upto_region 3 with (fail)
        go_cut [22] (fun v22 wc => ∃ (kq : Nat) (x22_10 : Bool), v22 = .bool x22_10 ∧ Aside0 (laws_FnMatchEach.j1 kq l0 l1 x22_10 = some r) ∧ Aside0 (kq ≤ kj2) ∧ Aside0 (Below w.heap.size w wc))
        case first =>
          have H := HC11.out
          clear HC11
          replace H := Option.bind_eq_some_iff.mp H
          obtain ⟨t225, A120, H⟩ := H
          replace H : (if t225 = true then (laws_FnMatchEach.j1 kj2 l0 l1 (decide ((l1.length : Int) > 10000))) else (laws_FnMatchEach.j1 kj2 l0 l1 true)) = some r := H
          have A12 := Aside0.mk A120
          clear A120
          by_cases c13 : t225 = true
          · subst c13
            have H1 : (laws_FnMatchEach.j1 kj2 l0 l1 (decide ((l1.length : Int) > 10000))) = some r := by rw [if_pos rfl] at H; exact H
            clear H
            have H := H1
            clear H1
            have H' := Aside0.mk H
            clear H
            go_wp2_with (first | ((with_reducible refine gate_callee (f := 37) rfl ?_); refine goesL_ (some 16) rfl rfl Try.func37 (by kernel_rfl) rfl #[.slice A0 l0.length c0] rfl (by (try simp only [List.map_toArray, List.map_cons, List.map_nil]); first | done | rfl | (simp only [List.length_drop, List.length_take]; rfl)) ?_; (with_reducible refine (laws_values.calls kj2 _ _ l0 true _ ?side1 ?side2 A12.out).mono ?_); (case side1 => repeat (first | exact (Kd.C_below HR0.out HB.out) | (with_reducible refine Kd.C_alloc ?_ _) | (with_reducible refine Kd.C_drewN ?_ _) | (with_reducible refine Kd.C_drew ?_))); (case side2 => exact HC0.out); rintro e w14 ⟨rfl, hb⟩; refine ⟨_, rfl, ?_⟩; have n0_ := Aside0.mk (below_step (by repeat (first | (with_reducible first | exact HB.out | apply below_alloc | apply pw_below_drewN | apply below_drew1) | exact HB.out)) hb); clear HB; have HB := n0_; clear n0_; (try clear hb); (try clear hb2); (try clear hk); (try clear hi)))
            go_meet
            case rel => exact ⟨_, (decide ((l1.length : Int) > 10000)), (by first | rfl | (simp; done) | (simp [*]; done) | (simp [*, q_isEmpty]; done)), H', ⟨by have := HJ2.out; first | omega | exact Nat.le_refl _⟩, ⟨by repeat (first | (with_reducible first | exact HB.out | apply below_alloc | apply pw_below_drewN | apply below_drew1) | exact HB.out)⟩⟩
          · replace c13 := Bool.eq_false_iff.mpr c13
            subst c13
            have H1 : (laws_FnMatchEach.j1 kj2 l0 l1 true) = some r := by rw [if_neg (show ¬ (false = true) by decide)] at H; exact H
            clear H
            have H := H1
            clear H1
            have H' := Aside0.mk H
            clear H
            go_wp2_with (first | ((with_reducible refine gate_callee (f := 37) rfl ?_); refine goesL_ (some 16) rfl rfl Try.func37 (by kernel_rfl) rfl #[.slice A0 l0.length c0] rfl (by (try simp only [List.map_toArray, List.map_cons, List.map_nil]); first | done | rfl | (simp only [List.length_drop, List.length_take]; rfl)) ?_; (with_reducible refine (laws_values.calls kj2 _ _ l0 false _ ?side1 ?side2 A12.out).mono ?_); (case side1 => repeat (first | exact (Kd.C_below HR0.out HB.out) | (with_reducible refine Kd.C_alloc ?_ _) | (with_reducible refine Kd.C_drewN ?_ _) | (with_reducible refine Kd.C_drew ?_))); (case side2 => exact HC0.out); rintro e w15 ⟨rfl, hb⟩; refine ⟨_, rfl, ?_⟩; have n0_ := Aside0.mk (below_step (by repeat (first | (with_reducible first | exact HB.out | apply below_alloc | apply pw_below_drewN | apply below_drew1) | exact HB.out)) hb); clear HB; have HB := n0_; clear n0_; (try clear hb); (try clear hb2); (try clear hk); (try clear hi)))
            go_meet
            case rel => exact ⟨_, (true), (by first | rfl | (simp; done) | (simp [*]; done) | (simp [*, q_isEmpty]; done)), H', ⟨by have := HJ2.out; first | omega | exact Nat.le_refl _⟩, ⟨by repeat (first | (with_reducible first | exact HB.out | apply below_alloc | apply pw_below_drewN | apply below_drew1) | exact HB.out)⟩⟩
        case rest =>
          clear HC11
          try clear c1
          try clear p2
          try clear c3
          try clear c5
          try clear c10
          try clear c13
          try clear p2
          obtain ⟨kq, x22_10, rfl, HA, HJ10, HB⟩ := hcut
          cases kq with
          | zero => exact absurd HA.out (by simp [laws_FnMatchEach.j1])
          | succ kj10 =>
            have H := HA.out
            clear HA
            simp only [laws_FnMatchEach.j1] at H
            by_cases c16 : x22_10 = true
            · subst c16
              have H1 : ((impl_MatchAll.f ([] : List (S30)) ([] : List (S26))).bind fun t226 => (some t226)) = some r := by rw [if_pos rfl] at H; exact H
              clear H
              have H := H1
              clear H1
              replace H := Option.bind_eq_some_iff.mp H
              obtain ⟨t226, A170, H⟩ := H
              replace H : (some t226) = some r := H
              have A17 := Aside0.mk A170
              clear A170
              obtain rfl := Option.some.inj H
              go_wp2_with (first | ((with_reducible refine gate_callee (f := 38) rfl ?_); refine goesL_ (some 23) rfl rfl Try.func38 (by kernel_rfl) rfl #[.slice none 0 0, .slice none 0 0] rfl (by (try simp only [List.map_toArray, List.map_cons, List.map_nil]); first | done | rfl | (simp only [List.length_drop, List.length_take]; rfl)) ?_; (refine (impl_MatchAll.calls _ _ ([] : List (S30)) _ _ ([] : List (S26)) t226 _ ?side1 ?side2 ?side3 ?side4 A17.out).mono ?_); (case side1 => exact Kd.C_nil _ _); (case side2 => exact Nat.le_refl _); (case side3 => exact Kd.C_nil _ _); (case side4 => exact Nat.le_refl _); rintro e w18 ⟨rfl, hb⟩; refine ⟨_, rfl, ?_⟩; have n0_ := Aside0.mk (below_step (by repeat (first | (with_reducible first | exact HB.out | apply below_alloc | apply pw_below_drewN | apply below_drew1) | exact HB.out)) hb); clear HB; have HB := n0_; clear n0_; (try clear hb); (try clear hb2); (try clear hk); (try clear hi)))
              go_ret
              exact ⟨by first | rfl | (simp [errW_none, errW_some] <;> rfl) | (simp [*, errW_none, errW_some] <;> rfl) | (simp [*, q_isEmpty]; done), by repeat (first | (with_reducible first | exact HB.out | apply below_alloc | apply pw_below_drewN | apply below_drew1) | exact HB.out)⟩
            · replace c16 := Bool.eq_false_iff.mpr c16
              subst c16
              have H1 : (laws_FnMatchEach.l0 kj10 l0 l1 true (l0.length : Int) 0) = some r := by rw [if_neg (show ¬ (false = true) by decide)] at H; exact H
              clear H
              have H := H1
              clear H1
              have H' := Aside0.mk H
              clear H
              go_wp2
              go_loopg [5, 26] kj10 (fun kq v5 v26 w' => ∃ (x5_3 : Bool) (x26_3 : Int), v5 = .bool x5_3 ∧ v26 = .int .i64 x26_3 ∧ Aside0 (laws_FnMatchEach.l0 kq l0 l1 x5_3 (l0.length : Int) x26_3 = some r) ∧ Aside0 (kq ≤ kj10) ∧ Aside0 (Below w.heap.size w w'))
              case atStart => exact ⟨(true), (0), (by first | rfl | (simp; done) | (simp [*]; done) | (simp [*, q_isEmpty]; done)), (by first | rfl | (simp; done) | (simp [*]; done) | (simp [*, q_isEmpty]; done)), H', ⟨Nat.le_refl _⟩, ⟨by repeat (first | (with_reducible first | exact HB.out | apply below_alloc | apply pw_below_drewN | apply below_drew1) | exact HB.out)⟩⟩
              case round =>
                clear H'
                try clear c1
                try clear p2
                try clear c3
                try clear c5
                try clear c10
                try clear c13
                try clear c16
                try clear p2
                obtain ⟨x5_3, x26_3, rfl, rfl, HA, HK3, HB⟩ := hrel
                cases gk with
                | zero => exact absurd HA.out (by simp [laws_FnMatchEach.l0])
                | succ k3 =>
                  have H := HA.out
                  clear HA
                  simp only [laws_FnMatchEach.l0] at H
                  by_cases c19 : x26_3 < (l0.length : Int)
                  · rw [if_pos c19] at H
                    have c19b0 : decide (x26_3 < (l0.length : Int)) = true := decide_eq_true c19
                    clear c19
                    by_cases c20 : x5_3 = true
                    · subst c20
                      have H1 : (if 0 ≤ x26_3 then (if x26_3 ≤ (wrap64 (x26_3 + 1)) then (if (wrap64 (x26_3 + 1)) ≤ (l0.length : Int) then ((impl_MatchAll.f ((l0.take ((wrap64 (x26_3 + 1)) : Int).toNat).drop (x26_3 : Int).toNat) l1).bind fun t231 => (laws_FnMatchEach.l0 k3 l0 l1 t231 (l0.length : Int) (wrap64 (x26_3 + 1)))) else (none)) else (none)) else (none)) = some r := by rw [if_pos rfl] at H; exact H
                      clear H
                      have H := H1
                      clear H1
                      by_cases c21 : 0 ≤ x26_3
                      · rw [if_pos c21] at H
                        have c21b0 := eq_true c21
                        have c21b1 : decide (0 ≤ x26_3) = true := decide_eq_true c21
                        clear c21
                        by_cases c22 : x26_3 ≤ (wrap64 (x26_3 + 1))
                        · rw [if_pos c22] at H
                          have c22b0 := eq_true c22
                          have c22b1 : decide (x26_3 ≤ (wrap64 (x26_3 + 1))) = true := decide_eq_true c22
                          by_cases c23 : (wrap64 (x26_3 + 1)) ≤ (l0.length : Int)
                          · rw [if_pos c23] at H
                            have c23b0 := eq_true c23
                            have c23b1 : decide ((wrap64 (x26_3 + 1)) ≤ (l0.length : Int)) = true := decide_eq_true c23
                            obtain ⟨y227, hy227⟩ : ∃ y_ : List (S30), y_ = ((l0.take ((wrap64 (x26_3 + 1)) : Int).toNat).drop (x26_3 : Int).toNat) := ⟨_, rfl⟩
                            replace H : ((impl_MatchAll.f y227 l1).bind fun t231 => (laws_FnMatchEach.l0 k3 l0 l1 t231 (l0.length : Int) (wrap64 (x26_3 + 1)))) = some r := by first | (rw [hy227]; with_reducible exact H) | (have H2_ := (Option.bind_some _ _).symm.trans H; rw [hy227]; with_reducible exact H2_) | (have H2_ := (Option.bind_some _ _).symm.trans H; with_reducible exact H2_) | with_reducible exact H | (rw [hy227]; exact H) | exact H
                            have Ny227 := Aside0.mk hy227
                            clear hy227
                            replace H := Option.bind_eq_some_iff.mp H
                            obtain ⟨t231, A240, H⟩ := H
                            replace H : (laws_FnMatchEach.l0 k3 l0 l1 t231 (l0.length : Int) (wrap64 (x26_3 + 1))) = some r := H
                            have A24 := Aside0.mk A240
                            clear A240
                            have H' := Aside0.mk H
                            clear H
                            have q25 : ((wrap64 (x26_3 + 1)) : Int) ≤ ((l0.length : Int) : Int) := of_decide_eq_true (by first | (with_reducible assumption) | assumption)
                            obtain ⟨i025, hi025, _, hsz25, _⟩ := info_parts info30
                            have hroom25 : l0.length ≤ c0 := HC0.out
                            have hC25 : Kd.C k30 _ A0 l0.length l0 := HR0.out
                            have ql25 : (x26_3 : Int) ≤ ((wrap64 (x26_3 + 1)) : Int) := of_decide_eq_true (by first | (with_reducible assumption) | assumption)
                            have q025 : (0 : Int) ≤ (x26_3 : Int) := of_decide_eq_true (by first | (with_reducible assumption) | assumption)
                            have hcut25 := cut_mid (P := Try.prog) 41 30 .i64 .i64 Try.underlying41 hi025 3 hsz25 A0 l0.length c0 x26_3 (wrap64 (x26_3 + 1)) q025 ql25 q25 hroom25
                            have hr25 := Kd.C_mid (lo := (x26_3 : Int).toNat) (hi := ((wrap64 (x26_3 + 1)) : Int).toNat) (c := c0) hC25 (by omega) (by omega) hroom25
                            obtain ⟨A25, hA25⟩ : ∃ A1, A1 = (if c0 = (x26_3 : Int).toNat then A0 else (A0 : Option Addr).map (·.add ((x26_3 : Int).toNat * 3))) := ⟨_, rfl⟩
                            obtain ⟨c25, hc25⟩ : ∃ c1, c1 = c0 - (x26_3 : Int).toNat := ⟨_, rfl⟩
                            have hy25 : y227.length = ((wrap64 (x26_3 + 1)) : Int).toNat - (x26_3 : Int).toNat := (by rw [Ny227.out, List.length_drop, List.length_take] <;> omega)
                            rw [show ((l0).take ((wrap64 (x26_3 + 1)) : Int).toNat).drop (x26_3 : Int).toNat = y227 from Ny227.out.symm] at hr25
                            replace hr25 : Kd.C k30 _ A25 y227.length y227 := (by rw [hA25]; exact hr25)
                            rw [← hy25, ← hA25, ← hc25] at hcut25
                            have HR230 := Aside0.mk hr25
                            have HC230 := Aside0.mk (show y227.length ≤ c25 from by rw [hy25, hc25]; exact Nat.sub_le_sub_right (Nat.le_trans (by omega) hroom25) _)
                            clear hr25 hC25 hroom25 hi025 hsz25 hc25
                            have KY25 := Aside0.mk hy25
                            have KA25 := Aside0.mk hA25
                            clear hy25 hA25
                            replace q25 := eq_true q25
                            go_wp2_with (first | (go_at_call 38; (with_reducible refine (impl_MatchAll.calls _ _ y227 _ _ l1 t231 _ ?side1 ?side2 ?side3 ?side4 A24.out).mono ?_); (case side1 => repeat (first | exact (Kd.C_below HR230.out HB.out) | (with_reducible refine Kd.C_alloc ?_ _) | (with_reducible refine Kd.C_drewN ?_ _) | (with_reducible refine Kd.C_drew ?_))); (case side2 => exact HC230.out); (case side3 => repeat (first | exact (Kd.C_below HR1.out HB.out) | (with_reducible refine Kd.C_alloc ?_ _) | (with_reducible refine Kd.C_drewN ?_ _) | (with_reducible refine Kd.C_drew ?_))); (case side4 => exact HC1.out); rintro e w26 ⟨rfl, hb⟩; have n0_ := Aside0.mk (below_step (by repeat (first | (with_reducible first | exact HB.out | apply below_alloc | apply pw_below_drewN | apply below_drew1) | exact HB.out)) hb); clear HB; have HB := n0_; clear n0_; (try clear hb); (try clear hb2); (try clear hk); (try clear hi)))
                            go_roundg k3
                            case measure => have := HJ2.out; have := HJ10.out; have := HK3.out; omega
                            case rel => exact ⟨(t231), (wrap64 (x26_3 + 1)), (by first | rfl | (simp; done) | (simp [*]; done) | (simp [*, q_isEmpty]; done)), (by first | rfl | (simp; done) | (simp [*]; done) | (simp [*, q_isEmpty]; done)), H', ⟨by have := HJ2.out; have := HJ10.out; have := HK3.out; omega⟩, ⟨by repeat (first | (with_reducible first | exact HB.out | apply below_alloc | apply pw_below_drewN | apply below_drew1) | exact HB.out)⟩⟩
                          · rw [if_neg c23] at H
                            exact absurd H (by simp)
                        · rw [if_neg c22] at H
                          exact absurd H (by simp)
                      · rw [if_neg c21] at H
                        exact absurd H (by simp)
                    · replace c20 := Bool.eq_false_iff.mpr c20
                      subst c20
                      have H1 : (laws_FnMatchEach.l0 k3 l0 l1 false (l0.length : Int) (wrap64 (x26_3 + 1))) = some r := by rw [if_neg (show ¬ (false = true) by decide)] at H; exact H
                      clear H
                      have H := H1
                      clear H1
                      have H' := Aside0.mk H
                      clear H
                      go_wp2
                      go_roundg k3
                      case measure => have := HJ2.out; have := HJ10.out; have := HK3.out; omega
                      case rel => exact ⟨(false), (wrap64 (x26_3 + 1)), (by first | rfl | (simp; done) | (simp [*]; done) | (simp [*, q_isEmpty]; done)), (by first | rfl | (simp; done) | (simp [*]; done) | (simp [*, q_isEmpty]; done)), H', ⟨by have := HJ2.out; have := HJ10.out; have := HK3.out; omega⟩, ⟨by repeat (first | (with_reducible first | exact HB.out | apply below_alloc | apply pw_below_drewN | apply below_drew1) | exact HB.out)⟩⟩
                  · rw [if_neg c19] at H
                    have c19b0 : decide (x26_3 < (l0.length : Int)) = false := decide_eq_false c19
                    clear c19
                    replace H := Option.bind_eq_some_iff.mp H
                    obtain ⟨t232, A270, H⟩ := H
                    replace H : (if (t232 == x5_3) = true then ((impl_MatchAll.f ([] : List (S30)) ([] : List (S26))).bind fun t233 => (some t233)) else (some false)) = some r := H
                    have A27 := Aside0.mk A270
                    clear A270
                    by_cases c28 : (t232 == x5_3) = true
                    · rw [if_pos c28] at H
                      have c28b0 : (t232 == x5_3) = true := c28
                      (try (have c28b1 : decide (t232 = x5_3) = true := by simpa using c28))
                      (try (have c28b2 : (t232 == x5_3) = true := by simpa using c28))
                      clear c28
                      replace H := Option.bind_eq_some_iff.mp H
                      obtain ⟨t233, A290, H⟩ := H
                      replace H : (some t233) = some r := H
                      have A29 := Aside0.mk A290
                      clear A290
                      obtain rfl := Option.some.inj H
                      go_wp2_with (first | ((with_reducible refine gate_callee (f := 38) rfl ?_); refine goesL_ (some 42) rfl rfl Try.func38 (by kernel_rfl) rfl #[.slice A0 l0.length c0, .slice A1 l1.length c1] rfl (by (try simp only [List.map_toArray, List.map_cons, List.map_nil]); first | done | rfl | (simp only [List.length_drop, List.length_take]; rfl)) ?_; (with_reducible refine (impl_MatchAll.calls _ _ l0 _ _ l1 t232 _ ?side1 ?side2 ?side3 ?side4 A27.out).mono ?_); (case side1 => repeat (first | exact (Kd.C_below HR0.out HB.out) | (with_reducible refine Kd.C_alloc ?_ _) | (with_reducible refine Kd.C_drewN ?_ _) | (with_reducible refine Kd.C_drew ?_))); (case side2 => exact HC0.out); (case side3 => repeat (first | exact (Kd.C_below HR1.out HB.out) | (with_reducible refine Kd.C_alloc ?_ _) | (with_reducible refine Kd.C_drewN ?_ _) | (with_reducible refine Kd.C_drew ?_))); (case side4 => exact HC1.out); rintro e w30 ⟨rfl, hb⟩; refine ⟨_, rfl, ?_⟩; have n0_ := Aside0.mk (below_step (by repeat (first | (with_reducible first | exact HB.out | apply below_alloc | apply pw_below_drewN | apply below_drew1) | exact HB.out)) hb); clear HB; have HB := n0_; clear n0_; (try clear hb); (try clear hb2); (try clear hk); (try clear hi)) | (go_at_call 38; (refine (impl_MatchAll.calls _ _ ([] : List (S30)) _ _ ([] : List (S26)) t233 _ ?side1 ?side2 ?side3 ?side4 A29.out).mono ?_); (case side1 => exact Kd.C_nil _ _); (case side2 => exact Nat.le_refl _); (case side3 => exact Kd.C_nil _ _); (case side4 => exact Nat.le_refl _); rintro e w31 ⟨rfl, hb⟩; have n0_ := Aside0.mk (below_step (by repeat (first | (with_reducible first | exact HB.out | apply below_alloc | apply pw_below_drewN | apply below_drew1) | exact HB.out)) hb); clear HB; have HB := n0_; clear n0_; (try clear hb); (try clear hb2); (try clear hk); (try clear hi)))
                      go_ret
                      exact ⟨by first | rfl | (simp [errW_none, errW_some] <;> rfl) | (simp [*, errW_none, errW_some] <;> rfl) | (simp [*, q_isEmpty]; done), by repeat (first | (with_reducible first | exact HB.out | apply below_alloc | apply pw_below_drewN | apply below_drew1) | exact HB.out)⟩
                    · rw [if_neg c28] at H
                      have c28b0 : (t232 == x5_3) = false := by simpa using c28
                      (try (have c28b1 : decide (t232 = x5_3) = false := by simpa using c28))
                      (try (have c28b2 : (t232 == x5_3) = false := by simpa using c28))
                      (try (have c28b3 : ¬ (t232 = x5_3) := by simpa using c28))
                      clear c28
                      obtain rfl := Option.some.inj H
                      go_wp2_with (first | ((with_reducible refine gate_callee (f := 38) rfl ?_); refine goesL_ (some 42) rfl rfl Try.func38 (by kernel_rfl) rfl #[.slice A0 l0.length c0, .slice A1 l1.length c1] rfl (by (try simp only [List.map_toArray, List.map_cons, List.map_nil]); first | done | rfl | (simp only [List.length_drop, List.length_take]; rfl)) ?_; (with_reducible refine (impl_MatchAll.calls _ _ l0 _ _ l1 t232 _ ?side1 ?side2 ?side3 ?side4 A27.out).mono ?_); (case side1 => repeat (first | exact (Kd.C_below HR0.out HB.out) | (with_reducible refine Kd.C_alloc ?_ _) | (with_reducible refine Kd.C_drewN ?_ _) | (with_reducible refine Kd.C_drew ?_))); (case side2 => exact HC0.out); (case side3 => repeat (first | exact (Kd.C_below HR1.out HB.out) | (with_reducible refine Kd.C_alloc ?_ _) | (with_reducible refine Kd.C_drewN ?_ _) | (with_reducible refine Kd.C_drew ?_))); (case side4 => exact HC1.out); rintro e w32 ⟨rfl, hb⟩; refine ⟨_, rfl, ?_⟩; have n0_ := Aside0.mk (below_step (by repeat (first | (with_reducible first | exact HB.out | apply below_alloc | apply pw_below_drewN | apply below_drew1) | exact HB.out)) hb); clear HB; have HB := n0_; clear n0_; (try clear hb); (try clear hb2); (try clear hk); (try clear hi)))
                      go_ret
                      exact ⟨by first | rfl | (simp [errW_none, errW_some] <;> rfl) | (simp [*, errW_none, errW_some] <;> rfl) | (simp [*, q_isEmpty]; done), by repeat (first | (with_reducible first | exact HB.out | apply below_alloc | apply pw_below_drewN | apply below_drew1) | exact HB.out)⟩

end Go.Proofs.Ytbcijcmmpbkkbaa.Q
