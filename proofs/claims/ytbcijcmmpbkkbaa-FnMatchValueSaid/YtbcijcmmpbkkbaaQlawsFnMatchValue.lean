-- Printed for this seat by wip/pp.py of this repo; nothing here is trusted: Lean checks it.
import Derived.Test.YtbcijcmmpbkkbaaQ0
import Derived.Test.YtbcijcmmpbkkbaaHMatch
import Derived.Test.YtbcijcmmpbkkbaaQlawszzFits4
import Derived.Test.YtbcijcmmpbkkbaaQspecMatchValue
namespace Go.Proofs.Ytbcijcmmpbkkbaa.Q
open Go.RowKit Go.Proofs.YtbcijcmmpbkkbaaW.PrintWords Go.Proofs.YtbcijcmmpbkkbaaW.PrintLast Go.Proofs.YtbcijcmmpbkkbaaW.PrintMore
attribute [local go_sem] max2_int min2_int max_two min_two max_three min_three max_four min_four   -- for this text's walks alone
set_option linter.unusedVariables false
set_option linter.unusedSimpArgs false

/-! ### laws_FnMatchValue: function 4 -/
mutual
def laws_FnMatchValue.j0 : Nat → ByteArray → Bool → Int → ByteArray → ByteArray → Option (Bool)
  | 0, _, _, _, _, _ => none
  | k + 1, x1, x12, x127000, x127001, x127002 => if x12 = true then (some true) else (if x127000 = 0 then (laws_FnMatchValue.j1 k x1 false x127000 x127001 x127002) else (laws_FnMatchValue.j1 k x1 (x127000 != 1) x127000 x127001 x127002))
def laws_FnMatchValue.j1 : Nat → ByteArray → Bool → Int → ByteArray → ByteArray → Option (Bool)
  | 0, _, _, _, _, _ => none
  | k + 1, x1, x20, x127000, x127001, x127002 => if x20 = true then ((impl_MatchValue.f 0 (⟨#[97]⟩ : ByteArray) (⟨#[98]⟩ : ByteArray) (⟨#[98]⟩ : ByteArray)).bind fun t128 => (some t128)) else ((impl_MatchValue.f x127000 x127001 x127002 x1).bind fun t129 => ((spec_MatchValue.f k x127000 x127001 x127002 x1).bind fun t130 => (if (t129 == (t130 == 1)) = true then ((impl_MatchValue.f 0 (⟨#[]⟩ : ByteArray) x1 x1).bind fun t131 => (some t131)) else (some false))))
end
def laws_FnMatchValue.f (k : Nat) (a0_0 : Int) (a0_1 : ByteArray) (a0_2 : ByteArray) (a1 : ByteArray) : Option (Bool) := (laws_zzFits4.f a0_0 a0_1 a0_2).bind fun t127 => (if t127 = true then (laws_FnMatchValue.j0 k a1 (decide ((a1.size : Int) > 2147483647)) a0_0 a0_1 a0_2) else (laws_FnMatchValue.j0 k a1 true a0_0 a0_1 a0_2))
theorem laws_FnMatchValue.mono_l : ∀ k, (∀ y0 y1 y2 y3 y4, LeO (laws_FnMatchValue.j0 k y0 y1 y2 y3 y4) (laws_FnMatchValue.j0 (k + 1) y0 y1 y2 y3 y4)) ∧ (∀ y0 y1 y2 y3 y4, LeO (laws_FnMatchValue.j1 k y0 y1 y2 y3 y4) (laws_FnMatchValue.j1 (k + 1) y0 y1 y2 y3 y4))
  | 0 => ⟨fun _ _ _ _ _ r h => by simp [laws_FnMatchValue.j0] at h, fun _ _ _ _ _ r h => by simp [laws_FnMatchValue.j1] at h⟩
  | k + 1 => by
    obtain ⟨ih0, ih1⟩ := laws_FnMatchValue.mono_l k
    refine ⟨?_, ?_⟩
    · intro y0 y1 y2 y3 y4
      unfold laws_FnMatchValue.j0
      repeat' first
      | (with_reducible exact ih0 _ _ _ _ _)
      | (with_reducible exact ih1 _ _ _ _ _)
      | (with_reducible exact spec_MatchValue.mono _ _ _ _ _)
      | (with_reducible exact LeO.refl _)
      | (with_reducible exact LeO.none _)
      | (with_reducible refine LeO.ite ?_ ?_)
      | (with_reducible refine LeO.bind ?_ (fun _ => ?_))
      | exact ih0 _ _ _ _ _
      | exact ih1 _ _ _ _ _
      | exact spec_MatchValue.mono _ _ _ _ _
      | exact LeO.none _
      | refine LeO.ite ?_ ?_
      | refine LeO.bind ?_ (fun _ => ?_)
    · intro y0 y1 y2 y3 y4
      unfold laws_FnMatchValue.j1
      repeat' first
      | (with_reducible exact ih0 _ _ _ _ _)
      | (with_reducible exact ih1 _ _ _ _ _)
      | (with_reducible exact spec_MatchValue.mono _ _ _ _ _)
      | (with_reducible exact LeO.refl _)
      | (with_reducible exact LeO.none _)
      | (with_reducible refine LeO.ite ?_ ?_)
      | (with_reducible refine LeO.bind ?_ (fun _ => ?_))
      | exact ih0 _ _ _ _ _
      | exact ih1 _ _ _ _ _
      | exact spec_MatchValue.mono _ _ _ _ _
      | exact LeO.none _
      | refine LeO.ite ?_ ?_
      | refine LeO.bind ?_ (fun _ => ?_)
theorem laws_FnMatchValue.mono : ∀ a0 a1 a2 a3 k, LeO (laws_FnMatchValue.f k a0 a1 a2 a3) (laws_FnMatchValue.f (k + 1) a0 a1 a2 a3) := by
  intro a0 a1 a2 a3 k
  obtain ⟨ih0, ih1⟩ := laws_FnMatchValue.mono_l k
  unfold laws_FnMatchValue.f
  repeat' first
      | (with_reducible exact ih0 _ _ _ _ _)
      | (with_reducible exact ih1 _ _ _ _ _)
      | (with_reducible exact spec_MatchValue.mono _ _ _ _ _)
      | (with_reducible exact LeO.refl _)
      | (with_reducible exact LeO.none _)
      | (with_reducible refine LeO.ite ?_ ?_)
      | (with_reducible refine LeO.bind ?_ (fun _ => ?_))
      | exact ih0 _ _ _ _ _
      | exact ih1 _ _ _ _ _
      | exact spec_MatchValue.mono _ _ _ _ _
      | exact LeO.none _
      | refine LeO.ite ?_ ?_
      | refine LeO.bind ?_ (fun _ => ?_)
def laws_FnMatchValue.T5 : Bool × List (List Nat × List Nat) := (true, [([], []), ([], []), ([0, 1], [0, 1]), ([], []), ([], []), ([3, 4, 2], [3, 4]), ([5], [5]), ([2, 6], [2, 6]), ([7, 5], [7]), ([8], [8]), ([9, 8], [8, 9]), ([8], [8]), ([10, 11, 8, 8], [8, 10, 11]), ([8, 12], [8, 12]), ([13, 12, 0, 1, 2, 3, 4, 5, 6, 7, 8, 9, 10, 11, 12, 13], [13])])
def laws_FnMatchValue.B5 : List Nat := [0, 0, 3, 0, 0, 31, 63, 127, 255, 511, 1023, 511, 4095, 8191, 16383]
theorem laws_FnMatchValue.tab5 : rtab .any (opsOf Try.f4 5) = laws_FnMatchValue.T5 := by kernel_rfl
theorem laws_FnMatchValue.bits5 : waitsOk laws_FnMatchValue.T5.2 laws_FnMatchValue.B5 = true := by kernel_rfl
set_option maxHeartbeats 8000000 in
set_option maxRecDepth 100000 in
theorem laws_FnMatchValue.calls (k : Nat) (a0_0 : Int) (a0_1 : ByteArray) (a0_2 : ByteArray) (a1 : ByteArray) (r : Bool) (w : World) (h : laws_FnMatchValue.f k a0_0 a0_1 a0_2 a1 = some r) :
    Calls Try.prog 4 #[.agg #[.int .i64 a0_0, .string a0_1, .string a0_2], .string a1] w fun e w' => e = .returned (.bool r) ∧ Below w.heap.size w w' := by
  have hu30 := Try.underlying30
  have HB := Aside0.mk (Below.refl w.heap.size w)
  have H : ((laws_zzFits4.f a0_0 a0_1 a0_2).bind fun t127 => (if t127 = true then (laws_FnMatchValue.j0 k a1 (decide ((a1.size : Int) > 2147483647)) a0_0 a0_1 a0_2) else (laws_FnMatchValue.j0 k a1 true a0_0 a0_1 a0_2))) = some r := h
  clear h
  have HC3 := Aside0.mk H
  clear H
  go_enter Try.func4, Try.ntmps4
  go_upto_region 1 with (first | ((with_reducible refine gate_dst (N := 2) rfl ?_); (try (refine gate_guard (by rfl) ?_; dsimp only)); refine box_event ?hg (N := 2) ?hd (cs := #[.int .i64 a0_0, .string a0_1, .string a0_2]) (t := 30) ?hr ?_; (case hd => rfl); (case hg => rfl); (case hr => first | (go_simp; done) | (go_simp; rfl)); intro gb126 hg w4 hbox hb; have n0_ := Aside0.mk (below_step (by repeat (first | (with_reducible first | exact HB.out | apply below_alloc | apply pw_below_drewN | apply below_drew1) | exact HB.out)) hb); have n1_ := Aside0.mk (hbox); have n2_ := Aside0.mk ((by rw [hg]; exact (below_size (by repeat (first | (with_reducible first | exact HB.out | apply below_alloc | apply pw_below_drewN | apply below_drew1) | exact HB.out))) : w.heap.size ≤ gb126)); have n3_ := Aside0.mk ((by rw [hg]; exact (below_size (by repeat (first | (with_reducible first | exact HB.out | apply below_alloc | apply pw_below_drewN | apply below_drew1) | exact HB.out))) : w.heap.size ≤ gb126)); clear HB; have HB := n0_; have BK126 := n1_; have GW126 := n2_; have GE126 := n3_; clear n0_ n1_ n2_ n3_; clear hb hbox hg))
  (try simp only [Act.put, List.setIfInBounds_toArray, List.set_cons_zero, List.set_cons_succ])
  go_cut [12] (fun v12 wc => ∃ (kq : Nat) (x12_2 : Bool), v12 = .bool x12_2 ∧ Aside0 (laws_FnMatchValue.j0 kq a1 x12_2 a0_0 a0_1 a0_2 = some r) ∧ Aside0 (kq ≤ k) ∧ Aside0 (wc.heap[gb126]? = some (.cells #[.int .i64 a0_0, .string a0_1, .string a0_2] 30 (0, 0))) ∧ Aside0 (Below w.heap.size w wc))
  case first =>
    have H := HC3.out
    clear HC3
    replace H := Option.bind_eq_some_iff.mp H
    obtain ⟨t127, A50, H⟩ := H
    replace H : (if t127 = true then (laws_FnMatchValue.j0 k a1 (decide ((a1.size : Int) > 2147483647)) a0_0 a0_1 a0_2) else (laws_FnMatchValue.j0 k a1 true a0_0 a0_1 a0_2)) = some r := H
    have A5 := Aside0.mk A50
    clear A50
    by_cases c6 : t127 = true
    · subst c6
      have H1 : (laws_FnMatchValue.j0 k a1 (decide ((a1.size : Int) > 2147483647)) a0_0 a0_1 a0_2) = some r := by rw [if_pos rfl] at H; exact H
      clear H
      have H := H1
      clear H1
      have H' := Aside0.mk H
      clear H
      have hcz7_0 : w4.cell? ⟨gb126, 0, none⟩ = some (.int .i64 a0_0) := (blk_cell BK126.out 0).trans rfl
      have hcz7_1 : w4.cell? ⟨gb126, 1, none⟩ = some (.string a0_1) := (blk_cell BK126.out 1).trans rfl
      have hcz7_2 : w4.cell? ⟨gb126, 2, none⟩ = some (.string a0_2) := (blk_cell BK126.out 2).trans rfl
      have hfz7_0 := blk_frozen BK126.out 0
      have hfz7_1 := blk_frozen BK126.out 1
      have hfz7_2 := blk_frozen BK126.out 2
      go_wp2_with (first | ((with_reducible refine gate_callee (f := 16) rfl ?_); refine goesL_ (some 6) rfl rfl Try.func16 (by kernel_rfl) rfl #[.agg #[.int .i64 a0_0, .string a0_1, .string a0_2]] rfl (by (try simp only [List.map_toArray, List.map_cons, List.map_nil]); first | done | rfl | (simp only [List.length_drop, List.length_take]; rfl)) ?_; (with_reducible refine (laws_zzFits4.calls a0_0 a0_1 a0_2 true _ A5.out).mono ?_); rintro e w8 ⟨rfl, hb⟩; refine ⟨_, rfl, ?_⟩; have n0_ := Aside0.mk (blk_below (g := gb126) (o := .cells #[.int .i64 a0_0, .string a0_1, .string a0_2] 30 (0, 0)) (by (with_reducible repeat (first | refine blk_drewN ?_ _ | refine blk_drew ?_ | refine blk_alloc ?_ _)); exact BK126.out) hb); have n1_ := Aside0.mk (below_step (by repeat (first | (with_reducible first | exact HB.out | apply below_alloc | apply pw_below_drewN | apply below_drew1 | refine below_set ?_ GE126.out) | exact HB.out)) hb); clear BK126; clear HB; have BK126 := n0_; have HB := n1_; clear n0_ n1_; (try clear hb); (try clear hb2); (try clear hk); (try clear hi)))
      go_meet
      case rel => exact ⟨_, (decide ((a1.size : Int) > 2147483647)), (by first | rfl | (simp; done) | (simp [*]; done)), H', ⟨by first | omega | exact Nat.le_refl _⟩, ⟨by (with_reducible repeat (first | refine blk_drewN ?_ _ | refine blk_drew ?_ | refine blk_alloc ?_ _)); exact BK126.out⟩, ⟨by repeat (first | (with_reducible first | exact HB.out | apply below_alloc | apply pw_below_drewN | apply below_drew1 | refine below_set ?_ GE126.out) | exact HB.out)⟩⟩
    · replace c6 := Bool.eq_false_iff.mpr c6
      subst c6
      have H1 : (laws_FnMatchValue.j0 k a1 true a0_0 a0_1 a0_2) = some r := by rw [if_neg (show ¬ (false = true) by decide)] at H; exact H
      clear H
      have H := H1
      clear H1
      have H' := Aside0.mk H
      clear H
      have hcz9_0 : w4.cell? ⟨gb126, 0, none⟩ = some (.int .i64 a0_0) := (blk_cell BK126.out 0).trans rfl
      have hcz9_1 : w4.cell? ⟨gb126, 1, none⟩ = some (.string a0_1) := (blk_cell BK126.out 1).trans rfl
      have hcz9_2 : w4.cell? ⟨gb126, 2, none⟩ = some (.string a0_2) := (blk_cell BK126.out 2).trans rfl
      have hfz9_0 := blk_frozen BK126.out 0
      have hfz9_1 := blk_frozen BK126.out 1
      have hfz9_2 := blk_frozen BK126.out 2
      go_wp2_with (first | ((with_reducible refine gate_callee (f := 16) rfl ?_); refine goesL_ (some 6) rfl rfl Try.func16 (by kernel_rfl) rfl #[.agg #[.int .i64 a0_0, .string a0_1, .string a0_2]] rfl (by (try simp only [List.map_toArray, List.map_cons, List.map_nil]); first | done | rfl | (simp only [List.length_drop, List.length_take]; rfl)) ?_; (with_reducible refine (laws_zzFits4.calls a0_0 a0_1 a0_2 false _ A5.out).mono ?_); rintro e w10 ⟨rfl, hb⟩; refine ⟨_, rfl, ?_⟩; have n0_ := Aside0.mk (blk_below (g := gb126) (o := .cells #[.int .i64 a0_0, .string a0_1, .string a0_2] 30 (0, 0)) (by (with_reducible repeat (first | refine blk_drewN ?_ _ | refine blk_drew ?_ | refine blk_alloc ?_ _)); exact BK126.out) hb); have n1_ := Aside0.mk (below_step (by repeat (first | (with_reducible first | exact HB.out | apply below_alloc | apply pw_below_drewN | apply below_drew1 | refine below_set ?_ GE126.out) | exact HB.out)) hb); clear BK126; clear HB; have BK126 := n0_; have HB := n1_; clear n0_ n1_; (try clear hb); (try clear hb2); (try clear hk); (try clear hi)))
      go_meet
      case rel => exact ⟨_, (true), (by first | rfl | (simp; done) | (simp [*]; done)), H', ⟨by first | omega | exact Nat.le_refl _⟩, ⟨by (with_reducible repeat (first | refine blk_drewN ?_ _ | refine blk_drew ?_ | refine blk_alloc ?_ _)); exact BK126.out⟩, ⟨by repeat (first | (with_reducible first | exact HB.out | apply below_alloc | apply pw_below_drewN | apply below_drew1 | refine below_set ?_ GE126.out) | exact HB.out)⟩⟩
  case rest =>
    clear HC3
    try clear c1
    try clear p2
    try clear c4
    try clear c6
    try clear hcz7_0
    try clear hcz7_1
    try clear hcz7_2
    try clear hcz9_0
    try clear hcz9_1
    try clear hcz9_2
    try clear hfz7_0
    try clear hfz7_1
    try clear hfz7_2
    try clear hfz9_0
    try clear hfz9_1
    try clear hfz9_2
    obtain ⟨kq, x12_2, rfl, HA, HJ2, BK126, HB⟩ := hcut
    cases kq with
    | zero => exact absurd HA.out (by simp [laws_FnMatchValue.j0])
    | succ kj2 =>
      have H := HA.out
      clear HA
      simp only [laws_FnMatchValue.j0] at H
      by_cases c11 : x12_2 = true
      · subst c11
        have H1 : (some true) = some r := by rw [if_pos rfl] at H; exact H
        clear H
        have H := H1
        clear H1
        obtain rfl := Option.some.inj H
        go_wp2
        go_ret
        exact ⟨by first | rfl | (simp [errW_none, errW_some] <;> rfl) | (simp [*, errW_none, errW_some] <;> rfl), by repeat (first | (with_reducible first | exact HB.out | apply below_alloc | apply pw_below_drewN | apply below_drew1 | refine below_set ?_ GE126.out) | exact HB.out)⟩
      · replace c11 := Bool.eq_false_iff.mpr c11
        subst c11
        have H1 : (if a0_0 = 0 then (laws_FnMatchValue.j1 kj2 a1 false a0_0 a0_1 a0_2) else (laws_FnMatchValue.j1 kj2 a1 (a0_0 != 1) a0_0 a0_1 a0_2)) = some r := by rw [if_neg (show ¬ (false = true) by decide)] at H; exact H
        clear H
        have H := H1
        clear H1
        have HC12 := Aside0.mk H
        clear H
        go_upto_region 3 with (fail)
        go_cut [20] (fun v20 wc => ∃ (kq : Nat) (x20_11 : Bool), v20 = .bool x20_11 ∧ Aside0 (laws_FnMatchValue.j1 kq a1 x20_11 a0_0 a0_1 a0_2 = some r) ∧ Aside0 (kq ≤ kj2) ∧ Aside0 (wc.heap[gb126]? = some (.cells #[.int .i64 a0_0, .string a0_1, .string a0_2] 30 (0, 0))) ∧ Aside0 (Below w.heap.size w wc))
        case first =>
          have H := HC12.out
          clear HC12
          by_cases c13 : a0_0 = 0
          · rw [if_pos c13] at H
            have c13b0 : (a0_0 == 0) = true := beq_iff_eq.mpr c13
            have c13b1 : (a0_0 != 0) = false := bne_eq_false_iff_eq.mpr c13
            clear c13
            (first | rw [c13b0] | (simp only [i64_w, i32_w]; rw [c13b0]) | skip)
            have H' := Aside0.mk H
            clear H
            have hcz14_0 : wc.cell? ⟨gb126, 0, none⟩ = some (.int .i64 a0_0) := (blk_cell BK126.out 0).trans rfl
            have hcz14_1 : wc.cell? ⟨gb126, 1, none⟩ = some (.string a0_1) := (blk_cell BK126.out 1).trans rfl
            have hcz14_2 : wc.cell? ⟨gb126, 2, none⟩ = some (.string a0_2) := (blk_cell BK126.out 2).trans rfl
            have hfz14_0 := blk_frozen BK126.out 0
            have hfz14_1 := blk_frozen BK126.out 1
            have hfz14_2 := blk_frozen BK126.out 2
            go_wp2
            go_meet
            case rel => exact ⟨_, (false), (by first | rfl | (simp; done) | (simp [*]; done)), H', ⟨by have := HJ2.out; first | omega | exact Nat.le_refl _⟩, ⟨by (with_reducible repeat (first | refine blk_drewN ?_ _ | refine blk_drew ?_ | refine blk_alloc ?_ _)); exact BK126.out⟩, ⟨by repeat (first | (with_reducible first | exact HB.out | apply below_alloc | apply pw_below_drewN | apply below_drew1 | refine below_set ?_ GE126.out) | exact HB.out)⟩⟩
          · rw [if_neg c13] at H
            have c13b0 : (a0_0 == 0) = false := beq_eq_false_iff_ne.mpr c13
            have c13b1 : (a0_0 != 0) = true := bne_iff_ne.mpr c13
            (first | rw [c13b0] | (simp only [i64_w, i32_w]; rw [c13b0]) | skip)
            have H' := Aside0.mk H
            clear H
            have hcz15_0 : wc.cell? ⟨gb126, 0, none⟩ = some (.int .i64 a0_0) := (blk_cell BK126.out 0).trans rfl
            have hcz15_1 : wc.cell? ⟨gb126, 1, none⟩ = some (.string a0_1) := (blk_cell BK126.out 1).trans rfl
            have hcz15_2 : wc.cell? ⟨gb126, 2, none⟩ = some (.string a0_2) := (blk_cell BK126.out 2).trans rfl
            have hfz15_0 := blk_frozen BK126.out 0
            have hfz15_1 := blk_frozen BK126.out 1
            have hfz15_2 := blk_frozen BK126.out 2
            go_wp2
            go_meet
            case rel => exact ⟨_, ((a0_0 != 1)), (by first | rfl | (simp; done) | (simp [*]; done)), H', ⟨by have := HJ2.out; first | omega | exact Nat.le_refl _⟩, ⟨by (with_reducible repeat (first | refine blk_drewN ?_ _ | refine blk_drew ?_ | refine blk_alloc ?_ _)); exact BK126.out⟩, ⟨by repeat (first | (with_reducible first | exact HB.out | apply below_alloc | apply pw_below_drewN | apply below_drew1 | refine below_set ?_ GE126.out) | exact HB.out)⟩⟩
        case rest =>
          clear HC12
          try clear c1
          try clear p2
          try clear c4
          try clear c6
          try clear c11
          try clear c13
          try clear c13b0
          try clear c13b1
          try clear hcz14_0
          try clear hcz14_1
          try clear hcz14_2
          try clear hcz15_0
          try clear hcz15_1
          try clear hcz15_2
          try clear hcz7_0
          try clear hcz7_1
          try clear hcz7_2
          try clear hcz9_0
          try clear hcz9_1
          try clear hcz9_2
          try clear hfz14_0
          try clear hfz14_1
          try clear hfz14_2
          try clear hfz15_0
          try clear hfz15_1
          try clear hfz15_2
          try clear hfz7_0
          try clear hfz7_1
          try clear hfz7_2
          try clear hfz9_0
          try clear hfz9_1
          try clear hfz9_2
          try clear p2
          obtain ⟨kq, x20_11, rfl, HA, HJ11, BK126, HB⟩ := hcut
          cases kq with
          | zero => exact absurd HA.out (by simp [laws_FnMatchValue.j1])
          | succ kj11 =>
            have H := HA.out
            clear HA
            simp only [laws_FnMatchValue.j1] at H
            by_cases c16 : x20_11 = true
            · subst c16
              have H1 : ((impl_MatchValue.f 0 (⟨#[97]⟩ : ByteArray) (⟨#[98]⟩ : ByteArray) (⟨#[98]⟩ : ByteArray)).bind fun t128 => (some t128)) = some r := by rw [if_pos rfl] at H; exact H
              clear H
              have H := H1
              clear H1
              replace H := Option.bind_eq_some_iff.mp H
              obtain ⟨t128, A170, H⟩ := H
              replace H : (some t128) = some r := H
              have A17 := Aside0.mk A170
              clear A170
              obtain rfl := Option.some.inj H
              go_wp2_with (first | ((with_reducible refine gate_callee (f := 17) rfl ?_); refine goesL_ (some 22) rfl rfl Try.func17 (by kernel_rfl) rfl #[.agg #[.int .i64 0, .string (⟨#[97]⟩ : ByteArray), .string (⟨#[98]⟩ : ByteArray)], .string (⟨#[98]⟩ : ByteArray)] rfl (by (try simp only [List.map_toArray, List.map_cons, List.map_nil]); first | done | rfl | (simp only [List.length_drop, List.length_take]; rfl)) ?_; (with_reducible refine (impl_MatchValue.calls 0 (⟨#[97]⟩ : ByteArray) (⟨#[98]⟩ : ByteArray) (⟨#[98]⟩ : ByteArray) t128 _ A17.out).mono ?_); rintro e w18 ⟨rfl, hb⟩; refine ⟨_, rfl, ?_⟩; have n0_ := Aside0.mk (blk_below (g := gb126) (o := .cells #[.int .i64 a0_0, .string a0_1, .string a0_2] 30 (0, 0)) (by (with_reducible repeat (first | refine blk_drewN ?_ _ | refine blk_drew ?_ | refine blk_alloc ?_ _)); exact BK126.out) hb); have n1_ := Aside0.mk (below_step (by repeat (first | (with_reducible first | exact HB.out | apply below_alloc | apply pw_below_drewN | apply below_drew1 | refine below_set ?_ GE126.out) | exact HB.out)) hb); clear BK126; clear HB; have BK126 := n0_; have HB := n1_; clear n0_ n1_; (try clear hb); (try clear hb2); (try clear hk); (try clear hi)))
              go_ret
              exact ⟨by first | rfl | (simp [errW_none, errW_some] <;> rfl) | (simp [*, errW_none, errW_some] <;> rfl), by repeat (first | (with_reducible first | exact HB.out | apply below_alloc | apply pw_below_drewN | apply below_drew1 | refine below_set ?_ GE126.out) | exact HB.out)⟩
            · replace c16 := Bool.eq_false_iff.mpr c16
              subst c16
              have H1 : ((impl_MatchValue.f a0_0 a0_1 a0_2 a1).bind fun t129 => ((spec_MatchValue.f kj11 a0_0 a0_1 a0_2 a1).bind fun t130 => (if (t129 == (t130 == 1)) = true then ((impl_MatchValue.f 0 (⟨#[]⟩ : ByteArray) a1 a1).bind fun t131 => (some t131)) else (some false)))) = some r := by rw [if_neg (show ¬ (false = true) by decide)] at H; exact H
              clear H
              have H := H1
              clear H1
              replace H := Option.bind_eq_some_iff.mp H
              obtain ⟨t129, A190, H⟩ := H
              replace H : ((spec_MatchValue.f kj11 a0_0 a0_1 a0_2 a1).bind fun t130 => (if (t129 == (t130 == 1)) = true then ((impl_MatchValue.f 0 (⟨#[]⟩ : ByteArray) a1 a1).bind fun t131 => (some t131)) else (some false))) = some r := H
              have A19 := Aside0.mk A190
              clear A190
              replace H := Option.bind_eq_some_iff.mp H
              obtain ⟨t130, A200, H⟩ := H
              replace H : (if (t129 == (t130 == 1)) = true then ((impl_MatchValue.f 0 (⟨#[]⟩ : ByteArray) a1 a1).bind fun t131 => (some t131)) else (some false)) = some r := H
              have A20 := Aside0.mk A200
              clear A200
              by_cases c21 : (t129 == (t130 == 1)) = true
              · rw [if_pos c21] at H
                have c21b0 : (t129 == (t130 == 1)) = true := c21
                (try (have c21b1 : decide (t129 = (t130 == 1)) = true := by simpa using c21))
                (try (have c21b2 : (t129 == (t130 == 1)) = true := by simpa using c21))
                clear c21
                replace H := Option.bind_eq_some_iff.mp H
                obtain ⟨t131, A220, H⟩ := H
                replace H : (some t131) = some r := H
                have A22 := Aside0.mk A220
                clear A220
                obtain rfl := Option.some.inj H
                try go_wp2
                have n0_ := Aside0.mk (blk_drew BK126.out)
                have n1_ := Aside0.mk (below_drew1 HB.out)
                clear BK126
                clear HB
                have BK126 := n0_
                have HB := n1_
                clear n0_ n1_
                refine start_ (n := 15) (S := fun w' => w'.cell? ⟨gb126, 0, none⟩ = some (.int .i64 a0_0) ∧ w'.cell? ⟨gb126, 1, none⟩ = some (.string a0_1) ∧ w'.cell? ⟨gb126, 2, none⟩ = some (.string a0_2)) (ds := []) #[false, false, false, false, false, false, false, false, false, false, false, false, false, false, false] (by kernel_rfl) rfl rfl ⟨(blk_cell BK126.out 0).trans rfl, (blk_cell BK126.out 1).trans rfl, (blk_cell BK126.out 2).trans rfl⟩ (fun hHeld => ?_); refine with_tabW laws_FnMatchValue.tab5 laws_FnMatchValue.bits5 (fun HT_ HW_ => ?_)
                generalize wc.drew = w23 at BK126 HB hHeld ⊢
                refine pure_ (i := 1) (N := some 24) (v := ?_) (a' := ?_) #[false, true, false, false, false, false, false, false, false, false, false, false, false, false, false] rfl rfl (any_of HT_.out (by kernel_rfl)) (fun _ _ _ h => h) (Or.inl ⟨by rfl, ?_⟩) ?_ ?_
                rotate_left
                · intro w'
                  go_simp
                  with_reducible rfl
                rotate_left
                · simp only [Act.put, List.setIfInBounds_toArray, List.set_cons_zero, List.set_cons_succ, i64_w, i32_w]
                  rfl
                refine pure_ (i := 4) (N := some 27) (v := ?_) (a' := ?_) #[false, true, false, false, true, false, false, false, false, false, false, false, false, false, false] rfl rfl (any_of HT_.out (by kernel_rfl)) (fun _ _ _ h => h) (Or.inl ⟨by rfl, ?_⟩) ?_ ?_
                rotate_left
                · intro w'
                  go_simp
                  with_reducible rfl
                rotate_left
                · simp only [Act.put, List.setIfInBounds_toArray, List.set_cons_zero, List.set_cons_succ, i64_w, i32_w]
                  rfl
                refine take_ (i := 0) (N := some 23) (v := ?_) (a' := ?_) #[true, true, false, false, true, false, false, false, false, false, false, false, false, false, false] rfl rfl (take_ofW HT_.out HW_.out (by kernel_rfl)) (fun _ _ _ h => h) (Or.inl ⟨by rfl, ?_⟩) hHeld ?_ ?_
                rotate_left
                · rintro w' ⟨s0, s1, s2⟩
                  go_simp
                  with_reducible rfl
                rotate_left
                · simp only [Act.put, List.setIfInBounds_toArray, List.set_cons_zero, List.set_cons_succ, i64_w, i32_w]
                  rfl
                refine take_ (i := 3) (N := some 26) (v := ?_) (a' := ?_) #[true, true, false, true, true, false, false, false, false, false, false, false, false, false, false] rfl rfl (take_ofW HT_.out HW_.out (by kernel_rfl)) (fun _ _ _ h => h) (Or.inl ⟨by rfl, ?_⟩) hHeld ?_ ?_
                rotate_left
                · rintro w' ⟨s0, s1, s2⟩
                  go_simp
                  with_reducible rfl
                rotate_left
                · simp only [Act.put, List.setIfInBounds_toArray, List.set_cons_zero, List.set_cons_succ, i64_w, i32_w]
                  rfl
                refine one_ (i := 2) (N := some 25) #[true, true, true, true, true, false, false, false, false, false, false, false, false, false, false] rfl rfl (one_of HT_.out (by kernel_rfl)) (by decide) (fun K hK => ?_)
                refine goes_ Try.func17 (by kernel_rfl) rfl #[.agg #[.int .i64 a0_0, .string a0_1, .string a0_2], .string a1] (by rfl) rfl rfl (by (try simp only [List.map_toArray, List.map_cons, List.map_nil]); first | done | rfl | (simp only [List.length_drop, List.length_take]; rfl)) ?_
                with_reducible refine (impl_MatchValue.calls a0_0 a0_1 a0_2 a1 t129 _ A19.out).mono ?_
                rintro e w24 ⟨rfl, hb⟩
                refine ⟨_, rfl, ?_⟩
                have n0_ := Aside0.mk (blk_below (g := gb126) (o := .cells #[.int .i64 a0_0, .string a0_1, .string a0_2] 30 (0, 0)) (by (with_reducible repeat (first | refine blk_drewN ?_ _ | refine blk_drew ?_ | refine blk_alloc ?_ _)); exact BK126.out) hb)
                have n1_ := Aside0.mk (below_step (by repeat (first | (with_reducible first | exact HB.out | apply below_alloc | apply pw_below_drewN | apply below_drew1 | refine below_set ?_ GE126.out) | exact HB.out)) hb)
                clear BK126
                clear HB
                have BK126 := n0_
                have HB := n1_
                clear n0_ n1_
                (try clear hb)
                (try clear hb2)
                (try clear hk)
                (try clear hi)
                refine hK.out _ _ ⟨(blk_cell BK126.out 0).trans rfl, (blk_cell BK126.out 1).trans rfl, (blk_cell BK126.out 2).trans rfl⟩ (fun hHeld => ?_)
                clear hK K
                refine norm_ (a' := ?_) ?_ ?_
                rotate_left
                · show Act.put _ (some 25) _ = _
                  simp only [Act.put, List.setIfInBounds_toArray, List.set_cons_zero, List.set_cons_succ, i64_w, i32_w]
                  rfl
                refine one_ (i := 5) (N := some 28) #[true, true, true, true, true, true, false, false, false, false, false, false, false, false, false] rfl rfl (one_of HT_.out (by kernel_rfl)) (by decide) (fun K hK => ?_)
                refine goes_ Try.func18 (by kernel_rfl) rfl #[.agg #[.int .i64 a0_0, .string a0_1, .string a0_2], .string a1] (by rfl) rfl rfl (by (try simp only [List.map_toArray, List.map_cons, List.map_nil]); first | done | rfl | (simp only [List.length_drop, List.length_take]; rfl)) ?_
                with_reducible refine (spec_MatchValue.calls kj11 a0_0 a0_1 a0_2 a1 t130 _ A20.out).mono ?_
                rintro e w25 ⟨rfl, hb⟩
                refine ⟨_, rfl, ?_⟩
                have n0_ := Aside0.mk (blk_below (g := gb126) (o := .cells #[.int .i64 a0_0, .string a0_1, .string a0_2] 30 (0, 0)) (by (with_reducible repeat (first | refine blk_drewN ?_ _ | refine blk_drew ?_ | refine blk_alloc ?_ _)); exact BK126.out) hb)
                have n1_ := Aside0.mk (below_step (by repeat (first | (with_reducible first | exact HB.out | apply below_alloc | apply pw_below_drewN | apply below_drew1 | refine below_set ?_ GE126.out) | exact HB.out)) hb)
                clear BK126
                clear HB
                have BK126 := n0_
                have HB := n1_
                clear n0_ n1_
                (try clear hb)
                (try clear hb2)
                (try clear hk)
                (try clear hi)
                refine hK.out _ _ ⟨(blk_cell BK126.out 0).trans rfl, (blk_cell BK126.out 1).trans rfl, (blk_cell BK126.out 2).trans rfl⟩ (fun hHeld => ?_)
                clear hK K
                refine norm_ (a' := ?_) ?_ ?_
                rotate_left
                · show Act.put _ (some 28) _ = _
                  simp only [Act.put, List.setIfInBounds_toArray, List.set_cons_zero, List.set_cons_succ, i64_w, i32_w]
                  rfl
                refine pure_ (i := 6) (N := some 29) (v := ?_) (a' := ?_) #[true, true, true, true, true, true, true, false, false, false, false, false, false, false, false] rfl rfl (any_of HT_.out (by kernel_rfl)) (fun _ _ _ h => h) (Or.inl ⟨by rfl, ?_⟩) ?_ ?_
                rotate_left
                · intro w'
                  go_simp
                  with_reducible rfl
                rotate_left
                · simp only [Act.put, List.setIfInBounds_toArray, List.set_cons_zero, List.set_cons_succ, i64_w, i32_w]
                  rfl
                refine pure_ (i := 7) (N := some 30) (v := ?_) (a' := ?_) #[true, true, true, true, true, true, true, true, false, false, false, false, false, false, false] rfl rfl (any_of HT_.out (by kernel_rfl)) (fun _ _ _ h => h) (Or.inl ⟨by rfl, ?_⟩) ?_ ?_
                rotate_left
                · intro w'
                  go_simp
                  with_reducible rfl
                rotate_left
                · simp only [Act.put, List.setIfInBounds_toArray, List.set_cons_zero, List.set_cons_succ, i64_w, i32_w]
                  rfl
                refine pure_ (i := 8) (N := some 31) (v := ?_) (a' := ?_) #[true, true, true, true, true, true, true, true, true, false, false, false, false, false, false] rfl rfl (any_of HT_.out (by kernel_rfl)) (fun _ _ _ h => h) (Or.inl ⟨by rfl, ?_⟩) ?_ ?_
                rotate_left
                · intro w'
                  go_simp
                  with_reducible rfl
                rotate_left
                · simp only [Act.put, List.setIfInBounds_toArray, List.set_cons_zero, List.set_cons_succ, i64_w, i32_w]
                  rfl
                refine pure_ (i := 9) (N := some 32) (v := ?_) (a' := ?_) #[true, true, true, true, true, true, true, true, true, true, false, false, false, false, false] rfl rfl (any_of HT_.out (by kernel_rfl)) (fun _ _ _ h => h) (Or.inl ⟨by rfl, ?_⟩) ?_ ?_
                rotate_left
                · intro w'
                  go_simp
                  with_reducible rfl
                rotate_left
                · simp only [Act.put, List.setIfInBounds_toArray, List.set_cons_zero, List.set_cons_succ, i64_w, i32_w]
                  rfl
                refine pure_ (i := 10) (N := some 33) (v := ?_) (a' := ?_) #[true, true, true, true, true, true, true, true, true, true, true, false, false, false, false] rfl rfl (any_of HT_.out (by kernel_rfl)) (fun _ _ _ h => h) (Or.inl ⟨by rfl, ?_⟩) ?_ ?_
                rotate_left
                · intro w'
                  go_simp
                  with_reducible rfl
                rotate_left
                · simp only [Act.put, List.setIfInBounds_toArray, List.set_cons_zero, List.set_cons_succ, i64_w, i32_w]
                  rfl
                refine pure_ (i := 11) (N := some 34) (v := ?_) (a' := ?_) #[true, true, true, true, true, true, true, true, true, true, true, true, false, false, false] rfl rfl (any_of HT_.out (by kernel_rfl)) (fun _ _ _ h => h) (Or.inl ⟨by rfl, ?_⟩) ?_ ?_
                rotate_left
                · intro w'
                  go_simp
                  with_reducible rfl
                rotate_left
                · simp only [Act.put, List.setIfInBounds_toArray, List.set_cons_zero, List.set_cons_succ, i64_w, i32_w]
                  rfl
                refine one_ (i := 12) (N := some 35) #[true, true, true, true, true, true, true, true, true, true, true, true, true, false, false] rfl rfl (one_of HT_.out (by kernel_rfl)) (by decide) (fun K hK => ?_)
                refine goes_ Try.func17 (by kernel_rfl) rfl #[.agg #[.int .i64 0, .string (⟨#[]⟩ : ByteArray), .string a1], .string a1] (by rfl) rfl rfl (by (try simp only [List.map_toArray, List.map_cons, List.map_nil]); first | done | rfl | (simp only [List.length_drop, List.length_take]; rfl)) ?_
                with_reducible refine (impl_MatchValue.calls 0 (⟨#[]⟩ : ByteArray) a1 a1 t131 _ A22.out).mono ?_
                rintro e w26 ⟨rfl, hb⟩
                refine ⟨_, rfl, ?_⟩
                have n0_ := Aside0.mk (blk_below (g := gb126) (o := .cells #[.int .i64 a0_0, .string a0_1, .string a0_2] 30 (0, 0)) (by (with_reducible repeat (first | refine blk_drewN ?_ _ | refine blk_drew ?_ | refine blk_alloc ?_ _)); exact BK126.out) hb)
                have n1_ := Aside0.mk (below_step (by repeat (first | (with_reducible first | exact HB.out | apply below_alloc | apply pw_below_drewN | apply below_drew1 | refine below_set ?_ GE126.out) | exact HB.out)) hb)
                clear BK126
                clear HB
                have BK126 := n0_
                have HB := n1_
                clear n0_ n1_
                (try clear hb)
                (try clear hb2)
                (try clear hk)
                (try clear hi)
                refine hK.out _ _ ⟨(blk_cell BK126.out 0).trans rfl, (blk_cell BK126.out 1).trans rfl, (blk_cell BK126.out 2).trans rfl⟩ (fun hHeld => ?_)
                clear hK K
                refine norm_ (a' := ?_) ?_ ?_
                rotate_left
                · show Act.put _ (some 35) _ = _
                  simp only [Act.put, List.setIfInBounds_toArray, List.set_cons_zero, List.set_cons_succ, i64_w, i32_w]
                  rfl
                refine pure_ (i := 13) (N := some 36) (v := ?_) (a' := ?_) #[true, true, true, true, true, true, true, true, true, true, true, true, true, true, false] rfl rfl (any_of HT_.out (by kernel_rfl)) (fun _ _ _ h => h) (Or.inl ⟨by rfl, ?_⟩) ?_ ?_
                rotate_left
                · intro w'
                  go_simp
                  with_reducible rfl
                rotate_left
                · simp only [Act.put, List.setIfInBounds_toArray, List.set_cons_zero, List.set_cons_succ, i64_w, i32_w]
                  rfl
                refine pure_ (i := 14) (N := some 4) (v := ?_) (a' := ?_) #[true, true, true, true, true, true, true, true, true, true, true, true, true, true, true] rfl rfl (any_of HT_.out (by kernel_rfl)) (fun _ _ _ h => h) (Or.inl ⟨by rfl, ?_⟩) ?_ ?_
                rotate_left
                · intro w'
                  go_simp
                  with_reducible rfl
                rotate_left
                · simp only [Act.put, List.setIfInBounds_toArray, List.set_cons_zero, List.set_cons_succ, i64_w, i32_w]
                  rfl
                refine done_ (done_of HT_.out (by kernel_rfl)) ?_
                try go_wp2
                go_ret
                exact ⟨by first | rfl | (simp [errW_none, errW_some] <;> rfl) | (simp [*, errW_none, errW_some] <;> rfl), by repeat (first | (with_reducible first | exact HB.out | apply below_alloc | apply pw_below_drewN | apply below_drew1 | refine below_set ?_ GE126.out) | exact HB.out)⟩
              · rw [if_neg c21] at H
                have c21b0 : (t129 == (t130 == 1)) = false := by simpa using c21
                (try (have c21b1 : decide (t129 = (t130 == 1)) = false := by simpa using c21))
                (try (have c21b2 : (t129 == (t130 == 1)) = false := by simpa using c21))
                (try (have c21b3 : ¬ (t129 = (t130 == 1)) := by simpa using c21))
                clear c21
                obtain rfl := Option.some.inj H
                try go_wp2
                have n0_ := Aside0.mk (blk_drew BK126.out)
                have n1_ := Aside0.mk (below_drew1 HB.out)
                clear BK126
                clear HB
                have BK126 := n0_
                have HB := n1_
                clear n0_ n1_
                refine start_ (n := 15) (S := fun w' => w'.cell? ⟨gb126, 0, none⟩ = some (.int .i64 a0_0) ∧ w'.cell? ⟨gb126, 1, none⟩ = some (.string a0_1) ∧ w'.cell? ⟨gb126, 2, none⟩ = some (.string a0_2)) (ds := []) #[false, false, false, false, false, false, false, false, false, false, false, false, false, false, false] (by kernel_rfl) rfl rfl ⟨(blk_cell BK126.out 0).trans rfl, (blk_cell BK126.out 1).trans rfl, (blk_cell BK126.out 2).trans rfl⟩ (fun hHeld => ?_); refine with_tabW laws_FnMatchValue.tab5 laws_FnMatchValue.bits5 (fun HT_ HW_ => ?_)
                generalize wc.drew = w27 at BK126 HB hHeld ⊢
                refine pure_ (i := 1) (N := some 24) (v := ?_) (a' := ?_) #[false, true, false, false, false, false, false, false, false, false, false, false, false, false, false] rfl rfl (any_of HT_.out (by kernel_rfl)) (fun _ _ _ h => h) (Or.inl ⟨by rfl, ?_⟩) ?_ ?_
                rotate_left
                · intro w'
                  go_simp
                  with_reducible rfl
                rotate_left
                · simp only [Act.put, List.setIfInBounds_toArray, List.set_cons_zero, List.set_cons_succ, i64_w, i32_w]
                  rfl
                refine pure_ (i := 4) (N := some 27) (v := ?_) (a' := ?_) #[false, true, false, false, true, false, false, false, false, false, false, false, false, false, false] rfl rfl (any_of HT_.out (by kernel_rfl)) (fun _ _ _ h => h) (Or.inl ⟨by rfl, ?_⟩) ?_ ?_
                rotate_left
                · intro w'
                  go_simp
                  with_reducible rfl
                rotate_left
                · simp only [Act.put, List.setIfInBounds_toArray, List.set_cons_zero, List.set_cons_succ, i64_w, i32_w]
                  rfl
                refine take_ (i := 0) (N := some 23) (v := ?_) (a' := ?_) #[true, true, false, false, true, false, false, false, false, false, false, false, false, false, false] rfl rfl (take_ofW HT_.out HW_.out (by kernel_rfl)) (fun _ _ _ h => h) (Or.inl ⟨by rfl, ?_⟩) hHeld ?_ ?_
                rotate_left
                · rintro w' ⟨s0, s1, s2⟩
                  go_simp
                  with_reducible rfl
                rotate_left
                · simp only [Act.put, List.setIfInBounds_toArray, List.set_cons_zero, List.set_cons_succ, i64_w, i32_w]
                  rfl
                refine take_ (i := 3) (N := some 26) (v := ?_) (a' := ?_) #[true, true, false, true, true, false, false, false, false, false, false, false, false, false, false] rfl rfl (take_ofW HT_.out HW_.out (by kernel_rfl)) (fun _ _ _ h => h) (Or.inl ⟨by rfl, ?_⟩) hHeld ?_ ?_
                rotate_left
                · rintro w' ⟨s0, s1, s2⟩
                  go_simp
                  with_reducible rfl
                rotate_left
                · simp only [Act.put, List.setIfInBounds_toArray, List.set_cons_zero, List.set_cons_succ, i64_w, i32_w]
                  rfl
                refine one_ (i := 2) (N := some 25) #[true, true, true, true, true, false, false, false, false, false, false, false, false, false, false] rfl rfl (one_of HT_.out (by kernel_rfl)) (by decide) (fun K hK => ?_)
                refine goes_ Try.func17 (by kernel_rfl) rfl #[.agg #[.int .i64 a0_0, .string a0_1, .string a0_2], .string a1] (by rfl) rfl rfl (by (try simp only [List.map_toArray, List.map_cons, List.map_nil]); first | done | rfl | (simp only [List.length_drop, List.length_take]; rfl)) ?_
                with_reducible refine (impl_MatchValue.calls a0_0 a0_1 a0_2 a1 t129 _ A19.out).mono ?_
                rintro e w28 ⟨rfl, hb⟩
                refine ⟨_, rfl, ?_⟩
                have n0_ := Aside0.mk (blk_below (g := gb126) (o := .cells #[.int .i64 a0_0, .string a0_1, .string a0_2] 30 (0, 0)) (by (with_reducible repeat (first | refine blk_drewN ?_ _ | refine blk_drew ?_ | refine blk_alloc ?_ _)); exact BK126.out) hb)
                have n1_ := Aside0.mk (below_step (by repeat (first | (with_reducible first | exact HB.out | apply below_alloc | apply pw_below_drewN | apply below_drew1 | refine below_set ?_ GE126.out) | exact HB.out)) hb)
                clear BK126
                clear HB
                have BK126 := n0_
                have HB := n1_
                clear n0_ n1_
                (try clear hb)
                (try clear hb2)
                (try clear hk)
                (try clear hi)
                refine hK.out _ _ ⟨(blk_cell BK126.out 0).trans rfl, (blk_cell BK126.out 1).trans rfl, (blk_cell BK126.out 2).trans rfl⟩ (fun hHeld => ?_)
                clear hK K
                refine norm_ (a' := ?_) ?_ ?_
                rotate_left
                · show Act.put _ (some 25) _ = _
                  simp only [Act.put, List.setIfInBounds_toArray, List.set_cons_zero, List.set_cons_succ, i64_w, i32_w]
                  rfl
                refine one_ (i := 5) (N := some 28) #[true, true, true, true, true, true, false, false, false, false, false, false, false, false, false] rfl rfl (one_of HT_.out (by kernel_rfl)) (by decide) (fun K hK => ?_)
                refine goes_ Try.func18 (by kernel_rfl) rfl #[.agg #[.int .i64 a0_0, .string a0_1, .string a0_2], .string a1] (by rfl) rfl rfl (by (try simp only [List.map_toArray, List.map_cons, List.map_nil]); first | done | rfl | (simp only [List.length_drop, List.length_take]; rfl)) ?_
                with_reducible refine (spec_MatchValue.calls kj11 a0_0 a0_1 a0_2 a1 t130 _ A20.out).mono ?_
                rintro e w29 ⟨rfl, hb⟩
                refine ⟨_, rfl, ?_⟩
                have n0_ := Aside0.mk (blk_below (g := gb126) (o := .cells #[.int .i64 a0_0, .string a0_1, .string a0_2] 30 (0, 0)) (by (with_reducible repeat (first | refine blk_drewN ?_ _ | refine blk_drew ?_ | refine blk_alloc ?_ _)); exact BK126.out) hb)
                have n1_ := Aside0.mk (below_step (by repeat (first | (with_reducible first | exact HB.out | apply below_alloc | apply pw_below_drewN | apply below_drew1 | refine below_set ?_ GE126.out) | exact HB.out)) hb)
                clear BK126
                clear HB
                have BK126 := n0_
                have HB := n1_
                clear n0_ n1_
                (try clear hb)
                (try clear hb2)
                (try clear hk)
                (try clear hi)
                refine hK.out _ _ ⟨(blk_cell BK126.out 0).trans rfl, (blk_cell BK126.out 1).trans rfl, (blk_cell BK126.out 2).trans rfl⟩ (fun hHeld => ?_)
                clear hK K
                refine norm_ (a' := ?_) ?_ ?_
                rotate_left
                · show Act.put _ (some 28) _ = _
                  simp only [Act.put, List.setIfInBounds_toArray, List.set_cons_zero, List.set_cons_succ, i64_w, i32_w]
                  rfl
                refine pure_ (i := 6) (N := some 29) (v := ?_) (a' := ?_) #[true, true, true, true, true, true, true, false, false, false, false, false, false, false, false] rfl rfl (any_of HT_.out (by kernel_rfl)) (fun _ _ _ h => h) (Or.inl ⟨by rfl, ?_⟩) ?_ ?_
                rotate_left
                · intro w'
                  go_simp
                  with_reducible rfl
                rotate_left
                · simp only [Act.put, List.setIfInBounds_toArray, List.set_cons_zero, List.set_cons_succ, i64_w, i32_w]
                  rfl
                refine pure_ (i := 7) (N := some 30) (v := ?_) (a' := ?_) #[true, true, true, true, true, true, true, true, false, false, false, false, false, false, false] rfl rfl (any_of HT_.out (by kernel_rfl)) (fun _ _ _ h => h) (Or.inl ⟨by rfl, ?_⟩) ?_ ?_
                rotate_left
                · intro w'
                  go_simp
                  with_reducible rfl
                rotate_left
                · simp only [Act.put, List.setIfInBounds_toArray, List.set_cons_zero, List.set_cons_succ, i64_w, i32_w]
                  rfl
                refine pure_ (i := 8) (N := some 31) (v := ?_) (a' := ?_) #[true, true, true, true, true, true, true, true, true, false, false, false, false, false, false] rfl rfl (any_of HT_.out (by kernel_rfl)) (fun _ _ _ h => h) (Or.inl ⟨by rfl, ?_⟩) ?_ ?_
                rotate_left
                · intro w'
                  go_simp
                  with_reducible rfl
                rotate_left
                · simp only [Act.put, List.setIfInBounds_toArray, List.set_cons_zero, List.set_cons_succ, i64_w, i32_w]
                  rfl
                refine pure_ (i := 9) (N := some 32) (v := undef) (a' := ?_) #[true, true, true, true, true, true, true, true, true, true, false, false, false, false, false] rfl rfl (any_of HT_.out (by kernel_rfl)) (fun _ _ _ h => h) (Or.inr ⟨by rfl, rfl⟩) ?_ ?_
                rotate_left
                · simp only [Act.put, List.setIfInBounds_toArray, List.set_cons_zero, List.set_cons_succ, i64_w, i32_w]
                  rfl
                refine pure_ (i := 10) (N := some 33) (v := undef) (a' := ?_) #[true, true, true, true, true, true, true, true, true, true, true, false, false, false, false] rfl rfl (any_of HT_.out (by kernel_rfl)) (fun _ _ _ h => h) (Or.inr ⟨by rfl, rfl⟩) ?_ ?_
                rotate_left
                · simp only [Act.put, List.setIfInBounds_toArray, List.set_cons_zero, List.set_cons_succ, i64_w, i32_w]
                  rfl
                refine pure_ (i := 11) (N := some 34) (v := undef) (a' := ?_) #[true, true, true, true, true, true, true, true, true, true, true, true, false, false, false] rfl rfl (any_of HT_.out (by kernel_rfl)) (fun _ _ _ h => h) (Or.inr ⟨by rfl, rfl⟩) ?_ ?_
                rotate_left
                · simp only [Act.put, List.setIfInBounds_toArray, List.set_cons_zero, List.set_cons_succ, i64_w, i32_w]
                  rfl
                refine pure_ (i := 12) (N := some 35) (v := undef) (a' := ?_) #[true, true, true, true, true, true, true, true, true, true, true, true, true, false, false] rfl rfl (any_of HT_.out (by kernel_rfl)) (fun _ _ _ h => h) (Or.inr ⟨by rfl, rfl⟩) ?_ ?_
                rotate_left
                · simp only [Act.put, List.setIfInBounds_toArray, List.set_cons_zero, List.set_cons_succ, i64_w, i32_w]
                  rfl
                refine pure_ (i := 13) (N := some 36) (v := ?_) (a' := ?_) #[true, true, true, true, true, true, true, true, true, true, true, true, true, true, false] rfl rfl (any_of HT_.out (by kernel_rfl)) (fun _ _ _ h => h) (Or.inl ⟨by rfl, ?_⟩) ?_ ?_
                rotate_left
                · intro w'
                  go_simp
                  with_reducible rfl
                rotate_left
                · simp only [Act.put, List.setIfInBounds_toArray, List.set_cons_zero, List.set_cons_succ, i64_w, i32_w]
                  rfl
                refine pure_ (i := 14) (N := some 4) (v := ?_) (a' := ?_) #[true, true, true, true, true, true, true, true, true, true, true, true, true, true, true] rfl rfl (any_of HT_.out (by kernel_rfl)) (fun _ _ _ h => h) (Or.inl ⟨by rfl, ?_⟩) ?_ ?_
                rotate_left
                · intro w'
                  go_simp
                  with_reducible rfl
                rotate_left
                · simp only [Act.put, List.setIfInBounds_toArray, List.set_cons_zero, List.set_cons_succ, i64_w, i32_w]
                  rfl
                refine done_ (done_of HT_.out (by kernel_rfl)) ?_
                try go_wp2
                go_ret
                exact ⟨by first | rfl | (simp [errW_none, errW_some] <;> rfl) | (simp [*, errW_none, errW_some] <;> rfl), by repeat (first | (with_reducible first | exact HB.out | apply below_alloc | apply pw_below_drewN | apply below_drew1 | refine below_set ?_ GE126.out) | exact HB.out)⟩

end Go.Proofs.Ytbcijcmmpbkkbaa.Q
