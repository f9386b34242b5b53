-- Printed for this seat by wip/pp.py of this repo; nothing here is trusted: Lean checks it.
import Derived.Test.YtkngnoipipnioaaDoorHTabU
import Derived.Test.YtkngnoipipnioaaDoorQ0
import Derived.Test.YtkngnoipipnioaaDoorHClM
import Derived.Test.YtkngnoipipnioaaDoorQEq0
import Derived.Test.YtkngnoipipnioaaDoorQlawshas
import Derived.Test.YtkngnoipipnioaaDoorQB
namespace Go.Proofs.YtkngnoipipnioaaDoor.Q
open Go.RowKit Go.Proofs.YtkngnoipipnioaaDoorW.PrintWords Go.Proofs.YtkngnoipipnioaaDoorW.PrintLast Go.Proofs.YtkngnoipipnioaaDoorW.PrintMore
attribute [local go_sem] max2_int min2_int max_two min_two max_three min_three max_four min_four   -- for this text's walks alone
set_option linter.unusedVariables false
set_option linter.unusedSimpArgs false

attribute [local go_sem high] eqA27
/-! ### laws_FnClassicSingle: function 4 -/
mutual
def laws_FnClassicSingle.j0 : Nat → ByteArray → Bool → Option (Bool)
  | 0, _, _ => none
  | k + 1, x0, x22 => if x22 = true then (some false) else (if (x0.size : Int) > 20000 then (laws_FnClassicSingle.j1 k x0 true) else ((laws_has.f k x0 126).bind fun t203 => (laws_FnClassicSingle.j1 k x0 t203)))
def laws_FnClassicSingle.j1 : Nat → ByteArray → Bool → Option (Bool)
  | 0, _, _ => none
  | k + 1, x0, x29 => if x29 = true then (some true) else ((impl_ClassicMatcher.f x0).bind fun bt204 => ((spec_ClassicMatcher.f k x0).bind fun bt209 => (if bt209.2.2.2 = 1 then (if bt204.2.2.2 = true then (some (bt204.1 == bt209.1 && (bt204.2.1.toList == bt209.2.1.toList && (bt204.2.2.1.toList == bt209.2.2.1.toList)))) else (some false)) else (if bt209.2.2.2 = 0 then (some (!bt204.2.2.2)) else (some true)))))
end
def laws_FnClassicSingle.f (k : Nat) (a0 : ByteArray) : Option (Bool) := if (a0.size : Int) > 2147483647 then (some true) else ((impl_ClassicMatcher.f (⟨#[97, 61, 98]⟩ : ByteArray)).bind fun bt198 => (if bt198.2.2.2 = true then (laws_FnClassicSingle.j0 k a0 (bt198.2.2.1.toList != ([98] : List UInt8))) else (laws_FnClassicSingle.j0 k a0 true)))
theorem laws_FnClassicSingle.mono_l : ∀ k, (∀ y0 y1, LeO (laws_FnClassicSingle.j0 k y0 y1) (laws_FnClassicSingle.j0 (k + 1) y0 y1)) ∧ (∀ y0 y1, LeO (laws_FnClassicSingle.j1 k y0 y1) (laws_FnClassicSingle.j1 (k + 1) y0 y1))
  | 0 => ⟨fun _ _ r h => by simp [laws_FnClassicSingle.j0] at h, fun _ _ r h => by simp [laws_FnClassicSingle.j1] at h⟩
  | k + 1 => by
    obtain ⟨ih0, ih1⟩ := laws_FnClassicSingle.mono_l k
    refine ⟨?_, ?_⟩
    · intro y0 y1
      unfold laws_FnClassicSingle.j0
      repeat' first
      | (with_reducible exact ih0 _ _)
      | (with_reducible exact ih1 _ _)
      | (with_reducible exact laws_has.mono _ _ _)
      | (with_reducible exact spec_ClassicMatcher.mono _ _)
      | (with_reducible exact LeO.refl _)
      | (with_reducible exact LeO.none _)
      | (with_reducible refine LeO.ite ?_ ?_)
      | (with_reducible refine LeO.bind ?_ (fun _ => ?_))
      | exact ih0 _ _
      | exact ih1 _ _
      | exact laws_has.mono _ _ _
      | exact spec_ClassicMatcher.mono _ _
      | exact LeO.none _
      | refine LeO.ite ?_ ?_
      | refine LeO.bind ?_ (fun _ => ?_)
    · intro y0 y1
      unfold laws_FnClassicSingle.j1
      repeat' first
      | (with_reducible exact ih0 _ _)
      | (with_reducible exact ih1 _ _)
      | (with_reducible exact laws_has.mono _ _ _)
      | (with_reducible exact spec_ClassicMatcher.mono _ _)
      | (with_reducible exact LeO.refl _)
      | (with_reducible exact LeO.none _)
      | (with_reducible refine LeO.ite ?_ ?_)
      | (with_reducible refine LeO.bind ?_ (fun _ => ?_))
      | exact ih0 _ _
      | exact ih1 _ _
      | exact laws_has.mono _ _ _
      | exact spec_ClassicMatcher.mono _ _
      | exact LeO.none _
      | refine LeO.ite ?_ ?_
      | refine LeO.bind ?_ (fun _ => ?_)
theorem laws_FnClassicSingle.mono : ∀ a0 k, LeO (laws_FnClassicSingle.f k a0) (laws_FnClassicSingle.f (k + 1) a0) := by
  intro a0 k
  obtain ⟨ih0, ih1⟩ := laws_FnClassicSingle.mono_l k
  unfold laws_FnClassicSingle.f
  repeat' first
      | (with_reducible exact ih0 _ _)
      | (with_reducible exact ih1 _ _)
      | (with_reducible exact laws_has.mono _ _ _)
      | (with_reducible exact spec_ClassicMatcher.mono _ _)
      | (with_reducible exact LeO.refl _)
      | (with_reducible exact LeO.none _)
      | (with_reducible refine LeO.ite ?_ ?_)
      | (with_reducible refine LeO.bind ?_ (fun _ => ?_))
      | exact ih0 _ _
      | exact ih1 _ _
      | exact laws_has.mono _ _ _
      | exact spec_ClassicMatcher.mono _ _
      | exact LeO.none _
      | refine LeO.ite ?_ ?_
      | refine LeO.bind ?_ (fun _ => ?_)
set_option maxHeartbeats 8000000 in
set_option maxRecDepth 100000 in
theorem laws_FnClassicSingle.calls (k : Nat) (a0 : ByteArray) (r : Bool) (w : World) (tb : TBu w) (h : laws_FnClassicSingle.f k a0 = some r) :
    Calls Tryd.prog 4 #[.string a0] w fun e w' => e = .returned (.bool r) ∧ Below w.heap.size w w' := by
  have hu27 := Tryd.underlying27
  have hu32 := Tryd.underlying32
  have HB := Aside0.mk (Below.refl w.heap.size w)
  have TB0 := Aside0.mk tb
  clear tb
  have H : (if (a0.size : Int) > 2147483647 then (some true) else ((impl_ClassicMatcher.f (⟨#[97, 61, 98]⟩ : ByteArray)).bind fun bt198 => (if bt198.2.2.2 = true then (laws_FnClassicSingle.j0 k a0 (bt198.2.2.1.toList != ([98] : List UInt8))) else (laws_FnClassicSingle.j0 k a0 true)))) = some r := h
  clear h
  by_cases c2 : (a0.size : Int) > 2147483647
  · rw [if_pos c2] at H
    have c2b0 : decide (2147483647 < (a0.size : Int)) = true := decide_eq_true c2
    have c2b1 : decide (2147483647 < a0.size) = true := decide_eq_true (by omega)
    clear c2
    obtain rfl := Option.some.inj H
    go_enter Tryd.func4, Tryd.ntmps4
    go_wp2
    go_ret
    exact ⟨by first | rfl | (simp [errW_none, errW_some] <;> rfl) | (simp [*, errW_none, errW_some] <;> rfl) | (simp [*, q_isEmpty]; done) | (simp [*]; exact q_gt _ _ (by assumption)), by repeat (first | (with_reducible first | exact HB.out | apply below_alloc | apply pw_below_drewN | apply below_drew1) | exact HB.out)⟩
  · rw [if_neg c2] at H
    have c2b0 : decide (2147483647 < (a0.size : Int)) = false := decide_eq_false c2
    have c2b1 : decide (2147483647 < a0.size) = false := decide_eq_false (by omega)
    clear c2
    replace H := Option.bind_eq_some_iff.mp H
    obtain ⟨⟨t198, t199, t200, t201⟩, A30, H⟩ := H
    replace H : (if t201 = true then (laws_FnClassicSingle.j0 k a0 (t200.toList != ([98] : List UInt8))) else (laws_FnClassicSingle.j0 k a0 true)) = some r := H
    have A3 := Aside0.mk A30
    clear A30
    have HC4 := Aside0.mk H
    clear H
    go_enter Tryd.func4, Tryd.ntmps4
    go_upto_region 4 with (first | ((with_reducible refine gate_callee (f := 9) rfl ?_); refine goesL_ (some 13) rfl rfl Tryd.func9 (by kernel_rfl) rfl #[.string (⟨#[97, 61, 98]⟩ : ByteArray)] rfl (by (try simp only [List.map_toArray, List.map_cons, List.map_nil]); first | done | rfl | (simp only [List.length_drop, List.length_take]; rfl)) ?_; (with_reducible refine (impl_ClassicMatcher.calls (⟨#[97, 61, 98]⟩ : ByteArray) t198 t199 t200 t201 _ (TBu.below TB0.out (by repeat (first | (with_reducible first | exact HB.out | apply below_alloc | apply pw_below_drewN | apply below_drew1) | exact HB.out))) A3.out).mono ?_); rintro e w5 ⟨rfl, hb⟩; refine ⟨_, rfl, ?_⟩; have n0_ := Aside0.mk (below_step (by repeat (first | (with_reducible first | exact HB.out | apply below_alloc | apply pw_below_drewN | apply below_drew1) | exact HB.out)) hb); clear HB; have HB := n0_; clear n0_; (try clear hb); (try clear hb2); (try clear hk); (try clear hi)) | ((with_reducible refine gate_dst (N := 3) rfl ?_); refine box_event ?hg (N := 3) ?hd (cs := #[.int .i64 0, .string (⟨#[]⟩ : ByteArray), .string (⟨#[]⟩ : ByteArray)]) (t := 27) ?hr ?_; (case hd => rfl); (case hg => rfl); (case hr => first | (go_simp; done) | (go_simp; rfl)); intro gb202 hg w6 hbox hb; have n0_ := Aside0.mk (below_step (by repeat (first | (with_reducible first | exact HB.out | apply below_alloc | apply pw_below_drewN | apply below_drew1) | exact HB.out)) hb); have n1_ := Aside0.mk (hbox); have n2_ := Aside0.mk ((by rw [hg]; exact (below_size (by repeat (first | (with_reducible first | exact HB.out | apply below_alloc | apply pw_below_drewN | apply below_drew1) | exact HB.out))) : w.heap.size ≤ gb202)); have n3_ := Aside0.mk ((by rw [hg]; exact (below_size (by repeat (first | (with_reducible first | exact HB.out | apply below_alloc | apply pw_below_drewN | apply below_drew1) | exact HB.out))) : w.heap.size ≤ gb202)); clear HB; have HB := n0_; have BK202 := n1_; have GW202 := n2_; have GE202 := n3_; clear n0_ n1_ n2_ n3_; clear hb hbox hg; have hcz7_0 : w6.cell? ⟨gb202, 0, none⟩ = some (.int .i64 0) := (blk_cell BK202.out 0).trans rfl; have hcz7_1 : w6.cell? ⟨gb202, 1, none⟩ = some (.string (⟨#[]⟩ : ByteArray)) := (blk_cell BK202.out 1).trans rfl; have hcz7_2 : w6.cell? ⟨gb202, 2, none⟩ = some (.string (⟨#[]⟩ : ByteArray)) := (blk_cell BK202.out 2).trans rfl; have hfz7_0 := blk_frozen BK202.out 0; have hfz7_1 := blk_frozen BK202.out 1; have hfz7_2 := blk_frozen BK202.out 2))
    (try simp only [Act.put, List.setIfInBounds_toArray, List.set_cons_zero, List.set_cons_succ])
    go_cut [22] (fun v22 wc => ∃ (kq : Nat) (x22_3 : Bool), v22 = .bool x22_3 ∧ Aside0 (laws_FnClassicSingle.j0 kq a0 x22_3 = some r) ∧ Aside0 (kq ≤ k) ∧ Aside0 (wc.heap[gb202]? = some (.cells #[.int .i64 t198, .string t199, .string t200] 27 (0, 0))) ∧ Aside0 (Below w.heap.size w wc))
    case first =>
      have H := HC4.out
      clear HC4
      by_cases c8 : t201 = true
      · subst c8
        have H1 : (laws_FnClassicSingle.j0 k a0 (t200.toList != ([98] : List UInt8))) = some r := by rw [if_pos rfl] at H; exact H
        clear H
        have H := H1
        clear H1
        have H' := Aside0.mk H
        clear H
        have hcz9_0 : w6.cell? ⟨gb202, 0, none⟩ = some (.int .i64 0) := (blk_cell BK202.out 0).trans rfl
        have hcz9_1 : w6.cell? ⟨gb202, 1, none⟩ = some (.string (⟨#[]⟩ : ByteArray)) := (blk_cell BK202.out 1).trans rfl
        have hcz9_2 : w6.cell? ⟨gb202, 2, none⟩ = some (.string (⟨#[]⟩ : ByteArray)) := (blk_cell BK202.out 2).trans rfl
        have hfz9_0 := blk_frozen BK202.out 0
        have hfz9_1 := blk_frozen BK202.out 1
        have hfz9_2 := blk_frozen BK202.out 2
        go_wp2
        go_meet
        case rel => exact ⟨_, ((t200.toList != ([98] : List UInt8))), (by first | rfl | (simp; done) | (simp [*]; done) | (simp [*, q_isEmpty]; done) | (simp [*]; exact q_gt _ _ (by assumption))), H', ⟨by first | omega | exact Nat.le_refl _⟩, ⟨by (with_reducible repeat (first | refine blk_drewN ?_ _ | refine blk_drew ?_ | refine blk_alloc ?_ _)); refine blk_put (cs := #[.int .i64 t198, .string t199, .string (⟨#[]⟩ : ByteArray)]) ?_ 2 _ rfl; (with_reducible repeat (first | refine blk_drewN ?_ _ | refine blk_drew ?_ | refine blk_alloc ?_ _)); refine blk_put (cs := #[.int .i64 t198, .string (⟨#[]⟩ : ByteArray), .string (⟨#[]⟩ : ByteArray)]) ?_ 1 _ rfl; (with_reducible repeat (first | refine blk_drewN ?_ _ | refine blk_drew ?_ | refine blk_alloc ?_ _)); refine blk_put (cs := #[.int .i64 0, .string (⟨#[]⟩ : ByteArray), .string (⟨#[]⟩ : ByteArray)]) ?_ 0 _ rfl; (with_reducible repeat (first | refine blk_drewN ?_ _ | refine blk_drew ?_ | refine blk_alloc ?_ _)); exact BK202.out⟩, ⟨by repeat (first | (with_reducible first | exact HB.out | apply below_alloc | apply pw_below_drewN | apply below_drew1 | refine below_set ?_ GE202.out) | exact HB.out)⟩⟩
      · replace c8 := Bool.eq_false_iff.mpr c8
        subst c8
        have H1 : (laws_FnClassicSingle.j0 k a0 true) = some r := by rw [if_neg (show ¬ (false = true) by decide)] at H; exact H
        clear H
        have H := H1
        clear H1
        have H' := Aside0.mk H
        clear H
        go_wp2
        go_meet
        case rel => exact ⟨_, (true), (by first | rfl | (simp; done) | (simp [*]; done) | (simp [*, q_isEmpty]; done) | (simp [*]; exact q_gt _ _ (by assumption))), H', ⟨by first | omega | exact Nat.le_refl _⟩, ⟨by (with_reducible repeat (first | refine blk_drewN ?_ _ | refine blk_drew ?_ | refine blk_alloc ?_ _)); refine blk_put (cs := #[.int .i64 t198, .string t199, .string (⟨#[]⟩ : ByteArray)]) ?_ 2 _ rfl; (with_reducible repeat (first | refine blk_drewN ?_ _ | refine blk_drew ?_ | refine blk_alloc ?_ _)); refine blk_put (cs := #[.int .i64 t198, .string (⟨#[]⟩ : ByteArray), .string (⟨#[]⟩ : ByteArray)]) ?_ 1 _ rfl; (with_reducible repeat (first | refine blk_drewN ?_ _ | refine blk_drew ?_ | refine blk_alloc ?_ _)); refine blk_put (cs := #[.int .i64 0, .string (⟨#[]⟩ : ByteArray), .string (⟨#[]⟩ : ByteArray)]) ?_ 0 _ rfl; (with_reducible repeat (first | refine blk_drewN ?_ _ | refine blk_drew ?_ | refine blk_alloc ?_ _)); exact BK202.out⟩, ⟨by repeat (first | (with_reducible first | exact HB.out | apply below_alloc | apply pw_below_drewN | apply below_drew1 | refine below_set ?_ GE202.out) | exact HB.out)⟩⟩
    case rest =>
      clear HC4
      try clear c2
      try clear c2b0
      try clear c2b1
      try clear p2
      try clear c4
      try clear c8
      try clear c9
      try clear hcz7_0
      try clear hcz7_1
      try clear hcz7_2
      try clear hcz9_0
      try clear hcz9_1
      try clear hcz9_2
      try clear hfz7_0
      try clear hfz7_1
      try clear hfz7_2
      try clear hfz9_0
      try clear hfz9_1
      try clear hfz9_2
      obtain ⟨kq, x22_3, rfl, HA, HJ3, BK202, HB⟩ := hcut
      cases kq with
      | zero => exact absurd HA.out (by simp [laws_FnClassicSingle.j0])
      | succ kj3 =>
        have H := HA.out
        clear HA
        simp only [laws_FnClassicSingle.j0] at H
        by_cases c10 : x22_3 = true
        · subst c10
          have H1 : (some false) = some r := by rw [if_pos rfl] at H; exact H
          clear H
          have H := H1
          clear H1
          obtain rfl := Option.some.inj H
          go_wp2
          go_ret
          exact ⟨by first | rfl | (simp [errW_none, errW_some] <;> rfl) | (simp [*, errW_none, errW_some] <;> rfl) | (simp [*, q_isEmpty]; done) | (simp [*]; exact q_gt _ _ (by assumption)), by repeat (first | (with_reducible first | exact HB.out | apply below_alloc | apply pw_below_drewN | apply below_drew1 | refine below_set ?_ GE202.out) | exact HB.out)⟩
        · replace c10 := Bool.eq_false_iff.mpr c10
          subst c10
          have H1 : (if (a0.size : Int) > 20000 then (laws_FnClassicSingle.j1 kj3 a0 true) else ((laws_has.f kj3 a0 126).bind fun t203 => (laws_FnClassicSingle.j1 kj3 a0 t203))) = some r := by rw [if_neg (show ¬ (false = true) by decide)] at H; exact H
          clear H
          have H := H1
          clear H1
          have HC11 := Aside0.mk H
          clear H
          go_upto_region 6 with (fail)
          go_cut [29] (fun v29 wc => ∃ (kq : Nat) (x29_10 : Bool), v29 = .bool x29_10 ∧ Aside0 (laws_FnClassicSingle.j1 kq a0 x29_10 = some r) ∧ Aside0 (kq ≤ kj3) ∧ Aside0 (wc.heap[gb202]? = some (.cells #[.int .i64 t198, .string t199, .string t200] 27 (0, 0))) ∧ Aside0 (Below w.heap.size w wc))
          case first =>
            have H := HC11.out
            clear HC11
            by_cases c12 : (a0.size : Int) > 20000
            · rw [if_pos c12] at H
              have c12b0 : decide (20000 < (a0.size : Int)) = true := decide_eq_true c12
              have c12b1 : decide (20000 < a0.size) = true := decide_eq_true (by omega)
              clear c12
              (first | rw [c12b0] | (simp only [i64_w, i32_w]; rw [c12b0]) | skip)
              have H' := Aside0.mk H
              clear H
              go_wp2
              go_meet
              case rel => exact ⟨_, (true), (by first | rfl | (simp; done) | (simp [*]; done) | (simp [*, q_isEmpty]; done) | (simp [*]; exact q_gt _ _ (by assumption))), H', ⟨by have := HJ3.out; first | omega | exact Nat.le_refl _⟩, ⟨by (with_reducible repeat (first | refine blk_drewN ?_ _ | refine blk_drew ?_ | refine blk_alloc ?_ _)); exact BK202.out⟩, ⟨by repeat (first | (with_reducible first | exact HB.out | apply below_alloc | apply pw_below_drewN | apply below_drew1 | refine below_set ?_ GE202.out) | exact HB.out)⟩⟩
            · rw [if_neg c12] at H
              have c12b0 : decide (20000 < (a0.size : Int)) = false := decide_eq_false c12
              have c12b1 : decide (20000 < a0.size) = false := decide_eq_false (by omega)
              clear c12
              (first | rw [c12b0] | (simp only [i64_w, i32_w]; rw [c12b0]) | skip)
              replace H := Option.bind_eq_some_iff.mp H
              obtain ⟨t203, A130, H⟩ := H
              replace H : (laws_FnClassicSingle.j1 kj3 a0 t203) = some r := H
              have A13 := Aside0.mk A130
              clear A130
              have H' := Aside0.mk H
              clear H
              go_wp2_with (first | (go_at_call 10; (with_reducible refine (laws_has.calls kj3 a0 126 t203 _ A13.out).mono ?_); rintro e w' ⟨rfl, ⟨nd, rfl⟩⟩))
              go_meet
              case rel => exact ⟨_, (t203), (by first | rfl | (simp; done) | (simp [*]; done) | (simp [*, q_isEmpty]; done) | (simp [*]; exact q_gt _ _ (by assumption))), H', ⟨by have := HJ3.out; first | omega | exact Nat.le_refl _⟩, ⟨by (with_reducible repeat (first | refine blk_drewN ?_ _ | refine blk_drew ?_ | refine blk_alloc ?_ _)); exact BK202.out⟩, ⟨by repeat (first | (with_reducible first | exact HB.out | apply below_alloc | apply pw_below_drewN | apply below_drew1 | refine below_set ?_ GE202.out) | exact HB.out)⟩⟩
          case rest =>
            clear HC11
            try clear c1
            try clear c2
            try clear c2b0
            try clear c2b1
            try clear p2
            try clear c4
            try clear c8
            try clear c9
            try clear c10
            try clear c12
            try clear c12b0
            try clear c12b1
            try clear hcz7_0
            try clear hcz7_1
            try clear hcz7_2
            try clear hcz9_0
            try clear hcz9_1
            try clear hcz9_2
            try clear hfz7_0
            try clear hfz7_1
            try clear hfz7_2
            try clear hfz9_0
            try clear hfz9_1
            try clear hfz9_2
            try clear p2
            obtain ⟨kq, x29_10, rfl, HA, HJ10, BK202, HB⟩ := hcut
            cases kq with
            | zero => exact absurd HA.out (by simp [laws_FnClassicSingle.j1])
            | succ kj10 =>
              have H := HA.out
              clear HA
              simp only [laws_FnClassicSingle.j1] at H
              by_cases c14 : x29_10 = true
              · subst c14
                have H1 : (some true) = some r := by rw [if_pos rfl] at H; exact H
                clear H
                have H := H1
                clear H1
                obtain rfl := Option.some.inj H
                go_wp2
                go_ret
                exact ⟨by first | rfl | (simp [errW_none, errW_some] <;> rfl) | (simp [*, errW_none, errW_some] <;> rfl) | (simp [*, q_isEmpty]; done) | (simp [*]; exact q_gt _ _ (by assumption)), by repeat (first | (with_reducible first | exact HB.out | apply below_alloc | apply pw_below_drewN | apply below_drew1 | refine below_set ?_ GE202.out) | exact HB.out)⟩
              · replace c14 := Bool.eq_false_iff.mpr c14
                subst c14
                have H1 : ((impl_ClassicMatcher.f a0).bind fun bt204 => ((spec_ClassicMatcher.f kj10 a0).bind fun bt209 => (if bt209.2.2.2 = 1 then (if bt204.2.2.2 = true then (some (bt204.1 == bt209.1 && (bt204.2.1.toList == bt209.2.1.toList && (bt204.2.2.1.toList == bt209.2.2.1.toList)))) else (some false)) else (if bt209.2.2.2 = 0 then (some (!bt204.2.2.2)) else (some true))))) = some r := by rw [if_neg (show ¬ (false = true) by decide)] at H; exact H
                clear H
                have H := H1
                clear H1
                replace H := Option.bind_eq_some_iff.mp H
                obtain ⟨⟨t204, t205, t206, t207⟩, A150, H⟩ := H
                replace H : ((spec_ClassicMatcher.f kj10 a0).bind fun bt209 => (if bt209.2.2.2 = 1 then (if t207 = true then (some (t204 == bt209.1 && (t205.toList == bt209.2.1.toList && (t206.toList == bt209.2.2.1.toList)))) else (some false)) else (if bt209.2.2.2 = 0 then (some (!t207)) else (some true)))) = some r := H
                have A15 := Aside0.mk A150
                clear A150
                replace H := Option.bind_eq_some_iff.mp H
                obtain ⟨⟨t209, t210, t211, t212⟩, A160, H⟩ := H
                replace H : (if t212 = 1 then (if t207 = true then (some (t204 == t209 && (t205.toList == t210.toList && (t206.toList == t211.toList)))) else (some false)) else (if t212 = 0 then (some (!t207)) else (some true))) = some r := H
                have A16 := Aside0.mk A160
                clear A160
                by_cases c17 : t212 = 1
                · rw [if_pos c17] at H
                  have c17b0 : (t212 == 1) = true := beq_iff_eq.mpr c17
                  have c17b1 : (t212 != 1) = false := bne_eq_false_iff_eq.mpr c17
                  clear c17
                  by_cases c18 : t207 = true
                  · subst c18
                    have H1 : (some (t204 == t209 && (t205.toList == t210.toList && (t206.toList == t211.toList)))) = some r := by rw [if_pos rfl] at H; exact H
                    clear H
                    have H := H1
                    clear H1
                    obtain rfl := Option.some.inj H
                    go_wp2_with (first | ((with_reducible refine gate_callee (f := 9) rfl ?_); refine goesL_ (some 32) rfl rfl Tryd.func9 (by kernel_rfl) rfl #[.string a0] rfl (by (try simp only [List.map_toArray, List.map_cons, List.map_nil]); first | done | rfl | (simp only [List.length_drop, List.length_take]; rfl)) ?_; (with_reducible refine (impl_ClassicMatcher.calls a0 t204 t205 t206 true _ (TBu.below TB0.out (by repeat (first | (with_reducible first | exact HB.out | apply below_alloc | apply pw_below_drewN | apply below_drew1) | exact HB.out))) A15.out).mono ?_); rintro e w19 ⟨rfl, hb⟩; refine ⟨_, rfl, ?_⟩; have n0_ := Aside0.mk (blk_below (g := gb202) (o := .cells #[.int .i64 t198, .string t199, .string t200] 27 (0, 0)) (by (with_reducible repeat (first | refine blk_drewN ?_ _ | refine blk_drew ?_ | refine blk_alloc ?_ _)); exact BK202.out) hb); have n1_ := Aside0.mk (below_step (by repeat (first | (with_reducible first | exact HB.out | apply below_alloc | apply pw_below_drewN | apply below_drew1 | refine below_set ?_ GE202.out) | exact HB.out)) hb); clear BK202; clear HB; have BK202 := n0_; have HB := n1_; clear n0_ n1_; (try clear hb); (try clear hb2); (try clear hk); (try clear hi)) | ((with_reducible refine gate_dst (N := 5) rfl ?_); refine box_event ?hg (N := 5) ?hd (cs := #[.int .i64 0, .string (⟨#[]⟩ : ByteArray), .string (⟨#[]⟩ : ByteArray)]) (t := 27) ?hr ?_; (case hd => rfl); (case hg => rfl); (case hr => first | (go_simp; done) | (go_simp; rfl)); intro gb208 hg w20 hbox hb; have n0_ := Aside0.mk (blk_below (g := gb202) (o := .cells #[.int .i64 t198, .string t199, .string t200] 27 (0, 0)) (by (with_reducible repeat (first | refine blk_drewN ?_ _ | refine blk_drew ?_ | refine blk_alloc ?_ _)); exact BK202.out) hb); have n1_ := Aside0.mk (below_step (by repeat (first | (with_reducible first | exact HB.out | apply below_alloc | apply pw_below_drewN | apply below_drew1 | refine below_set ?_ GE202.out) | exact HB.out)) hb); have n2_ := Aside0.mk (hbox); have n3_ := Aside0.mk ((by rw [hg]; exact (below_size (by repeat (first | (with_reducible first | exact HB.out | apply below_alloc | apply pw_below_drewN | apply below_drew1 | refine below_set ?_ GE202.out) | exact HB.out))) : w.heap.size ≤ gb208)); have n4_ := Aside0.mk ((by rw [hg]; exact (below_size (by repeat (first | (with_reducible first | exact HB.out | apply below_alloc | apply pw_below_drewN | apply below_drew1 | refine below_set ?_ GE202.out) | exact HB.out))) : w.heap.size ≤ gb208)); have n5_ := Aside0.mk ((by rw [hg]; exact Nat.ne_of_lt (blk_lt (g := gb202) (o := .cells #[.int .i64 t198, .string t199, .string t200] 27 (0, 0)) (by (with_reducible repeat (first | refine blk_drewN ?_ _ | refine blk_drew ?_ | refine blk_alloc ?_ _)); exact BK202.out)) : gb202 ≠ gb208)); have n6_ := Aside0.mk ((by rw [hg]; exact Nat.ne_of_gt (blk_lt (g := gb202) (o := .cells #[.int .i64 t198, .string t199, .string t200] 27 (0, 0)) (by (with_reducible repeat (first | refine blk_drewN ?_ _ | refine blk_drew ?_ | refine blk_alloc ?_ _)); exact BK202.out)) : gb208 ≠ gb202)); clear BK202; clear HB; have BK202 := n0_; have HB := n1_; have BK208 := n2_; have GW208 := n3_; have GE208 := n4_; have NB202_208 := n5_; have NB208_202 := n6_; clear n0_ n1_ n2_ n3_ n4_ n5_ n6_; clear hb hbox hg; have hnb21 := NB208_202.out; have hnc21 := NB202_208.out; have hcz22_0 : w20.cell? ⟨gb208, 0, none⟩ = some (.int .i64 0) := (blk_cell BK208.out 0).trans rfl; have hcz22_1 : w20.cell? ⟨gb208, 1, none⟩ = some (.string (⟨#[]⟩ : ByteArray)) := (blk_cell BK208.out 1).trans rfl; have hcz22_2 : w20.cell? ⟨gb208, 2, none⟩ = some (.string (⟨#[]⟩ : ByteArray)) := (blk_cell BK208.out 2).trans rfl; have hfz22_0 := blk_frozen BK208.out 0; have hfz22_1 := blk_frozen BK208.out 1; have hfz22_2 := blk_frozen BK208.out 2) | ((with_reducible refine gate_callee (f := 11) rfl ?_); refine goesL_ (some 37) rfl rfl Tryd.func11 (by kernel_rfl) rfl #[.string a0] rfl (by (try simp only [List.map_toArray, List.map_cons, List.map_nil]); first | done | rfl | (simp only [List.length_drop, List.length_take]; rfl)) ?_; (with_reducible refine (spec_ClassicMatcher.calls kj10 a0 t209 t210 t211 t212 _ A16.out).mono ?_); rintro e w23 ⟨rfl, hb⟩; refine ⟨_, rfl, ?_⟩; have n0_ := Aside0.mk (blk_below (g := gb202) (o := .cells #[.int .i64 t198, .string t199, .string t200] 27 (0, 0)) (by (with_reducible repeat (first | refine blk_drewN ?_ _ | refine blk_drew ?_ | refine blk_alloc ?_ _)); refine blk_far ?_ NB202_208.out _; (with_reducible repeat (first | refine blk_drewN ?_ _ | refine blk_drew ?_ | refine blk_alloc ?_ _)); refine blk_far ?_ NB202_208.out _; (with_reducible repeat (first | refine blk_drewN ?_ _ | refine blk_drew ?_ | refine blk_alloc ?_ _)); refine blk_far ?_ NB202_208.out _; (with_reducible repeat (first | refine blk_drewN ?_ _ | refine blk_drew ?_ | refine blk_alloc ?_ _)); exact BK202.out) hb); have n1_ := Aside0.mk (blk_below (g := gb208) (o := .cells #[.int .i64 t204, .string t205, .string t206] 27 (0, 0)) (by (with_reducible repeat (first | refine blk_drewN ?_ _ | refine blk_drew ?_ | refine blk_alloc ?_ _)); refine blk_put (cs := #[.int .i64 t204, .string t205, .string (⟨#[]⟩ : ByteArray)]) ?_ 2 _ rfl; (with_reducible repeat (first | refine blk_drewN ?_ _ | refine blk_drew ?_ | refine blk_alloc ?_ _)); refine blk_put (cs := #[.int .i64 t204, .string (⟨#[]⟩ : ByteArray), .string (⟨#[]⟩ : ByteArray)]) ?_ 1 _ rfl; (with_reducible repeat (first | refine blk_drewN ?_ _ | refine blk_drew ?_ | refine blk_alloc ?_ _)); refine blk_put (cs := #[.int .i64 0, .string (⟨#[]⟩ : ByteArray), .string (⟨#[]⟩ : ByteArray)]) ?_ 0 _ rfl; (with_reducible repeat (first | refine blk_drewN ?_ _ | refine blk_drew ?_ | refine blk_alloc ?_ _)); exact BK208.out) hb); have n2_ := Aside0.mk (below_step (by repeat (first | (with_reducible first | exact HB.out | apply below_alloc | apply pw_below_drewN | apply below_drew1 | refine below_set ?_ GE202.out | refine below_set ?_ GE208.out) | exact HB.out)) hb); clear BK202; clear BK208; clear HB; have BK202 := n0_; have BK208 := n1_; have HB := n2_; clear n0_ n1_ n2_; (try clear hb); (try clear hb2); (try clear hk); (try clear hi)) | ((with_reducible refine gate_dst (N := 7) rfl ?_); refine box_event ?hg (N := 7) ?hd (cs := #[.int .i64 0, .string (⟨#[]⟩ : ByteArray), .string (⟨#[]⟩ : ByteArray)]) (t := 32) ?hr ?_; (case hd => rfl); (case hg => rfl); (case hr => first | (go_simp; done) | (go_simp; rfl)); intro gb213 hg w24 hbox hb; have n0_ := Aside0.mk (blk_below (g := gb202) (o := .cells #[.int .i64 t198, .string t199, .string t200] 27 (0, 0)) (by (with_reducible repeat (first | refine blk_drewN ?_ _ | refine blk_drew ?_ | refine blk_alloc ?_ _)); exact BK202.out) hb); have n1_ := Aside0.mk (blk_below (g := gb208) (o := .cells #[.int .i64 t204, .string t205, .string t206] 27 (0, 0)) (by (with_reducible repeat (first | refine blk_drewN ?_ _ | refine blk_drew ?_ | refine blk_alloc ?_ _)); exact BK208.out) hb); have n2_ := Aside0.mk (below_step (by repeat (first | (with_reducible first | exact HB.out | apply below_alloc | apply pw_below_drewN | apply below_drew1 | refine below_set ?_ GE202.out | refine below_set ?_ GE208.out) | exact HB.out)) hb); have n3_ := Aside0.mk (hbox); have n4_ := Aside0.mk ((by rw [hg]; exact (below_size (by repeat (first | (with_reducible first | exact HB.out | apply below_alloc | apply pw_below_drewN | apply below_drew1 | refine below_set ?_ GE202.out | refine below_set ?_ GE208.out) | exact HB.out))) : w.heap.size ≤ gb213)); have n5_ := Aside0.mk ((by rw [hg]; exact (below_size (by repeat (first | (with_reducible first | exact HB.out | apply below_alloc | apply pw_below_drewN | apply below_drew1 | refine below_set ?_ GE202.out | refine below_set ?_ GE208.out) | exact HB.out))) : w.heap.size ≤ gb213)); have n6_ := Aside0.mk ((by rw [hg]; exact Nat.ne_of_lt (blk_lt (g := gb202) (o := .cells #[.int .i64 t198, .string t199, .string t200] 27 (0, 0)) (by (with_reducible repeat (first | refine blk_drewN ?_ _ | refine blk_drew ?_ | refine blk_alloc ?_ _)); exact BK202.out)) : gb202 ≠ gb213)); have n7_ := Aside0.mk ((by rw [hg]; exact Nat.ne_of_gt (blk_lt (g := gb202) (o := .cells #[.int .i64 t198, .string t199, .string t200] 27 (0, 0)) (by (with_reducible repeat (first | refine blk_drewN ?_ _ | refine blk_drew ?_ | refine blk_alloc ?_ _)); exact BK202.out)) : gb213 ≠ gb202)); have n8_ := Aside0.mk ((by rw [hg]; exact Nat.ne_of_lt (blk_lt (g := gb208) (o := .cells #[.int .i64 t204, .string t205, .string t206] 27 (0, 0)) (by (with_reducible repeat (first | refine blk_drewN ?_ _ | refine blk_drew ?_ | refine blk_alloc ?_ _)); exact BK208.out)) : gb208 ≠ gb213)); have n9_ := Aside0.mk ((by rw [hg]; exact Nat.ne_of_gt (blk_lt (g := gb208) (o := .cells #[.int .i64 t204, .string t205, .string t206] 27 (0, 0)) (by (with_reducible repeat (first | refine blk_drewN ?_ _ | refine blk_drew ?_ | refine blk_alloc ?_ _)); exact BK208.out)) : gb213 ≠ gb208)); clear BK202; clear BK208; clear HB; have BK202 := n0_; have BK208 := n1_; have HB := n2_; have BK213 := n3_; have GW213 := n4_; have GE213 := n5_; have NB202_213 := n6_; have NB213_202 := n7_; have NB208_213 := n8_; have NB213_208 := n9_; clear n0_ n1_ n2_ n3_ n4_ n5_ n6_ n7_ n8_ n9_; clear hb hbox hg; have hnb25 := NB213_202.out; have hnc25 := NB202_213.out; have hnb26 := NB213_208.out; have hnc26 := NB208_213.out; have hcz27_0 : w24.cell? ⟨gb213, 0, none⟩ = some (.int .i64 0) := (blk_cell BK213.out 0).trans rfl; have hcz27_1 : w24.cell? ⟨gb213, 1, none⟩ = some (.string (⟨#[]⟩ : ByteArray)) := (blk_cell BK213.out 1).trans rfl; have hcz27_2 : w24.cell? ⟨gb213, 2, none⟩ = some (.string (⟨#[]⟩ : ByteArray)) := (blk_cell BK213.out 2).trans rfl; have hfz27_0 := blk_frozen BK213.out 0; have hfz27_1 := blk_frozen BK213.out 1; have hfz27_2 := blk_frozen BK213.out 2; have hcz28_0 : w24.cell? ⟨gb208, 0, none⟩ = some (.int .i64 t204) := (blk_cell BK208.out 0).trans rfl; have hcz28_1 : w24.cell? ⟨gb208, 1, none⟩ = some (.string t205) := (blk_cell BK208.out 1).trans rfl; have hcz28_2 : w24.cell? ⟨gb208, 2, none⟩ = some (.string t206) := (blk_cell BK208.out 2).trans rfl; have hfz28_0 := blk_frozen BK208.out 0; have hfz28_1 := blk_frozen BK208.out 1; have hfz28_2 := blk_frozen BK208.out 2))
                    all_goals go_ret
                    all_goals exact ⟨by first | rfl | (simp [errW_none, errW_some] <;> rfl) | (simp [*, errW_none, errW_some] <;> rfl) | (simp [*, q_isEmpty]; done) | (simp [*]; exact q_gt _ _ (by assumption)), by repeat (first | (with_reducible first | exact HB.out | apply below_alloc | apply pw_below_drewN | apply below_drew1 | refine below_set ?_ GE202.out | refine below_set ?_ GE208.out | refine below_set ?_ GE213.out) | exact HB.out)⟩
                  · replace c18 := Bool.eq_false_iff.mpr c18
                    subst c18
                    have H1 : (some false) = some r := by rw [if_neg (show ¬ (false = true) by decide)] at H; exact H
                    clear H
                    have H := H1
                    clear H1
                    obtain rfl := Option.some.inj H
                    go_wp2_with (first | ((with_reducible refine gate_callee (f := 9) rfl ?_); refine goesL_ (some 32) rfl rfl Tryd.func9 (by kernel_rfl) rfl #[.string a0] rfl (by (try simp only [List.map_toArray, List.map_cons, List.map_nil]); first | done | rfl | (simp only [List.length_drop, List.length_take]; rfl)) ?_; (with_reducible refine (impl_ClassicMatcher.calls a0 t204 t205 t206 false _ (TBu.below TB0.out (by repeat (first | (with_reducible first | exact HB.out | apply below_alloc | apply pw_below_drewN | apply below_drew1) | exact HB.out))) A15.out).mono ?_); rintro e w29 ⟨rfl, hb⟩; refine ⟨_, rfl, ?_⟩; have n0_ := Aside0.mk (blk_below (g := gb202) (o := .cells #[.int .i64 t198, .string t199, .string t200] 27 (0, 0)) (by (with_reducible repeat (first | refine blk_drewN ?_ _ | refine blk_drew ?_ | refine blk_alloc ?_ _)); exact BK202.out) hb); have n1_ := Aside0.mk (below_step (by repeat (first | (with_reducible first | exact HB.out | apply below_alloc | apply pw_below_drewN | apply below_drew1 | refine below_set ?_ GE202.out) | exact HB.out)) hb); clear BK202; clear HB; have BK202 := n0_; have HB := n1_; clear n0_ n1_; (try clear hb); (try clear hb2); (try clear hk); (try clear hi)) | ((with_reducible refine gate_dst (N := 5) rfl ?_); refine box_event ?hg (N := 5) ?hd (cs := #[.int .i64 0, .string (⟨#[]⟩ : ByteArray), .string (⟨#[]⟩ : ByteArray)]) (t := 27) ?hr ?_; (case hd => rfl); (case hg => rfl); (case hr => first | (go_simp; done) | (go_simp; rfl)); intro gb208 hg w30 hbox hb; have n0_ := Aside0.mk (blk_below (g := gb202) (o := .cells #[.int .i64 t198, .string t199, .string t200] 27 (0, 0)) (by (with_reducible repeat (first | refine blk_drewN ?_ _ | refine blk_drew ?_ | refine blk_alloc ?_ _)); exact BK202.out) hb); have n1_ := Aside0.mk (below_step (by repeat (first | (with_reducible first | exact HB.out | apply below_alloc | apply pw_below_drewN | apply below_drew1 | refine below_set ?_ GE202.out) | exact HB.out)) hb); have n2_ := Aside0.mk (hbox); have n3_ := Aside0.mk ((by rw [hg]; exact (below_size (by repeat (first | (with_reducible first | exact HB.out | apply below_alloc | apply pw_below_drewN | apply below_drew1 | refine below_set ?_ GE202.out) | exact HB.out))) : w.heap.size ≤ gb208)); have n4_ := Aside0.mk ((by rw [hg]; exact (below_size (by repeat (first | (with_reducible first | exact HB.out | apply below_alloc | apply pw_below_drewN | apply below_drew1 | refine below_set ?_ GE202.out) | exact HB.out))) : w.heap.size ≤ gb208)); have n5_ := Aside0.mk ((by rw [hg]; exact Nat.ne_of_lt (blk_lt (g := gb202) (o := .cells #[.int .i64 t198, .string t199, .string t200] 27 (0, 0)) (by (with_reducible repeat (first | refine blk_drewN ?_ _ | refine blk_drew ?_ | refine blk_alloc ?_ _)); exact BK202.out)) : gb202 ≠ gb208)); have n6_ := Aside0.mk ((by rw [hg]; exact Nat.ne_of_gt (blk_lt (g := gb202) (o := .cells #[.int .i64 t198, .string t199, .string t200] 27 (0, 0)) (by (with_reducible repeat (first | refine blk_drewN ?_ _ | refine blk_drew ?_ | refine blk_alloc ?_ _)); exact BK202.out)) : gb208 ≠ gb202)); clear BK202; clear HB; have BK202 := n0_; have HB := n1_; have BK208 := n2_; have GW208 := n3_; have GE208 := n4_; have NB202_208 := n5_; have NB208_202 := n6_; clear n0_ n1_ n2_ n3_ n4_ n5_ n6_; clear hb hbox hg; have hnb31 := NB208_202.out; have hnc31 := NB202_208.out; have hcz32_0 : w30.cell? ⟨gb208, 0, none⟩ = some (.int .i64 0) := (blk_cell BK208.out 0).trans rfl; have hcz32_1 : w30.cell? ⟨gb208, 1, none⟩ = some (.string (⟨#[]⟩ : ByteArray)) := (blk_cell BK208.out 1).trans rfl; have hcz32_2 : w30.cell? ⟨gb208, 2, none⟩ = some (.string (⟨#[]⟩ : ByteArray)) := (blk_cell BK208.out 2).trans rfl; have hfz32_0 := blk_frozen BK208.out 0; have hfz32_1 := blk_frozen BK208.out 1; have hfz32_2 := blk_frozen BK208.out 2) | ((with_reducible refine gate_callee (f := 11) rfl ?_); refine goesL_ (some 37) rfl rfl Tryd.func11 (by kernel_rfl) rfl #[.string a0] rfl (by (try simp only [List.map_toArray, List.map_cons, List.map_nil]); first | done | rfl | (simp only [List.length_drop, List.length_take]; rfl)) ?_; (with_reducible refine (spec_ClassicMatcher.calls kj10 a0 t209 t210 t211 t212 _ A16.out).mono ?_); rintro e w33 ⟨rfl, hb⟩; refine ⟨_, rfl, ?_⟩; have n0_ := Aside0.mk (blk_below (g := gb202) (o := .cells #[.int .i64 t198, .string t199, .string t200] 27 (0, 0)) (by (with_reducible repeat (first | refine blk_drewN ?_ _ | refine blk_drew ?_ | refine blk_alloc ?_ _)); refine blk_far ?_ NB202_208.out _; (with_reducible repeat (first | refine blk_drewN ?_ _ | refine blk_drew ?_ | refine blk_alloc ?_ _)); refine blk_far ?_ NB202_208.out _; (with_reducible repeat (first | refine blk_drewN ?_ _ | refine blk_drew ?_ | refine blk_alloc ?_ _)); refine blk_far ?_ NB202_208.out _; (with_reducible repeat (first | refine blk_drewN ?_ _ | refine blk_drew ?_ | refine blk_alloc ?_ _)); exact BK202.out) hb); have n1_ := Aside0.mk (blk_below (g := gb208) (o := .cells #[.int .i64 t204, .string t205, .string t206] 27 (0, 0)) (by (with_reducible repeat (first | refine blk_drewN ?_ _ | refine blk_drew ?_ | refine blk_alloc ?_ _)); refine blk_put (cs := #[.int .i64 t204, .string t205, .string (⟨#[]⟩ : ByteArray)]) ?_ 2 _ rfl; (with_reducible repeat (first | refine blk_drewN ?_ _ | refine blk_drew ?_ | refine blk_alloc ?_ _)); refine blk_put (cs := #[.int .i64 t204, .string (⟨#[]⟩ : ByteArray), .string (⟨#[]⟩ : ByteArray)]) ?_ 1 _ rfl; (with_reducible repeat (first | refine blk_drewN ?_ _ | refine blk_drew ?_ | refine blk_alloc ?_ _)); refine blk_put (cs := #[.int .i64 0, .string (⟨#[]⟩ : ByteArray), .string (⟨#[]⟩ : ByteArray)]) ?_ 0 _ rfl; (with_reducible repeat (first | refine blk_drewN ?_ _ | refine blk_drew ?_ | refine blk_alloc ?_ _)); exact BK208.out) hb); have n2_ := Aside0.mk (below_step (by repeat (first | (with_reducible first | exact HB.out | apply below_alloc | apply pw_below_drewN | apply below_drew1 | refine below_set ?_ GE202.out | refine below_set ?_ GE208.out) | exact HB.out)) hb); clear BK202; clear BK208; clear HB; have BK202 := n0_; have BK208 := n1_; have HB := n2_; clear n0_ n1_ n2_; (try clear hb); (try clear hb2); (try clear hk); (try clear hi)) | ((with_reducible refine gate_dst (N := 7) rfl ?_); refine box_event ?hg (N := 7) ?hd (cs := #[.int .i64 0, .string (⟨#[]⟩ : ByteArray), .string (⟨#[]⟩ : ByteArray)]) (t := 32) ?hr ?_; (case hd => rfl); (case hg => rfl); (case hr => first | (go_simp; done) | (go_simp; rfl)); intro gb213 hg w34 hbox hb; have n0_ := Aside0.mk (blk_below (g := gb202) (o := .cells #[.int .i64 t198, .string t199, .string t200] 27 (0, 0)) (by (with_reducible repeat (first | refine blk_drewN ?_ _ | refine blk_drew ?_ | refine blk_alloc ?_ _)); exact BK202.out) hb); have n1_ := Aside0.mk (blk_below (g := gb208) (o := .cells #[.int .i64 t204, .string t205, .string t206] 27 (0, 0)) (by (with_reducible repeat (first | refine blk_drewN ?_ _ | refine blk_drew ?_ | refine blk_alloc ?_ _)); exact BK208.out) hb); have n2_ := Aside0.mk (below_step (by repeat (first | (with_reducible first | exact HB.out | apply below_alloc | apply pw_below_drewN | apply below_drew1 | refine below_set ?_ GE202.out | refine below_set ?_ GE208.out) | exact HB.out)) hb); have n3_ := Aside0.mk (hbox); have n4_ := Aside0.mk ((by rw [hg]; exact (below_size (by repeat (first | (with_reducible first | exact HB.out | apply below_alloc | apply pw_below_drewN | apply below_drew1 | refine below_set ?_ GE202.out | refine below_set ?_ GE208.out) | exact HB.out))) : w.heap.size ≤ gb213)); have n5_ := Aside0.mk ((by rw [hg]; exact (below_size (by repeat (first | (with_reducible first | exact HB.out | apply below_alloc | apply pw_below_drewN | apply below_drew1 | refine below_set ?_ GE202.out | refine below_set ?_ GE208.out) | exact HB.out))) : w.heap.size ≤ gb213)); have n6_ := Aside0.mk ((by rw [hg]; exact Nat.ne_of_lt (blk_lt (g := gb202) (o := .cells #[.int .i64 t198, .string t199, .string t200] 27 (0, 0)) (by (with_reducible repeat (first | refine blk_drewN ?_ _ | refine blk_drew ?_ | refine blk_alloc ?_ _)); exact BK202.out)) : gb202 ≠ gb213)); have n7_ := Aside0.mk ((by rw [hg]; exact Nat.ne_of_gt (blk_lt (g := gb202) (o := .cells #[.int .i64 t198, .string t199, .string t200] 27 (0, 0)) (by (with_reducible repeat (first | refine blk_drewN ?_ _ | refine blk_drew ?_ | refine blk_alloc ?_ _)); exact BK202.out)) : gb213 ≠ gb202)); have n8_ := Aside0.mk ((by rw [hg]; exact Nat.ne_of_lt (blk_lt (g := gb208) (o := .cells #[.int .i64 t204, .string t205, .string t206] 27 (0, 0)) (by (with_reducible repeat (first | refine blk_drewN ?_ _ | refine blk_drew ?_ | refine blk_alloc ?_ _)); exact BK208.out)) : gb208 ≠ gb213)); have n9_ := Aside0.mk ((by rw [hg]; exact Nat.ne_of_gt (blk_lt (g := gb208) (o := .cells #[.int .i64 t204, .string t205, .string t206] 27 (0, 0)) (by (with_reducible repeat (first | refine blk_drewN ?_ _ | refine blk_drew ?_ | refine blk_alloc ?_ _)); exact BK208.out)) : gb213 ≠ gb208)); clear BK202; clear BK208; clear HB; have BK202 := n0_; have BK208 := n1_; have HB := n2_; have BK213 := n3_; have GW213 := n4_; have GE213 := n5_; have NB202_213 := n6_; have NB213_202 := n7_; have NB208_213 := n8_; have NB213_208 := n9_; clear n0_ n1_ n2_ n3_ n4_ n5_ n6_ n7_ n8_ n9_; clear hb hbox hg; have hnb35 := NB213_202.out; have hnc35 := NB202_213.out; have hnb36 := NB213_208.out; have hnc36 := NB208_213.out; have hcz37_0 : w34.cell? ⟨gb213, 0, none⟩ = some (.int .i64 0) := (blk_cell BK213.out 0).trans rfl; have hcz37_1 : w34.cell? ⟨gb213, 1, none⟩ = some (.string (⟨#[]⟩ : ByteArray)) := (blk_cell BK213.out 1).trans rfl; have hcz37_2 : w34.cell? ⟨gb213, 2, none⟩ = some (.string (⟨#[]⟩ : ByteArray)) := (blk_cell BK213.out 2).trans rfl; have hfz37_0 := blk_frozen BK213.out 0; have hfz37_1 := blk_frozen BK213.out 1; have hfz37_2 := blk_frozen BK213.out 2))
                    go_ret
                    exact ⟨by first | rfl | (simp [errW_none, errW_some] <;> rfl) | (simp [*, errW_none, errW_some] <;> rfl) | (simp [*, q_isEmpty]; done) | (simp [*]; exact q_gt _ _ (by assumption)), by repeat (first | (with_reducible first | exact HB.out | apply below_alloc | apply pw_below_drewN | apply below_drew1 | refine below_set ?_ GE202.out | refine below_set ?_ GE208.out | refine below_set ?_ GE213.out) | exact HB.out)⟩
                · rw [if_neg c17] at H
                  have c17b0 : (t212 == 1) = false := beq_eq_false_iff_ne.mpr c17
                  have c17b1 : (t212 != 1) = true := bne_iff_ne.mpr c17
                  by_cases c38 : t212 = 0
                  · rw [if_pos c38] at H
                    have c38b0 : (t212 == 0) = true := beq_iff_eq.mpr c38
                    have c38b1 : (t212 != 0) = false := bne_eq_false_iff_eq.mpr c38
                    clear c38
                    obtain rfl := Option.some.inj H
                    go_wp2_with (first | ((with_reducible refine gate_callee (f := 9) rfl ?_); refine goesL_ (some 32) rfl rfl Tryd.func9 (by kernel_rfl) rfl #[.string a0] rfl (by (try simp only [List.map_toArray, List.map_cons, List.map_nil]); first | done | rfl | (simp only [List.length_drop, List.length_take]; rfl)) ?_; (with_reducible refine (impl_ClassicMatcher.calls a0 t204 t205 t206 t207 _ (TBu.below TB0.out (by repeat (first | (with_reducible first | exact HB.out | apply below_alloc | apply pw_below_drewN | apply below_drew1) | exact HB.out))) A15.out).mono ?_); rintro e w39 ⟨rfl, hb⟩; refine ⟨_, rfl, ?_⟩; have n0_ := Aside0.mk (blk_below (g := gb202) (o := .cells #[.int .i64 t198, .string t199, .string t200] 27 (0, 0)) (by (with_reducible repeat (first | refine blk_drewN ?_ _ | refine blk_drew ?_ | refine blk_alloc ?_ _)); exact BK202.out) hb); have n1_ := Aside0.mk (below_step (by repeat (first | (with_reducible first | exact HB.out | apply below_alloc | apply pw_below_drewN | apply below_drew1 | refine below_set ?_ GE202.out) | exact HB.out)) hb); clear BK202; clear HB; have BK202 := n0_; have HB := n1_; clear n0_ n1_; (try clear hb); (try clear hb2); (try clear hk); (try clear hi)) | ((with_reducible refine gate_dst (N := 5) rfl ?_); refine box_event ?hg (N := 5) ?hd (cs := #[.int .i64 0, .string (⟨#[]⟩ : ByteArray), .string (⟨#[]⟩ : ByteArray)]) (t := 27) ?hr ?_; (case hd => rfl); (case hg => rfl); (case hr => first | (go_simp; done) | (go_simp; rfl)); intro gb208 hg w40 hbox hb; have n0_ := Aside0.mk (blk_below (g := gb202) (o := .cells #[.int .i64 t198, .string t199, .string t200] 27 (0, 0)) (by (with_reducible repeat (first | refine blk_drewN ?_ _ | refine blk_drew ?_ | refine blk_alloc ?_ _)); exact BK202.out) hb); have n1_ := Aside0.mk (below_step (by repeat (first | (with_reducible first | exact HB.out | apply below_alloc | apply pw_below_drewN | apply below_drew1 | refine below_set ?_ GE202.out) | exact HB.out)) hb); have n2_ := Aside0.mk (hbox); have n3_ := Aside0.mk ((by rw [hg]; exact (below_size (by repeat (first | (with_reducible first | exact HB.out | apply below_alloc | apply pw_below_drewN | apply below_drew1 | refine below_set ?_ GE202.out) | exact HB.out))) : w.heap.size ≤ gb208)); have n4_ := Aside0.mk ((by rw [hg]; exact (below_size (by repeat (first | (with_reducible first | exact HB.out | apply below_alloc | apply pw_below_drewN | apply below_drew1 | refine below_set ?_ GE202.out) | exact HB.out))) : w.heap.size ≤ gb208)); have n5_ := Aside0.mk ((by rw [hg]; exact Nat.ne_of_lt (blk_lt (g := gb202) (o := .cells #[.int .i64 t198, .string t199, .string t200] 27 (0, 0)) (by (with_reducible repeat (first | refine blk_drewN ?_ _ | refine blk_drew ?_ | refine blk_alloc ?_ _)); exact BK202.out)) : gb202 ≠ gb208)); have n6_ := Aside0.mk ((by rw [hg]; exact Nat.ne_of_gt (blk_lt (g := gb202) (o := .cells #[.int .i64 t198, .string t199, .string t200] 27 (0, 0)) (by (with_reducible repeat (first | refine blk_drewN ?_ _ | refine blk_drew ?_ | refine blk_alloc ?_ _)); exact BK202.out)) : gb208 ≠ gb202)); clear BK202; clear HB; have BK202 := n0_; have HB := n1_; have BK208 := n2_; have GW208 := n3_; have GE208 := n4_; have NB202_208 := n5_; have NB208_202 := n6_; clear n0_ n1_ n2_ n3_ n4_ n5_ n6_; clear hb hbox hg; have hnb41 := NB208_202.out; have hnc41 := NB202_208.out; have hcz42_0 : w40.cell? ⟨gb208, 0, none⟩ = some (.int .i64 0) := (blk_cell BK208.out 0).trans rfl; have hcz42_1 : w40.cell? ⟨gb208, 1, none⟩ = some (.string (⟨#[]⟩ : ByteArray)) := (blk_cell BK208.out 1).trans rfl; have hcz42_2 : w40.cell? ⟨gb208, 2, none⟩ = some (.string (⟨#[]⟩ : ByteArray)) := (blk_cell BK208.out 2).trans rfl; have hfz42_0 := blk_frozen BK208.out 0; have hfz42_1 := blk_frozen BK208.out 1; have hfz42_2 := blk_frozen BK208.out 2) | ((with_reducible refine gate_callee (f := 11) rfl ?_); refine goesL_ (some 37) rfl rfl Tryd.func11 (by kernel_rfl) rfl #[.string a0] rfl (by (try simp only [List.map_toArray, List.map_cons, List.map_nil]); first | done | rfl | (simp only [List.length_drop, List.length_take]; rfl)) ?_; (with_reducible refine (spec_ClassicMatcher.calls kj10 a0 t209 t210 t211 t212 _ A16.out).mono ?_); rintro e w43 ⟨rfl, hb⟩; refine ⟨_, rfl, ?_⟩; have n0_ := Aside0.mk (blk_below (g := gb202) (o := .cells #[.int .i64 t198, .string t199, .string t200] 27 (0, 0)) (by (with_reducible repeat (first | refine blk_drewN ?_ _ | refine blk_drew ?_ | refine blk_alloc ?_ _)); refine blk_far ?_ NB202_208.out _; (with_reducible repeat (first | refine blk_drewN ?_ _ | refine blk_drew ?_ | refine blk_alloc ?_ _)); refine blk_far ?_ NB202_208.out _; (with_reducible repeat (first | refine blk_drewN ?_ _ | refine blk_drew ?_ | refine blk_alloc ?_ _)); refine blk_far ?_ NB202_208.out _; (with_reducible repeat (first | refine blk_drewN ?_ _ | refine blk_drew ?_ | refine blk_alloc ?_ _)); exact BK202.out) hb); have n1_ := Aside0.mk (blk_below (g := gb208) (o := .cells #[.int .i64 t204, .string t205, .string t206] 27 (0, 0)) (by (with_reducible repeat (first | refine blk_drewN ?_ _ | refine blk_drew ?_ | refine blk_alloc ?_ _)); refine blk_put (cs := #[.int .i64 t204, .string t205, .string (⟨#[]⟩ : ByteArray)]) ?_ 2 _ rfl; (with_reducible repeat (first | refine blk_drewN ?_ _ | refine blk_drew ?_ | refine blk_alloc ?_ _)); refine blk_put (cs := #[.int .i64 t204, .string (⟨#[]⟩ : ByteArray), .string (⟨#[]⟩ : ByteArray)]) ?_ 1 _ rfl; (with_reducible repeat (first | refine blk_drewN ?_ _ | refine blk_drew ?_ | refine blk_alloc ?_ _)); refine blk_put (cs := #[.int .i64 0, .string (⟨#[]⟩ : ByteArray), .string (⟨#[]⟩ : ByteArray)]) ?_ 0 _ rfl; (with_reducible repeat (first | refine blk_drewN ?_ _ | refine blk_drew ?_ | refine blk_alloc ?_ _)); exact BK208.out) hb); have n2_ := Aside0.mk (below_step (by repeat (first | (with_reducible first | exact HB.out | apply below_alloc | apply pw_below_drewN | apply below_drew1 | refine below_set ?_ GE202.out | refine below_set ?_ GE208.out) | exact HB.out)) hb); clear BK202; clear BK208; clear HB; have BK202 := n0_; have BK208 := n1_; have HB := n2_; clear n0_ n1_ n2_; (try clear hb); (try clear hb2); (try clear hk); (try clear hi)) | ((with_reducible refine gate_dst (N := 7) rfl ?_); refine box_event ?hg (N := 7) ?hd (cs := #[.int .i64 0, .string (⟨#[]⟩ : ByteArray), .string (⟨#[]⟩ : ByteArray)]) (t := 32) ?hr ?_; (case hd => rfl); (case hg => rfl); (case hr => first | (go_simp; done) | (go_simp; rfl)); intro gb213 hg w44 hbox hb; have n0_ := Aside0.mk (blk_below (g := gb202) (o := .cells #[.int .i64 t198, .string t199, .string t200] 27 (0, 0)) (by (with_reducible repeat (first | refine blk_drewN ?_ _ | refine blk_drew ?_ | refine blk_alloc ?_ _)); exact BK202.out) hb); have n1_ := Aside0.mk (blk_below (g := gb208) (o := .cells #[.int .i64 t204, .string t205, .string t206] 27 (0, 0)) (by (with_reducible repeat (first | refine blk_drewN ?_ _ | refine blk_drew ?_ | refine blk_alloc ?_ _)); exact BK208.out) hb); have n2_ := Aside0.mk (below_step (by repeat (first | (with_reducible first | exact HB.out | apply below_alloc | apply pw_below_drewN | apply below_drew1 | refine below_set ?_ GE202.out | refine below_set ?_ GE208.out) | exact HB.out)) hb); have n3_ := Aside0.mk (hbox); have n4_ := Aside0.mk ((by rw [hg]; exact (below_size (by repeat (first | (with_reducible first | exact HB.out | apply below_alloc | apply pw_below_drewN | apply below_drew1 | refine below_set ?_ GE202.out | refine below_set ?_ GE208.out) | exact HB.out))) : w.heap.size ≤ gb213)); have n5_ := Aside0.mk ((by rw [hg]; exact (below_size (by repeat (first | (with_reducible first | exact HB.out | apply below_alloc | apply pw_below_drewN | apply below_drew1 | refine below_set ?_ GE202.out | refine below_set ?_ GE208.out) | exact HB.out))) : w.heap.size ≤ gb213)); have n6_ := Aside0.mk ((by rw [hg]; exact Nat.ne_of_lt (blk_lt (g := gb202) (o := .cells #[.int .i64 t198, .string t199, .string t200] 27 (0, 0)) (by (with_reducible repeat (first | refine blk_drewN ?_ _ | refine blk_drew ?_ | refine blk_alloc ?_ _)); exact BK202.out)) : gb202 ≠ gb213)); have n7_ := Aside0.mk ((by rw [hg]; exact Nat.ne_of_gt (blk_lt (g := gb202) (o := .cells #[.int .i64 t198, .string t199, .string t200] 27 (0, 0)) (by (with_reducible repeat (first | refine blk_drewN ?_ _ | refine blk_drew ?_ | refine blk_alloc ?_ _)); exact BK202.out)) : gb213 ≠ gb202)); have n8_ := Aside0.mk ((by rw [hg]; exact Nat.ne_of_lt (blk_lt (g := gb208) (o := .cells #[.int .i64 t204, .string t205, .string t206] 27 (0, 0)) (by (with_reducible repeat (first | refine blk_drewN ?_ _ | refine blk_drew ?_ | refine blk_alloc ?_ _)); exact BK208.out)) : gb208 ≠ gb213)); have n9_ := Aside0.mk ((by rw [hg]; exact Nat.ne_of_gt (blk_lt (g := gb208) (o := .cells #[.int .i64 t204, .string t205, .string t206] 27 (0, 0)) (by (with_reducible repeat (first | refine blk_drewN ?_ _ | refine blk_drew ?_ | refine blk_alloc ?_ _)); exact BK208.out)) : gb213 ≠ gb208)); clear BK202; clear BK208; clear HB; have BK202 := n0_; have BK208 := n1_; have HB := n2_; have BK213 := n3_; have GW213 := n4_; have GE213 := n5_; have NB202_213 := n6_; have NB213_202 := n7_; have NB208_213 := n8_; have NB213_208 := n9_; clear n0_ n1_ n2_ n3_ n4_ n5_ n6_ n7_ n8_ n9_; clear hb hbox hg; have hnb45 := NB213_202.out; have hnc45 := NB202_213.out; have hnb46 := NB213_208.out; have hnc46 := NB208_213.out; have hcz47_0 : w44.cell? ⟨gb213, 0, none⟩ = some (.int .i64 0) := (blk_cell BK213.out 0).trans rfl; have hcz47_1 : w44.cell? ⟨gb213, 1, none⟩ = some (.string (⟨#[]⟩ : ByteArray)) := (blk_cell BK213.out 1).trans rfl; have hcz47_2 : w44.cell? ⟨gb213, 2, none⟩ = some (.string (⟨#[]⟩ : ByteArray)) := (blk_cell BK213.out 2).trans rfl; have hfz47_0 := blk_frozen BK213.out 0; have hfz47_1 := blk_frozen BK213.out 1; have hfz47_2 := blk_frozen BK213.out 2))
                    go_ret
                    exact ⟨by first | rfl | (simp [errW_none, errW_some] <;> rfl) | (simp [*, errW_none, errW_some] <;> rfl) | (simp [*, q_isEmpty]; done) | (simp [*]; exact q_gt _ _ (by assumption)), by repeat (first | (with_reducible first | exact HB.out | apply below_alloc | apply pw_below_drewN | apply below_drew1 | refine below_set ?_ GE202.out | refine below_set ?_ GE208.out | refine below_set ?_ GE213.out) | exact HB.out)⟩
                  · rw [if_neg c38] at H
                    have c38b0 : (t212 == 0) = false := beq_eq_false_iff_ne.mpr c38
                    have c38b1 : (t212 != 0) = true := bne_iff_ne.mpr c38
                    obtain rfl := Option.some.inj H
                    go_wp2_with (first | ((with_reducible refine gate_callee (f := 9) rfl ?_); refine goesL_ (some 32) rfl rfl Tryd.func9 (by kernel_rfl) rfl #[.string a0] rfl (by (try simp only [List.map_toArray, List.map_cons, List.map_nil]); first | done | rfl | (simp only [List.length_drop, List.length_take]; rfl)) ?_; (with_reducible refine (impl_ClassicMatcher.calls a0 t204 t205 t206 t207 _ (TBu.below TB0.out (by repeat (first | (with_reducible first | exact HB.out | apply below_alloc | apply pw_below_drewN | apply below_drew1) | exact HB.out))) A15.out).mono ?_); rintro e w48 ⟨rfl, hb⟩; refine ⟨_, rfl, ?_⟩; have n0_ := Aside0.mk (blk_below (g := gb202) (o := .cells #[.int .i64 t198, .string t199, .string t200] 27 (0, 0)) (by (with_reducible repeat (first | refine blk_drewN ?_ _ | refine blk_drew ?_ | refine blk_alloc ?_ _)); exact BK202.out) hb); have n1_ := Aside0.mk (below_step (by repeat (first | (with_reducible first | exact HB.out | apply below_alloc | apply pw_below_drewN | apply below_drew1 | refine below_set ?_ GE202.out) | exact HB.out)) hb); clear BK202; clear HB; have BK202 := n0_; have HB := n1_; clear n0_ n1_; (try clear hb); (try clear hb2); (try clear hk); (try clear hi)) | ((with_reducible refine gate_dst (N := 5) rfl ?_); refine box_event ?hg (N := 5) ?hd (cs := #[.int .i64 0, .string (⟨#[]⟩ : ByteArray), .string (⟨#[]⟩ : ByteArray)]) (t := 27) ?hr ?_; (case hd => rfl); (case hg => rfl); (case hr => first | (go_simp; done) | (go_simp; rfl)); intro gb208 hg w49 hbox hb; have n0_ := Aside0.mk (blk_below (g := gb202) (o := .cells #[.int .i64 t198, .string t199, .string t200] 27 (0, 0)) (by (with_reducible repeat (first | refine blk_drewN ?_ _ | refine blk_drew ?_ | refine blk_alloc ?_ _)); exact BK202.out) hb); have n1_ := Aside0.mk (below_step (by repeat (first | (with_reducible first | exact HB.out | apply below_alloc | apply pw_below_drewN | apply below_drew1 | refine below_set ?_ GE202.out) | exact HB.out)) hb); have n2_ := Aside0.mk (hbox); have n3_ := Aside0.mk ((by rw [hg]; exact (below_size (by repeat (first | (with_reducible first | exact HB.out | apply below_alloc | apply pw_below_drewN | apply below_drew1 | refine below_set ?_ GE202.out) | exact HB.out))) : w.heap.size ≤ gb208)); have n4_ := Aside0.mk ((by rw [hg]; exact (below_size (by repeat (first | (with_reducible first | exact HB.out | apply below_alloc | apply pw_below_drewN | apply below_drew1 | refine below_set ?_ GE202.out) | exact HB.out))) : w.heap.size ≤ gb208)); have n5_ := Aside0.mk ((by rw [hg]; exact Nat.ne_of_lt (blk_lt (g := gb202) (o := .cells #[.int .i64 t198, .string t199, .string t200] 27 (0, 0)) (by (with_reducible repeat (first | refine blk_drewN ?_ _ | refine blk_drew ?_ | refine blk_alloc ?_ _)); exact BK202.out)) : gb202 ≠ gb208)); have n6_ := Aside0.mk ((by rw [hg]; exact Nat.ne_of_gt (blk_lt (g := gb202) (o := .cells #[.int .i64 t198, .string t199, .string t200] 27 (0, 0)) (by (with_reducible repeat (first | refine blk_drewN ?_ _ | refine blk_drew ?_ | refine blk_alloc ?_ _)); exact BK202.out)) : gb208 ≠ gb202)); clear BK202; clear HB; have BK202 := n0_; have HB := n1_; have BK208 := n2_; have GW208 := n3_; have GE208 := n4_; have NB202_208 := n5_; have NB208_202 := n6_; clear n0_ n1_ n2_ n3_ n4_ n5_ n6_; clear hb hbox hg; have hnb50 := NB208_202.out; have hnc50 := NB202_208.out; have hcz51_0 : w49.cell? ⟨gb208, 0, none⟩ = some (.int .i64 0) := (blk_cell BK208.out 0).trans rfl; have hcz51_1 : w49.cell? ⟨gb208, 1, none⟩ = some (.string (⟨#[]⟩ : ByteArray)) := (blk_cell BK208.out 1).trans rfl; have hcz51_2 : w49.cell? ⟨gb208, 2, none⟩ = some (.string (⟨#[]⟩ : ByteArray)) := (blk_cell BK208.out 2).trans rfl; have hfz51_0 := blk_frozen BK208.out 0; have hfz51_1 := blk_frozen BK208.out 1; have hfz51_2 := blk_frozen BK208.out 2) | ((with_reducible refine gate_callee (f := 11) rfl ?_); refine goesL_ (some 37) rfl rfl Tryd.func11 (by kernel_rfl) rfl #[.string a0] rfl (by (try simp only [List.map_toArray, List.map_cons, List.map_nil]); first | done | rfl | (simp only [List.length_drop, List.length_take]; rfl)) ?_; (with_reducible refine (spec_ClassicMatcher.calls kj10 a0 t209 t210 t211 t212 _ A16.out).mono ?_); rintro e w52 ⟨rfl, hb⟩; refine ⟨_, rfl, ?_⟩; have n0_ := Aside0.mk (blk_below (g := gb202) (o := .cells #[.int .i64 t198, .string t199, .string t200] 27 (0, 0)) (by (with_reducible repeat (first | refine blk_drewN ?_ _ | refine blk_drew ?_ | refine blk_alloc ?_ _)); refine blk_far ?_ NB202_208.out _; (with_reducible repeat (first | refine blk_drewN ?_ _ | refine blk_drew ?_ | refine blk_alloc ?_ _)); refine blk_far ?_ NB202_208.out _; (with_reducible repeat (first | refine blk_drewN ?_ _ | refine blk_drew ?_ | refine blk_alloc ?_ _)); refine blk_far ?_ NB202_208.out _; (with_reducible repeat (first | refine blk_drewN ?_ _ | refine blk_drew ?_ | refine blk_alloc ?_ _)); exact BK202.out) hb); have n1_ := Aside0.mk (blk_below (g := gb208) (o := .cells #[.int .i64 t204, .string t205, .string t206] 27 (0, 0)) (by (with_reducible repeat (first | refine blk_drewN ?_ _ | refine blk_drew ?_ | refine blk_alloc ?_ _)); refine blk_put (cs := #[.int .i64 t204, .string t205, .string (⟨#[]⟩ : ByteArray)]) ?_ 2 _ rfl; (with_reducible repeat (first | refine blk_drewN ?_ _ | refine blk_drew ?_ | refine blk_alloc ?_ _)); refine blk_put (cs := #[.int .i64 t204, .string (⟨#[]⟩ : ByteArray), .string (⟨#[]⟩ : ByteArray)]) ?_ 1 _ rfl; (with_reducible repeat (first | refine blk_drewN ?_ _ | refine blk_drew ?_ | refine blk_alloc ?_ _)); refine blk_put (cs := #[.int .i64 0, .string (⟨#[]⟩ : ByteArray), .string (⟨#[]⟩ : ByteArray)]) ?_ 0 _ rfl; (with_reducible repeat (first | refine blk_drewN ?_ _ | refine blk_drew ?_ | refine blk_alloc ?_ _)); exact BK208.out) hb); have n2_ := Aside0.mk (below_step (by repeat (first | (with_reducible first | exact HB.out | apply below_alloc | apply pw_below_drewN | apply below_drew1 | refine below_set ?_ GE202.out | refine below_set ?_ GE208.out) | exact HB.out)) hb); clear BK202; clear BK208; clear HB; have BK202 := n0_; have BK208 := n1_; have HB := n2_; clear n0_ n1_ n2_; (try clear hb); (try clear hb2); (try clear hk); (try clear hi)) | ((with_reducible refine gate_dst (N := 7) rfl ?_); refine box_event ?hg (N := 7) ?hd (cs := #[.int .i64 0, .string (⟨#[]⟩ : ByteArray), .string (⟨#[]⟩ : ByteArray)]) (t := 32) ?hr ?_; (case hd => rfl); (case hg => rfl); (case hr => first | (go_simp; done) | (go_simp; rfl)); intro gb213 hg w53 hbox hb; have n0_ := Aside0.mk (blk_below (g := gb202) (o := .cells #[.int .i64 t198, .string t199, .string t200] 27 (0, 0)) (by (with_reducible repeat (first | refine blk_drewN ?_ _ | refine blk_drew ?_ | refine blk_alloc ?_ _)); exact BK202.out) hb); have n1_ := Aside0.mk (blk_below (g := gb208) (o := .cells #[.int .i64 t204, .string t205, .string t206] 27 (0, 0)) (by (with_reducible repeat (first | refine blk_drewN ?_ _ | refine blk_drew ?_ | refine blk_alloc ?_ _)); exact BK208.out) hb); have n2_ := Aside0.mk (below_step (by repeat (first | (with_reducible first | exact HB.out | apply below_alloc | apply pw_below_drewN | apply below_drew1 | refine below_set ?_ GE202.out | refine below_set ?_ GE208.out) | exact HB.out)) hb); have n3_ := Aside0.mk (hbox); have n4_ := Aside0.mk ((by rw [hg]; exact (below_size (by repeat (first | (with_reducible first | exact HB.out | apply below_alloc | apply pw_below_drewN | apply below_drew1 | refine below_set ?_ GE202.out | refine below_set ?_ GE208.out) | exact HB.out))) : w.heap.size ≤ gb213)); have n5_ := Aside0.mk ((by rw [hg]; exact (below_size (by repeat (first | (with_reducible first | exact HB.out | apply below_alloc | apply pw_below_drewN | apply below_drew1 | refine below_set ?_ GE202.out | refine below_set ?_ GE208.out) | exact HB.out))) : w.heap.size ≤ gb213)); have n6_ := Aside0.mk ((by rw [hg]; exact Nat.ne_of_lt (blk_lt (g := gb202) (o := .cells #[.int .i64 t198, .string t199, .string t200] 27 (0, 0)) (by (with_reducible repeat (first | refine blk_drewN ?_ _ | refine blk_drew ?_ | refine blk_alloc ?_ _)); exact BK202.out)) : gb202 ≠ gb213)); have n7_ := Aside0.mk ((by rw [hg]; exact Nat.ne_of_gt (blk_lt (g := gb202) (o := .cells #[.int .i64 t198, .string t199, .string t200] 27 (0, 0)) (by (with_reducible repeat (first | refine blk_drewN ?_ _ | refine blk_drew ?_ | refine blk_alloc ?_ _)); exact BK202.out)) : gb213 ≠ gb202)); have n8_ := Aside0.mk ((by rw [hg]; exact Nat.ne_of_lt (blk_lt (g := gb208) (o := .cells #[.int .i64 t204, .string t205, .string t206] 27 (0, 0)) (by (with_reducible repeat (first | refine blk_drewN ?_ _ | refine blk_drew ?_ | refine blk_alloc ?_ _)); exact BK208.out)) : gb208 ≠ gb213)); have n9_ := Aside0.mk ((by rw [hg]; exact Nat.ne_of_gt (blk_lt (g := gb208) (o := .cells #[.int .i64 t204, .string t205, .string t206] 27 (0, 0)) (by (with_reducible repeat (first | refine blk_drewN ?_ _ | refine blk_drew ?_ | refine blk_alloc ?_ _)); exact BK208.out)) : gb213 ≠ gb208)); clear BK202; clear BK208; clear HB; have BK202 := n0_; have BK208 := n1_; have HB := n2_; have BK213 := n3_; have GW213 := n4_; have GE213 := n5_; have NB202_213 := n6_; have NB213_202 := n7_; have NB208_213 := n8_; have NB213_208 := n9_; clear n0_ n1_ n2_ n3_ n4_ n5_ n6_ n7_ n8_ n9_; clear hb hbox hg; have hnb54 := NB213_202.out; have hnc54 := NB202_213.out; have hnb55 := NB213_208.out; have hnc55 := NB208_213.out; have hcz56_0 : w53.cell? ⟨gb213, 0, none⟩ = some (.int .i64 0) := (blk_cell BK213.out 0).trans rfl; have hcz56_1 : w53.cell? ⟨gb213, 1, none⟩ = some (.string (⟨#[]⟩ : ByteArray)) := (blk_cell BK213.out 1).trans rfl; have hcz56_2 : w53.cell? ⟨gb213, 2, none⟩ = some (.string (⟨#[]⟩ : ByteArray)) := (blk_cell BK213.out 2).trans rfl; have hfz56_0 := blk_frozen BK213.out 0; have hfz56_1 := blk_frozen BK213.out 1; have hfz56_2 := blk_frozen BK213.out 2))
                    go_ret
                    exact ⟨by first | rfl | (simp [errW_none, errW_some] <;> rfl) | (simp [*, errW_none, errW_some] <;> rfl) | (simp [*, q_isEmpty]; done) | (simp [*]; exact q_gt _ _ (by assumption)), by repeat (first | (with_reducible first | exact HB.out | apply below_alloc | apply pw_below_drewN | apply below_drew1 | refine below_set ?_ GE202.out | refine below_set ?_ GE208.out | refine below_set ?_ GE213.out) | exact HB.out)⟩

end Go.Proofs.YtkngnoipipnioaaDoor.Q
