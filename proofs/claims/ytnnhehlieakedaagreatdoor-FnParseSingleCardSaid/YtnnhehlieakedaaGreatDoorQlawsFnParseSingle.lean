-- Printed for this seat by wip/pp.py of this repo; nothing here is trusted: Lean checks it.
import Derived.Test.YtnnhehlieakedaaGreatDoorHTabQ
import Derived.Test.YtnnhehlieakedaaGreatDoorQ0
import Derived.Test.YtnnhehlieakedaaGreatDoorHParseM
import Derived.Test.YtnnhehlieakedaaGreatDoorHRefM
import Derived.Test.YtnnhehlieakedaaGreatDoorQEq0
import Derived.Test.YtnnhehlieakedaaGreatDoorQlawshas
import Derived.Test.YtnnhehlieakedaaGreatDoorQlawsone
namespace Go.Proofs.YtnnhehlieakedaaGreatDoor.Q
open Go.RowKit Go.Proofs.YtnnhehlieakedaaGreatDoorW.PrintWords Go.Proofs.YtnnhehlieakedaaGreatDoorW.PrintLast Go.Proofs.YtnnhehlieakedaaGreatDoorW.PrintMore
attribute [local go_sem] max2_int min2_int max_two min_two max_three min_three max_four min_four   -- for this text's walks alone
set_option linter.unusedVariables false
set_option linter.unusedSimpArgs false

theorem eqA28 (d : Nat) (w : World) (x0 y0 : Int) (x1 y1 : ByteArray) (x2 y2 : ByteArray) :
    (Op.equalIn (d + 2) 28 (.agg #[.int .i64 x0, .string x1, .string x2]) (.agg #[.int .i64 y0, .string y1, .string y2])).run Tryz.prog w = .ok (x0 == y0 && (x1.toList == y1.toList && (x2.toList == y2.toList))) w := by
  refine eqA_of Tryz.underlying28 (by kernel_rfl) ?_
  refine eqf_cons (by rfl) (by go_simp; rfl) (by go_simp; rfl) (by go_simp) ?_
  refine eqf_cons (by rfl) (by go_simp; rfl) (by go_simp; rfl) (by go_simp) ?_
  exact eqf_last (by rfl) (by go_simp; rfl) (by go_simp; rfl) (by go_simp)
attribute [local go_sem high] eqA25 eqA28
/-! ### laws_FnParseSingle: function 3 -/
noncomputable def laws_FnParseSingle.j0 : Nat → ByteArray → Bool → Option (Bool)
  | 0, _, _ => none
  | k + 1, x0, x18 => if x18 = true then (some true) else ((impl_ParseMatcher.f x0).bind fun bt167 => ((spec_ParseMatcher.f x0).bind fun bt172 => (if bt172.2.2.2 = 1 then (if bt167.2.2.2 = true then (some (bt167.1 == bt172.1 && (bt167.2.1.toList == bt172.2.1.toList && (bt167.2.2.1.toList == bt172.2.2.1.toList)))) else (some false)) else (if bt172.2.2.2 = 0 then (some (!bt167.2.2.2)) else (some true)))))
noncomputable def laws_FnParseSingle.f (k : Nat) (a0 : ByteArray) : Option (Bool) := if (a0.size : Int) > 2147483647 then (some true) else ((laws_one.f).bind fun t165 => (if t165 = true then (if (a0.size : Int) > 20000 then (laws_FnParseSingle.j0 k a0 true) else ((laws_has.f k a0 126).bind fun t166 => (laws_FnParseSingle.j0 k a0 t166))) else (some false)))
theorem laws_FnParseSingle.mono_l : ∀ k, (∀ y0 y1, LeO (laws_FnParseSingle.j0 k y0 y1) (laws_FnParseSingle.j0 (k + 1) y0 y1))
  | 0 => fun _ _ r h => by simp [laws_FnParseSingle.j0] at h
  | k + 1 => by
    have ih0 := laws_FnParseSingle.mono_l k
    · intro y0 y1
      unfold laws_FnParseSingle.j0
      repeat' first
      | (with_reducible exact ih0 _ _)
      | (with_reducible exact laws_has.mono _ _ _)
      | (with_reducible exact LeO.refl _)
      | (with_reducible exact LeO.none _)
      | (with_reducible refine LeO.ite ?_ ?_)
      | (with_reducible refine LeO.bind ?_ (fun _ => ?_))
      | exact ih0 _ _
      | exact laws_has.mono _ _ _
      | exact LeO.none _
      | refine LeO.ite ?_ ?_
      | refine LeO.bind ?_ (fun _ => ?_)
theorem laws_FnParseSingle.mono : ∀ a0 k, LeO (laws_FnParseSingle.f k a0) (laws_FnParseSingle.f (k + 1) a0) := by
  intro a0 k
  have ih0 := laws_FnParseSingle.mono_l k
  unfold laws_FnParseSingle.f
  repeat' first
      | (with_reducible exact ih0 _ _)
      | (with_reducible exact laws_has.mono _ _ _)
      | (with_reducible exact LeO.refl _)
      | (with_reducible exact LeO.none _)
      | (with_reducible refine LeO.ite ?_ ?_)
      | (with_reducible refine LeO.bind ?_ (fun _ => ?_))
      | exact ih0 _ _
      | exact laws_has.mono _ _ _
      | exact LeO.none _
      | refine LeO.ite ?_ ?_
      | refine LeO.bind ?_ (fun _ => ?_)
set_option maxHeartbeats 8000000 in
set_option maxRecDepth 100000 in
theorem laws_FnParseSingle.calls (k : Nat) (a0 : ByteArray) (r : Bool) (w : World) (tb : TBq w) (h : laws_FnParseSingle.f k a0 = some r) :
    Calls Tryz.prog 3 #[.string a0] w fun e w' => e = .returned (.bool r) ∧ Below w.heap.size w w' := by
  have hu25 := Tryz.underlying25
  have hu28 := Tryz.underlying28
  have HB := Aside0.mk (Below.refl w.heap.size w)
  have TB0 := Aside0.mk tb
  clear tb
  have H : (if (a0.size : Int) > 2147483647 then (some true) else ((laws_one.f).bind fun t165 => (if t165 = true then (if (a0.size : Int) > 20000 then (laws_FnParseSingle.j0 k a0 true) else ((laws_has.f k a0 126).bind fun t166 => (laws_FnParseSingle.j0 k a0 t166))) else (some false)))) = some r := h
  clear h
  by_cases c2 : (a0.size : Int) > 2147483647
  · rw [if_pos c2] at H
    have c2b0 : decide (2147483647 < (a0.size : Int)) = true := decide_eq_true c2
    have c2b1 : decide (2147483647 < a0.size) = true := decide_eq_true (by omega)
    clear c2
    obtain rfl := Option.some.inj H
    go_enter Tryz.func3, Tryz.ntmps3
    go_wp2
    go_ret
    exact ⟨by first | rfl | (simp [*]; exact q_gt _ _ (by assumption)), by repeat (first | (with_reducible first | exact HB.out | apply below_alloc | apply pw_below_drewN | apply below_drew1))⟩
  · rw [if_neg c2] at H
    have c2b0 : decide (2147483647 < (a0.size : Int)) = false := decide_eq_false c2
    have c2b1 : decide (2147483647 < a0.size) = false := decide_eq_false (by omega)
    clear c2
    replace H := Option.bind_eq_some_iff.mp H
    obtain ⟨t165, A30, H⟩ := H
    replace H : (if t165 = true then (if (a0.size : Int) > 20000 then (laws_FnParseSingle.j0 k a0 true) else ((laws_has.f k a0 126).bind fun t166 => (laws_FnParseSingle.j0 k a0 t166))) else (some false)) = some r := H
    have A3 := Aside0.mk A30
    clear A30
    by_cases c4 : t165 = true
    · subst c4
      have H1 : (if (a0.size : Int) > 20000 then (laws_FnParseSingle.j0 k a0 true) else ((laws_has.f k a0 126).bind fun t166 => (laws_FnParseSingle.j0 k a0 t166))) = some r := by rw [if_pos rfl] at H; exact H
      clear H
      have H := H1
      clear H1
      have HC5 := Aside0.mk H
      clear H
      go_enter Tryz.func3, Tryz.ntmps3
      go_upto_region 5 with (first | ((with_reducible refine gate_callee (f := 7) rfl ?_); refine goesL_ (some 10) rfl rfl Tryz.func7 (by kernel_rfl) rfl #[] rfl (by (try simp only [List.map_toArray, List.map_cons, List.map_nil]); try rfl) ?_; (with_reducible refine (laws_one.calls  true _ (TBq.below TB0.out (by repeat (first | (with_reducible first | exact HB.out | apply below_alloc | apply pw_below_drewN | apply below_drew1 | refine below_set ?_ (Aside0.out (by assumption))) | exact HB.out))) A3.out).mono ?_); rintro e w6 ⟨rfl, hb⟩; refine ⟨_, rfl, ?_⟩; have n0_ := Aside0.mk (below_step (by repeat (first | (with_reducible first | exact HB.out | apply below_alloc | apply pw_below_drewN | apply below_drew1))) hb); clear HB; have HB := n0_; clear n0_; (try clear hb)))
      (try simp only [Act.put, List.setIfInBounds_toArray, List.set_cons_zero, List.set_cons_succ])
      go_cut [18] (fun v18 wc => ∃ (kq : Nat) (x18_4 : Bool), v18 = .bool x18_4 ∧ Aside0 (laws_FnParseSingle.j0 kq a0 x18_4 = some r) ∧ Aside0 (kq ≤ k) ∧ Aside0 (Below w.heap.size w wc))
      case first =>
        have H := HC5.out
        clear HC5
        by_cases c7 : (a0.size : Int) > 20000
        · rw [if_pos c7] at H
          have c7b0 : decide (20000 < (a0.size : Int)) = true := decide_eq_true c7
          have c7b1 : decide (20000 < a0.size) = true := decide_eq_true (by omega)
          clear c7
          (first | rw [c7b0] | (simp only [i64_w, i32_w]; rw [c7b0]) | skip)
          have H' := Aside0.mk H
          clear H
          go_wp2
          go_meet
          case rel => exact ⟨_, (true), (by first | rfl | (simp; done) | (simp [*]; done) | (simp [*, q_isEmpty]; done) | (simp [*]; exact q_gt _ _ (by assumption))), H', ⟨by first | omega | exact Nat.le_refl _⟩, ⟨by repeat (first | (with_reducible first | exact HB.out | apply below_alloc | apply pw_below_drewN | apply below_drew1))⟩⟩
        · rw [if_neg c7] at H
          have c7b0 : decide (20000 < (a0.size : Int)) = false := decide_eq_false c7
          have c7b1 : decide (20000 < a0.size) = false := decide_eq_false (by omega)
          clear c7
          (first | rw [c7b0] | (simp only [i64_w, i32_w]; rw [c7b0]) | skip)
          replace H := Option.bind_eq_some_iff.mp H
          obtain ⟨t166, A80, H⟩ := H
          replace H : (laws_FnParseSingle.j0 k a0 t166) = some r := H
          have A8 := Aside0.mk A80
          clear A80
          have H' := Aside0.mk H
          clear H
          go_wp2_with (first | (go_at_call 8; (with_reducible refine (laws_has.calls k a0 126 t166 _ A8.out).mono ?_); rintro e w' ⟨rfl, ⟨nd, rfl⟩⟩))
          go_meet
          case rel => exact ⟨_, (t166), (by first | rfl | (simp; done) | (simp [*]; done) | (simp [*, q_isEmpty]; done) | (simp [*]; exact q_gt _ _ (by assumption))), H', ⟨by first | omega | exact Nat.le_refl _⟩, ⟨by repeat (first | (with_reducible first | exact HB.out | apply below_alloc | apply pw_below_drewN | apply below_drew1))⟩⟩
      case rest =>
        clear HC5
        try clear c2
        try clear c2b0
        try clear c2b1
        try clear p2
        try clear c3
        try clear c4
        try clear c7
        try clear c7b0
        try clear c7b1
        obtain ⟨kq, x18_4, rfl, HA, HJ4, HB⟩ := hcut
        cases kq with
        | zero => exact absurd HA.out (by simp [laws_FnParseSingle.j0])
        | succ kj4 =>
          have H := HA.out
          clear HA
          simp only [laws_FnParseSingle.j0] at H
          by_cases c9 : x18_4 = true
          · subst c9
            have H1 : (some true) = some r := by rw [if_pos rfl] at H; exact H
            clear H
            have H := H1
            clear H1
            obtain rfl := Option.some.inj H
            go_wp2
            go_ret
            exact ⟨by first | rfl | (simp [*]; exact q_gt _ _ (by assumption)), by repeat (first | (with_reducible first | exact HB.out | apply below_alloc | apply pw_below_drewN | apply below_drew1))⟩
          · replace c9 := Bool.eq_false_iff.mpr c9
            subst c9
            have H1 : ((impl_ParseMatcher.f a0).bind fun bt167 => ((spec_ParseMatcher.f a0).bind fun bt172 => (if bt172.2.2.2 = 1 then (if bt167.2.2.2 = true then (some (bt167.1 == bt172.1 && (bt167.2.1.toList == bt172.2.1.toList && (bt167.2.2.1.toList == bt172.2.2.1.toList)))) else (some false)) else (if bt172.2.2.2 = 0 then (some (!bt167.2.2.2)) else (some true))))) = some r := by rw [if_neg (show ¬ (false = true) by decide)] at H; exact H
            clear H
            have H := H1
            clear H1
            replace H := Option.bind_eq_some_iff.mp H
            obtain ⟨⟨t167, t168, t169, t170⟩, A100, H⟩ := H
            replace H : ((spec_ParseMatcher.f a0).bind fun bt172 => (if bt172.2.2.2 = 1 then (if t170 = true then (some (t167 == bt172.1 && (t168.toList == bt172.2.1.toList && (t169.toList == bt172.2.2.1.toList)))) else (some false)) else (if bt172.2.2.2 = 0 then (some (!t170)) else (some true)))) = some r := H
            have A10 := Aside0.mk A100
            clear A100
            replace H := Option.bind_eq_some_iff.mp H
            obtain ⟨⟨t172, t173, t174, t175⟩, A110, H⟩ := H
            replace H : (if t175 = 1 then (if t170 = true then (some (t167 == t172 && (t168.toList == t173.toList && (t169.toList == t174.toList)))) else (some false)) else (if t175 = 0 then (some (!t170)) else (some true))) = some r := H
            have A11 := Aside0.mk A110
            clear A110
            by_cases c12 : t175 = 1
            · rw [if_pos c12] at H
              have c12b0 : (t175 == 1) = true := beq_iff_eq.mpr c12
              have c12b1 : (t175 != 1) = false := bne_eq_false_iff_eq.mpr c12
              clear c12
              by_cases c13 : t170 = true
              · subst c13
                have H1 : (some (t167 == t172 && (t168.toList == t173.toList && (t169.toList == t174.toList)))) = some r := by rw [if_pos rfl] at H; exact H
                clear H
                have H := H1
                clear H1
                obtain rfl := Option.some.inj H
                go_wp2_with (first | ((with_reducible refine gate_callee (f := 9) rfl ?_); refine goesL_ (some 21) rfl rfl Tryz.func9 (by kernel_rfl) rfl #[.string a0] rfl (by (try simp only [List.map_toArray, List.map_cons, List.map_nil]); try rfl) ?_; (with_reducible refine (impl_ParseMatcher.calls a0 t167 t168 t169 true _ (TBq.below TB0.out (by repeat (first | (with_reducible first | exact HB.out | apply below_alloc | apply pw_below_drewN | apply below_drew1 | refine below_set ?_ (Aside0.out (by assumption))) | exact HB.out))) A10.out).mono ?_); rintro e w14 ⟨rfl, hb⟩; refine ⟨_, rfl, ?_⟩; have n0_ := Aside0.mk (below_step (by repeat (first | (with_reducible first | exact HB.out | apply below_alloc | apply pw_below_drewN | apply below_drew1))) hb); clear HB; have HB := n0_; clear n0_; (try clear hb)) | ((with_reducible refine gate_dst (N := 3) rfl ?_); refine box_event ?hg (N := 3) ?hd (cs := #[.int .i64 0, .string (⟨#[]⟩ : ByteArray), .string (⟨#[]⟩ : ByteArray)]) (t := 25) ?hr ?_; (case hd => rfl); (case hg => rfl); (case hr => first | (go_simp; done) | (go_simp; rfl)); intro gb171 hg w15 hbox hb; have n0_ := Aside0.mk (below_step (by repeat (first | (with_reducible first | exact HB.out | apply below_alloc | apply pw_below_drewN | apply below_drew1))) hb); have n1_ := Aside0.mk (hbox); have n2_ := Aside0.mk ((by rw [hg]; exact (below_size (by repeat (first | (with_reducible first | exact HB.out | apply below_alloc | apply pw_below_drewN | apply below_drew1)))) : w.heap.size ≤ gb171)); have n3_ := n2_; clear HB; have HB := n0_; have BK171 := n1_; have GW171 := n2_; have GE171 := n3_; clear n0_ n1_ n2_ n3_; clear hb hbox hg; have hcz16_0 : w15.cell? ⟨gb171, 0, none⟩ = some (.int .i64 0) := (blk_cell BK171.out 0).trans rfl; have hcz16_1 : w15.cell? ⟨gb171, 1, none⟩ = some (.string (⟨#[]⟩ : ByteArray)) := (blk_cell BK171.out 1).trans rfl; have hcz16_2 : w15.cell? ⟨gb171, 2, none⟩ = some (.string (⟨#[]⟩ : ByteArray)) := (blk_cell BK171.out 2).trans rfl; have hfz16_0 := blk_frozen BK171.out 0; have hfz16_1 := blk_frozen BK171.out 1; have hfz16_2 := blk_frozen BK171.out 2) | ((with_reducible refine gate_callee (f := 10) rfl ?_); refine goesL_ (some 26) rfl rfl Tryz.func10 (by kernel_rfl) rfl #[.string a0] rfl (by (try simp only [List.map_toArray, List.map_cons, List.map_nil]); try rfl) ?_; (with_reducible refine (spec_ParseMatcher.calls a0 t172 t173 t174 t175 _ A11.out).mono ?_); rintro e w17 ⟨rfl, hb⟩; refine ⟨_, rfl, ?_⟩; have n0_ := Aside0.mk (blk_below (g := gb171) (o := .cells #[.int .i64 t167, .string t168, .string t169] 25 (0, 0)) (by (with_reducible repeat (first | refine blk_drewN ?_ _ | refine blk_drew ?_ | refine blk_alloc ?_ _)); refine blk_put (cs := #[.int .i64 t167, .string t168, .string (⟨#[]⟩ : ByteArray)]) ?_ 2 _ rfl; (with_reducible repeat (first | refine blk_drewN ?_ _ | refine blk_drew ?_ | refine blk_alloc ?_ _)); refine blk_put (cs := #[.int .i64 t167, .string (⟨#[]⟩ : ByteArray), .string (⟨#[]⟩ : ByteArray)]) ?_ 1 _ rfl; (with_reducible repeat (first | refine blk_drewN ?_ _ | refine blk_drew ?_ | refine blk_alloc ?_ _)); refine blk_put (cs := #[.int .i64 0, .string (⟨#[]⟩ : ByteArray), .string (⟨#[]⟩ : ByteArray)]) ?_ 0 _ rfl; (with_reducible repeat (first | refine blk_drewN ?_ _ | refine blk_drew ?_ | refine blk_alloc ?_ _)); exact BK171.out) hb); have n1_ := Aside0.mk (below_step (by repeat (first | (with_reducible first | exact HB.out | apply below_alloc | apply pw_below_drewN | apply below_drew1 | refine below_set ?_ GE171.out) | exact HB.out)) hb); clear BK171; clear HB; have BK171 := n0_; have HB := n1_; clear n0_ n1_; (try clear hb)) | ((with_reducible refine gate_dst (N := 5) rfl ?_); refine box_event ?hg (N := 5) ?hd (cs := #[.int .i64 0, .string (⟨#[]⟩ : ByteArray), .string (⟨#[]⟩ : ByteArray)]) (t := 28) ?hr ?_; (case hd => rfl); (case hg => rfl); (case hr => first | (go_simp; done) | (go_simp; rfl)); intro gb176 hg w18 hbox hb; have n0_ := Aside0.mk (blk_below (g := gb171) (o := .cells #[.int .i64 t167, .string t168, .string t169] 25 (0, 0)) (by (with_reducible repeat (first | refine blk_drewN ?_ _ | refine blk_drew ?_ | refine blk_alloc ?_ _)); exact BK171.out) hb); have n1_ := Aside0.mk (below_step (by repeat (first | (with_reducible first | exact HB.out | apply below_alloc | apply pw_below_drewN | apply below_drew1 | refine below_set ?_ GE171.out) | exact HB.out)) hb); have n2_ := Aside0.mk (hbox); have n3_ := Aside0.mk ((by rw [hg]; exact (below_size (by repeat (first | (with_reducible first | exact HB.out | apply below_alloc | apply pw_below_drewN | apply below_drew1 | refine below_set ?_ GE171.out) | exact HB.out))) : w.heap.size ≤ gb176)); have n4_ := Aside0.mk ((by rw [hg]; exact (below_size (by repeat (first | (with_reducible first | exact HB.out | apply below_alloc | apply pw_below_drewN | apply below_drew1 | refine below_set ?_ GE171.out) | exact HB.out))) : w.heap.size ≤ gb176)); have n5_ := Aside0.mk ((by rw [hg]; exact Nat.ne_of_lt (blk_lt (g := gb171) (o := .cells #[.int .i64 t167, .string t168, .string t169] 25 (0, 0)) (by (with_reducible repeat (first | refine blk_drewN ?_ _ | refine blk_drew ?_ | refine blk_alloc ?_ _)); exact BK171.out)) : gb171 ≠ gb176)); have n6_ := Aside0.mk ((by rw [hg]; exact Nat.ne_of_gt (blk_lt (g := gb171) (o := .cells #[.int .i64 t167, .string t168, .string t169] 25 (0, 0)) (by (with_reducible repeat (first | refine blk_drewN ?_ _ | refine blk_drew ?_ | refine blk_alloc ?_ _)); exact BK171.out)) : gb176 ≠ gb171)); clear BK171; clear HB; have BK171 := n0_; have HB := n1_; have BK176 := n2_; have GW176 := n3_; have GE176 := n4_; have NB171_176 := n5_; have NB176_171 := n6_; clear n0_ n1_ n2_ n3_ n4_ n5_ n6_; clear hb hbox hg; have hnb19 := NB176_171.out; have hnc19 := NB171_176.out; have hcz20_0 : w18.cell? ⟨gb176, 0, none⟩ = some (.int .i64 0) := (blk_cell BK176.out 0).trans rfl; have hcz20_1 : w18.cell? ⟨gb176, 1, none⟩ = some (.string (⟨#[]⟩ : ByteArray)) := (blk_cell BK176.out 1).trans rfl; have hcz20_2 : w18.cell? ⟨gb176, 2, none⟩ = some (.string (⟨#[]⟩ : ByteArray)) := (blk_cell BK176.out 2).trans rfl; have hfz20_0 := blk_frozen BK176.out 0; have hfz20_1 := blk_frozen BK176.out 1; have hfz20_2 := blk_frozen BK176.out 2; have hcz21_0 : w18.cell? ⟨gb171, 0, none⟩ = some (.int .i64 t167) := (blk_cell BK171.out 0).trans rfl; have hcz21_1 : w18.cell? ⟨gb171, 1, none⟩ = some (.string t168) := (blk_cell BK171.out 1).trans rfl; have hcz21_2 : w18.cell? ⟨gb171, 2, none⟩ = some (.string t169) := (blk_cell BK171.out 2).trans rfl; have hfz21_0 := blk_frozen BK171.out 0; have hfz21_1 := blk_frozen BK171.out 1; have hfz21_2 := blk_frozen BK171.out 2))
                go_ret
                exact ⟨by first | rfl | (simp [*]; exact q_gt _ _ (by assumption)), by repeat (first | (with_reducible first | exact HB.out | apply below_alloc | apply pw_below_drewN | apply below_drew1 | refine below_set ?_ GE171.out | refine below_set ?_ GE176.out) | exact HB.out)⟩
              · replace c13 := Bool.eq_false_iff.mpr c13
                subst c13
                have H1 : (some false) = some r := by rw [if_neg (show ¬ (false = true) by decide)] at H; exact H
                clear H
                have H := H1
                clear H1
                obtain rfl := Option.some.inj H
                go_wp2_with (first | ((with_reducible refine gate_callee (f := 9) rfl ?_); refine goesL_ (some 21) rfl rfl Tryz.func9 (by kernel_rfl) rfl #[.string a0] rfl (by (try simp only [List.map_toArray, List.map_cons, List.map_nil]); try rfl) ?_; (with_reducible refine (impl_ParseMatcher.calls a0 t167 t168 t169 false _ (TBq.below TB0.out (by repeat (first | (with_reducible first | exact HB.out | apply below_alloc | apply pw_below_drewN | apply below_drew1 | refine below_set ?_ (Aside0.out (by assumption))) | exact HB.out))) A10.out).mono ?_); rintro e w22 ⟨rfl, hb⟩; refine ⟨_, rfl, ?_⟩; have n0_ := Aside0.mk (below_step (by repeat (first | (with_reducible first | exact HB.out | apply below_alloc | apply pw_below_drewN | apply below_drew1))) hb); clear HB; have HB := n0_; clear n0_; (try clear hb)) | ((with_reducible refine gate_dst (N := 3) rfl ?_); refine box_event ?hg (N := 3) ?hd (cs := #[.int .i64 0, .string (⟨#[]⟩ : ByteArray), .string (⟨#[]⟩ : ByteArray)]) (t := 25) ?hr ?_; (case hd => rfl); (case hg => rfl); (case hr => first | (go_simp; done) | (go_simp; rfl)); intro gb171 hg w23 hbox hb; have n0_ := Aside0.mk (below_step (by repeat (first | (with_reducible first | exact HB.out | apply below_alloc | apply pw_below_drewN | apply below_drew1))) hb); have n1_ := Aside0.mk (hbox); have n2_ := Aside0.mk ((by rw [hg]; exact (below_size (by repeat (first | (with_reducible first | exact HB.out | apply below_alloc | apply pw_below_drewN | apply below_drew1)))) : w.heap.size ≤ gb171)); have n3_ := n2_; clear HB; have HB := n0_; have BK171 := n1_; have GW171 := n2_; have GE171 := n3_; clear n0_ n1_ n2_ n3_; clear hb hbox hg; have hcz24_0 : w23.cell? ⟨gb171, 0, none⟩ = some (.int .i64 0) := (blk_cell BK171.out 0).trans rfl; have hcz24_1 : w23.cell? ⟨gb171, 1, none⟩ = some (.string (⟨#[]⟩ : ByteArray)) := (blk_cell BK171.out 1).trans rfl; have hcz24_2 : w23.cell? ⟨gb171, 2, none⟩ = some (.string (⟨#[]⟩ : ByteArray)) := (blk_cell BK171.out 2).trans rfl; have hfz24_0 := blk_frozen BK171.out 0; have hfz24_1 := blk_frozen BK171.out 1; have hfz24_2 := blk_frozen BK171.out 2) | ((with_reducible refine gate_callee (f := 10) rfl ?_); refine goesL_ (some 26) rfl rfl Tryz.func10 (by kernel_rfl) rfl #[.string a0] rfl (by (try simp only [List.map_toArray, List.map_cons, List.map_nil]); try rfl) ?_; (with_reducible refine (spec_ParseMatcher.calls a0 t172 t173 t174 t175 _ A11.out).mono ?_); rintro e w25 ⟨rfl, hb⟩; refine ⟨_, rfl, ?_⟩; have n0_ := Aside0.mk (blk_below (g := gb171) (o := .cells #[.int .i64 t167, .string t168, .string t169] 25 (0, 0)) (by (with_reducible repeat (first | refine blk_drewN ?_ _ | refine blk_drew ?_ | refine blk_alloc ?_ _)); refine blk_put (cs := #[.int .i64 t167, .string t168, .string (⟨#[]⟩ : ByteArray)]) ?_ 2 _ rfl; (with_reducible repeat (first | refine blk_drewN ?_ _ | refine blk_drew ?_ | refine blk_alloc ?_ _)); refine blk_put (cs := #[.int .i64 t167, .string (⟨#[]⟩ : ByteArray), .string (⟨#[]⟩ : ByteArray)]) ?_ 1 _ rfl; (with_reducible repeat (first | refine blk_drewN ?_ _ | refine blk_drew ?_ | refine blk_alloc ?_ _)); refine blk_put (cs := #[.int .i64 0, .string (⟨#[]⟩ : ByteArray), .string (⟨#[]⟩ : ByteArray)]) ?_ 0 _ rfl; (with_reducible repeat (first | refine blk_drewN ?_ _ | refine blk_drew ?_ | refine blk_alloc ?_ _)); exact BK171.out) hb); have n1_ := Aside0.mk (below_step (by repeat (first | (with_reducible first | exact HB.out | apply below_alloc | apply pw_below_drewN | apply below_drew1 | refine below_set ?_ GE171.out) | exact HB.out)) hb); clear BK171; clear HB; have BK171 := n0_; have HB := n1_; clear n0_ n1_; (try clear hb)) | ((with_reducible refine gate_dst (N := 5) rfl ?_); refine box_event ?hg (N := 5) ?hd (cs := #[.int .i64 0, .string (⟨#[]⟩ : ByteArray), .string (⟨#[]⟩ : ByteArray)]) (t := 28) ?hr ?_; (case hd => rfl); (case hg => rfl); (case hr => first | (go_simp; done) | (go_simp; rfl)); intro gb176 hg w26 hbox hb; have n0_ := Aside0.mk (blk_below (g := gb171) (o := .cells #[.int .i64 t167, .string t168, .string t169] 25 (0, 0)) (by (with_reducible repeat (first | refine blk_drewN ?_ _ | refine blk_drew ?_ | refine blk_alloc ?_ _)); exact BK171.out) hb); have n1_ := Aside0.mk (below_step (by repeat (first | (with_reducible first | exact HB.out | apply below_alloc | apply pw_below_drewN | apply below_drew1 | refine below_set ?_ GE171.out) | exact HB.out)) hb); have n2_ := Aside0.mk (hbox); have n3_ := Aside0.mk ((by rw [hg]; exact (below_size (by repeat (first | (with_reducible first | exact HB.out | apply below_alloc | apply pw_below_drewN | apply below_drew1 | refine below_set ?_ GE171.out) | exact HB.out))) : w.heap.size ≤ gb176)); have n4_ := Aside0.mk ((by rw [hg]; exact (below_size (by repeat (first | (with_reducible first | exact HB.out | apply below_alloc | apply pw_below_drewN | apply below_drew1 | refine below_set ?_ GE171.out) | exact HB.out))) : w.heap.size ≤ gb176)); have n5_ := Aside0.mk ((by rw [hg]; exact Nat.ne_of_lt (blk_lt (g := gb171) (o := .cells #[.int .i64 t167, .string t168, .string t169] 25 (0, 0)) (by (with_reducible repeat (first | refine blk_drewN ?_ _ | refine blk_drew ?_ | refine blk_alloc ?_ _)); exact BK171.out)) : gb171 ≠ gb176)); have n6_ := Aside0.mk ((by rw [hg]; exact Nat.ne_of_gt (blk_lt (g := gb171) (o := .cells #[.int .i64 t167, .string t168, .string t169] 25 (0, 0)) (by (with_reducible repeat (first | refine blk_drewN ?_ _ | refine blk_drew ?_ | refine blk_alloc ?_ _)); exact BK171.out)) : gb176 ≠ gb171)); clear BK171; clear HB; have BK171 := n0_; have HB := n1_; have BK176 := n2_; have GW176 := n3_; have GE176 := n4_; have NB171_176 := n5_; have NB176_171 := n6_; clear n0_ n1_ n2_ n3_ n4_ n5_ n6_; clear hb hbox hg; have hnb27 := NB176_171.out; have hnc27 := NB171_176.out; have hcz28_0 : w26.cell? ⟨gb176, 0, none⟩ = some (.int .i64 0) := (blk_cell BK176.out 0).trans rfl; have hcz28_1 : w26.cell? ⟨gb176, 1, none⟩ = some (.string (⟨#[]⟩ : ByteArray)) := (blk_cell BK176.out 1).trans rfl; have hcz28_2 : w26.cell? ⟨gb176, 2, none⟩ = some (.string (⟨#[]⟩ : ByteArray)) := (blk_cell BK176.out 2).trans rfl; have hfz28_0 := blk_frozen BK176.out 0; have hfz28_1 := blk_frozen BK176.out 1; have hfz28_2 := blk_frozen BK176.out 2))
                go_ret
                exact ⟨by first | rfl | (simp [*]; exact q_gt _ _ (by assumption)), by repeat (first | (with_reducible first | exact HB.out | apply below_alloc | apply pw_below_drewN | apply below_drew1 | refine below_set ?_ GE171.out | refine below_set ?_ GE176.out) | exact HB.out)⟩
            · rw [if_neg c12] at H
              have c12b0 : (t175 == 1) = false := beq_eq_false_iff_ne.mpr c12
              have c12b1 : (t175 != 1) = true := bne_iff_ne.mpr c12
              by_cases c29 : t175 = 0
              · rw [if_pos c29] at H
                have c29b0 : (t175 == 0) = true := beq_iff_eq.mpr c29
                have c29b1 : (t175 != 0) = false := bne_eq_false_iff_eq.mpr c29
                clear c29
                obtain rfl := Option.some.inj H
                go_wp2_with (first | ((with_reducible refine gate_callee (f := 9) rfl ?_); refine goesL_ (some 21) rfl rfl Tryz.func9 (by kernel_rfl) rfl #[.string a0] rfl (by (try simp only [List.map_toArray, List.map_cons, List.map_nil]); try rfl) ?_; (with_reducible refine (impl_ParseMatcher.calls a0 t167 t168 t169 t170 _ (TBq.below TB0.out (by repeat (first | (with_reducible first | exact HB.out | apply below_alloc | apply pw_below_drewN | apply below_drew1 | refine below_set ?_ (Aside0.out (by assumption))) | exact HB.out))) A10.out).mono ?_); rintro e w30 ⟨rfl, hb⟩; refine ⟨_, rfl, ?_⟩; have n0_ := Aside0.mk (below_step (by repeat (first | (with_reducible first | exact HB.out | apply below_alloc | apply pw_below_drewN | apply below_drew1))) hb); clear HB; have HB := n0_; clear n0_; (try clear hb)) | ((with_reducible refine gate_dst (N := 3) rfl ?_); refine box_event ?hg (N := 3) ?hd (cs := #[.int .i64 0, .string (⟨#[]⟩ : ByteArray), .string (⟨#[]⟩ : ByteArray)]) (t := 25) ?hr ?_; (case hd => rfl); (case hg => rfl); (case hr => first | (go_simp; done) | (go_simp; rfl)); intro gb171 hg w31 hbox hb; have n0_ := Aside0.mk (below_step (by repeat (first | (with_reducible first | exact HB.out | apply below_alloc | apply pw_below_drewN | apply below_drew1))) hb); have n1_ := Aside0.mk (hbox); have n2_ := Aside0.mk ((by rw [hg]; exact (below_size (by repeat (first | (with_reducible first | exact HB.out | apply below_alloc | apply pw_below_drewN | apply below_drew1)))) : w.heap.size ≤ gb171)); have n3_ := n2_; clear HB; have HB := n0_; have BK171 := n1_; have GW171 := n2_; have GE171 := n3_; clear n0_ n1_ n2_ n3_; clear hb hbox hg; have hcz32_0 : w31.cell? ⟨gb171, 0, none⟩ = some (.int .i64 0) := (blk_cell BK171.out 0).trans rfl; have hcz32_1 : w31.cell? ⟨gb171, 1, none⟩ = some (.string (⟨#[]⟩ : ByteArray)) := (blk_cell BK171.out 1).trans rfl; have hcz32_2 : w31.cell? ⟨gb171, 2, none⟩ = some (.string (⟨#[]⟩ : ByteArray)) := (blk_cell BK171.out 2).trans rfl; have hfz32_0 := blk_frozen BK171.out 0; have hfz32_1 := blk_frozen BK171.out 1; have hfz32_2 := blk_frozen BK171.out 2) | ((with_reducible refine gate_callee (f := 10) rfl ?_); refine goesL_ (some 26) rfl rfl Tryz.func10 (by kernel_rfl) rfl #[.string a0] rfl (by (try simp only [List.map_toArray, List.map_cons, List.map_nil]); try rfl) ?_; (with_reducible refine (spec_ParseMatcher.calls a0 t172 t173 t174 t175 _ A11.out).mono ?_); rintro e w33 ⟨rfl, hb⟩; refine ⟨_, rfl, ?_⟩; have n0_ := Aside0.mk (blk_below (g := gb171) (o := .cells #[.int .i64 t167, .string t168, .string t169] 25 (0, 0)) (by (with_reducible repeat (first | refine blk_drewN ?_ _ | refine blk_drew ?_ | refine blk_alloc ?_ _)); refine blk_put (cs := #[.int .i64 t167, .string t168, .string (⟨#[]⟩ : ByteArray)]) ?_ 2 _ rfl; (with_reducible repeat (first | refine blk_drewN ?_ _ | refine blk_drew ?_ | refine blk_alloc ?_ _)); refine blk_put (cs := #[.int .i64 t167, .string (⟨#[]⟩ : ByteArray), .string (⟨#[]⟩ : ByteArray)]) ?_ 1 _ rfl; (with_reducible repeat (first | refine blk_drewN ?_ _ | refine blk_drew ?_ | refine blk_alloc ?_ _)); refine blk_put (cs := #[.int .i64 0, .string (⟨#[]⟩ : ByteArray), .string (⟨#[]⟩ : ByteArray)]) ?_ 0 _ rfl; (with_reducible repeat (first | refine blk_drewN ?_ _ | refine blk_drew ?_ | refine blk_alloc ?_ _)); exact BK171.out) hb); have n1_ := Aside0.mk (below_step (by repeat (first | (with_reducible first | exact HB.out | apply below_alloc | apply pw_below_drewN | apply below_drew1 | refine below_set ?_ GE171.out) | exact HB.out)) hb); clear BK171; clear HB; have BK171 := n0_; have HB := n1_; clear n0_ n1_; (try clear hb)) | ((with_reducible refine gate_dst (N := 5) rfl ?_); refine box_event ?hg (N := 5) ?hd (cs := #[.int .i64 0, .string (⟨#[]⟩ : ByteArray), .string (⟨#[]⟩ : ByteArray)]) (t := 28) ?hr ?_; (case hd => rfl); (case hg => rfl); (case hr => first | (go_simp; done) | (go_simp; rfl)); intro gb176 hg w34 hbox hb; have n0_ := Aside0.mk (blk_below (g := gb171) (o := .cells #[.int .i64 t167, .string t168, .string t169] 25 (0, 0)) (by (with_reducible repeat (first | refine blk_drewN ?_ _ | refine blk_drew ?_ | refine blk_alloc ?_ _)); exact BK171.out) hb); have n1_ := Aside0.mk (below_step (by repeat (first | (with_reducible first | exact HB.out | apply below_alloc | apply pw_below_drewN | apply below_drew1 | refine below_set ?_ GE171.out) | exact HB.out)) hb); have n2_ := Aside0.mk (hbox); have n3_ := Aside0.mk ((by rw [hg]; exact (below_size (by repeat (first | (with_reducible first | exact HB.out | apply below_alloc | apply pw_below_drewN | apply below_drew1 | refine below_set ?_ GE171.out) | exact HB.out))) : w.heap.size ≤ gb176)); have n4_ := Aside0.mk ((by rw [hg]; exact (below_size (by repeat (first | (with_reducible first | exact HB.out | apply below_alloc | apply pw_below_drewN | apply below_drew1 | refine below_set ?_ GE171.out) | exact HB.out))) : w.heap.size ≤ gb176)); have n5_ := Aside0.mk ((by rw [hg]; exact Nat.ne_of_lt (blk_lt (g := gb171) (o := .cells #[.int .i64 t167, .string t168, .string t169] 25 (0, 0)) (by (with_reducible repeat (first | refine blk_drewN ?_ _ | refine blk_drew ?_ | refine blk_alloc ?_ _)); exact BK171.out)) : gb171 ≠ gb176)); have n6_ := Aside0.mk ((by rw [hg]; exact Nat.ne_of_gt (blk_lt (g := gb171) (o := .cells #[.int .i64 t167, .string t168, .string t169] 25 (0, 0)) (by (with_reducible repeat (first | refine blk_drewN ?_ _ | refine blk_drew ?_ | refine blk_alloc ?_ _)); exact BK171.out)) : gb176 ≠ gb171)); clear BK171; clear HB; have BK171 := n0_; have HB := n1_; have BK176 := n2_; have GW176 := n3_; have GE176 := n4_; have NB171_176 := n5_; have NB176_171 := n6_; clear n0_ n1_ n2_ n3_ n4_ n5_ n6_; clear hb hbox hg; have hnb35 := NB176_171.out; have hnc35 := NB171_176.out; have hcz36_0 : w34.cell? ⟨gb176, 0, none⟩ = some (.int .i64 0) := (blk_cell BK176.out 0).trans rfl; have hcz36_1 : w34.cell? ⟨gb176, 1, none⟩ = some (.string (⟨#[]⟩ : ByteArray)) := (blk_cell BK176.out 1).trans rfl; have hcz36_2 : w34.cell? ⟨gb176, 2, none⟩ = some (.string (⟨#[]⟩ : ByteArray)) := (blk_cell BK176.out 2).trans rfl; have hfz36_0 := blk_frozen BK176.out 0; have hfz36_1 := blk_frozen BK176.out 1; have hfz36_2 := blk_frozen BK176.out 2))
                go_ret
                exact ⟨by first | rfl | (simp [*]; exact q_gt _ _ (by assumption)), by repeat (first | (with_reducible first | exact HB.out | apply below_alloc | apply pw_below_drewN | apply below_drew1 | refine below_set ?_ GE171.out | refine below_set ?_ GE176.out) | exact HB.out)⟩
              · rw [if_neg c29] at H
                have c29b0 : (t175 == 0) = false := beq_eq_false_iff_ne.mpr c29
                have c29b1 : (t175 != 0) = true := bne_iff_ne.mpr c29
                obtain rfl := Option.some.inj H
                go_wp2_with (first | ((with_reducible refine gate_callee (f := 9) rfl ?_); refine goesL_ (some 21) rfl rfl Tryz.func9 (by kernel_rfl) rfl #[.string a0] rfl (by (try simp only [List.map_toArray, List.map_cons, List.map_nil]); try rfl) ?_; (with_reducible refine (impl_ParseMatcher.calls a0 t167 t168 t169 t170 _ (TBq.below TB0.out (by repeat (first | (with_reducible first | exact HB.out | apply below_alloc | apply pw_below_drewN | apply below_drew1 | refine below_set ?_ (Aside0.out (by assumption))) | exact HB.out))) A10.out).mono ?_); rintro e w37 ⟨rfl, hb⟩; refine ⟨_, rfl, ?_⟩; have n0_ := Aside0.mk (below_step (by repeat (first | (with_reducible first | exact HB.out | apply below_alloc | apply pw_below_drewN | apply below_drew1))) hb); clear HB; have HB := n0_; clear n0_; (try clear hb)) | ((with_reducible refine gate_dst (N := 3) rfl ?_); refine box_event ?hg (N := 3) ?hd (cs := #[.int .i64 0, .string (⟨#[]⟩ : ByteArray), .string (⟨#[]⟩ : ByteArray)]) (t := 25) ?hr ?_; (case hd => rfl); (case hg => rfl); (case hr => first | (go_simp; done) | (go_simp; rfl)); intro gb171 hg w38 hbox hb; have n0_ := Aside0.mk (below_step (by repeat (first | (with_reducible first | exact HB.out | apply below_alloc | apply pw_below_drewN | apply below_drew1))) hb); have n1_ := Aside0.mk (hbox); have n2_ := Aside0.mk ((by rw [hg]; exact (below_size (by repeat (first | (with_reducible first | exact HB.out | apply below_alloc | apply pw_below_drewN | apply below_drew1)))) : w.heap.size ≤ gb171)); have n3_ := n2_; clear HB; have HB := n0_; have BK171 := n1_; have GW171 := n2_; have GE171 := n3_; clear n0_ n1_ n2_ n3_; clear hb hbox hg; have hcz39_0 : w38.cell? ⟨gb171, 0, none⟩ = some (.int .i64 0) := (blk_cell BK171.out 0).trans rfl; have hcz39_1 : w38.cell? ⟨gb171, 1, none⟩ = some (.string (⟨#[]⟩ : ByteArray)) := (blk_cell BK171.out 1).trans rfl; have hcz39_2 : w38.cell? ⟨gb171, 2, none⟩ = some (.string (⟨#[]⟩ : ByteArray)) := (blk_cell BK171.out 2).trans rfl; have hfz39_0 := blk_frozen BK171.out 0; have hfz39_1 := blk_frozen BK171.out 1; have hfz39_2 := blk_frozen BK171.out 2) | ((with_reducible refine gate_callee (f := 10) rfl ?_); refine goesL_ (some 26) rfl rfl Tryz.func10 (by kernel_rfl) rfl #[.string a0] rfl (by (try simp only [List.map_toArray, List.map_cons, List.map_nil]); try rfl) ?_; (with_reducible refine (spec_ParseMatcher.calls a0 t172 t173 t174 t175 _ A11.out).mono ?_); rintro e w40 ⟨rfl, hb⟩; refine ⟨_, rfl, ?_⟩; have n0_ := Aside0.mk (blk_below (g := gb171) (o := .cells #[.int .i64 t167, .string t168, .string t169] 25 (0, 0)) (by (with_reducible repeat (first | refine blk_drewN ?_ _ | refine blk_drew ?_ | refine blk_alloc ?_ _)); refine blk_put (cs := #[.int .i64 t167, .string t168, .string (⟨#[]⟩ : ByteArray)]) ?_ 2 _ rfl; (with_reducible repeat (first | refine blk_drewN ?_ _ | refine blk_drew ?_ | refine blk_alloc ?_ _)); refine blk_put (cs := #[.int .i64 t167, .string (⟨#[]⟩ : ByteArray), .string (⟨#[]⟩ : ByteArray)]) ?_ 1 _ rfl; (with_reducible repeat (first | refine blk_drewN ?_ _ | refine blk_drew ?_ | refine blk_alloc ?_ _)); refine blk_put (cs := #[.int .i64 0, .string (⟨#[]⟩ : ByteArray), .string (⟨#[]⟩ : ByteArray)]) ?_ 0 _ rfl; (with_reducible repeat (first | refine blk_drewN ?_ _ | refine blk_drew ?_ | refine blk_alloc ?_ _)); exact BK171.out) hb); have n1_ := Aside0.mk (below_step (by repeat (first | (with_reducible first | exact HB.out | apply below_alloc | apply pw_below_drewN | apply below_drew1 | refine below_set ?_ GE171.out) | exact HB.out)) hb); clear BK171; clear HB; have BK171 := n0_; have HB := n1_; clear n0_ n1_; (try clear hb)) | ((with_reducible refine gate_dst (N := 5) rfl ?_); refine box_event ?hg (N := 5) ?hd (cs := #[.int .i64 0, .string (⟨#[]⟩ : ByteArray), .string (⟨#[]⟩ : ByteArray)]) (t := 28) ?hr ?_; (case hd => rfl); (case hg => rfl); (case hr => first | (go_simp; done) | (go_simp; rfl)); intro gb176 hg w41 hbox hb; have n0_ := Aside0.mk (blk_below (g := gb171) (o := .cells #[.int .i64 t167, .string t168, .string t169] 25 (0, 0)) (by (with_reducible repeat (first | refine blk_drewN ?_ _ | refine blk_drew ?_ | refine blk_alloc ?_ _)); exact BK171.out) hb); have n1_ := Aside0.mk (below_step (by repeat (first | (with_reducible first | exact HB.out | apply below_alloc | apply pw_below_drewN | apply below_drew1 | refine below_set ?_ GE171.out) | exact HB.out)) hb); have n2_ := Aside0.mk (hbox); have n3_ := Aside0.mk ((by rw [hg]; exact (below_size (by repeat (first | (with_reducible first | exact HB.out | apply below_alloc | apply pw_below_drewN | apply below_drew1 | refine below_set ?_ GE171.out) | exact HB.out))) : w.heap.size ≤ gb176)); have n4_ := Aside0.mk ((by rw [hg]; exact (below_size (by repeat (first | (with_reducible first | exact HB.out | apply below_alloc | apply pw_below_drewN | apply below_drew1 | refine below_set ?_ GE171.out) | exact HB.out))) : w.heap.size ≤ gb176)); have n5_ := Aside0.mk ((by rw [hg]; exact Nat.ne_of_lt (blk_lt (g := gb171) (o := .cells #[.int .i64 t167, .string t168, .string t169] 25 (0, 0)) (by (with_reducible repeat (first | refine blk_drewN ?_ _ | refine blk_drew ?_ | refine blk_alloc ?_ _)); exact BK171.out)) : gb171 ≠ gb176)); have n6_ := Aside0.mk ((by rw [hg]; exact Nat.ne_of_gt (blk_lt (g := gb171) (o := .cells #[.int .i64 t167, .string t168, .string t169] 25 (0, 0)) (by (with_reducible repeat (first | refine blk_drewN ?_ _ | refine blk_drew ?_ | refine blk_alloc ?_ _)); exact BK171.out)) : gb176 ≠ gb171)); clear BK171; clear HB; have BK171 := n0_; have HB := n1_; have BK176 := n2_; have GW176 := n3_; have GE176 := n4_; have NB171_176 := n5_; have NB176_171 := n6_; clear n0_ n1_ n2_ n3_ n4_ n5_ n6_; clear hb hbox hg; have hnb42 := NB176_171.out; have hnc42 := NB171_176.out; have hcz43_0 : w41.cell? ⟨gb176, 0, none⟩ = some (.int .i64 0) := (blk_cell BK176.out 0).trans rfl; have hcz43_1 : w41.cell? ⟨gb176, 1, none⟩ = some (.string (⟨#[]⟩ : ByteArray)) := (blk_cell BK176.out 1).trans rfl; have hcz43_2 : w41.cell? ⟨gb176, 2, none⟩ = some (.string (⟨#[]⟩ : ByteArray)) := (blk_cell BK176.out 2).trans rfl; have hfz43_0 := blk_frozen BK176.out 0; have hfz43_1 := blk_frozen BK176.out 1; have hfz43_2 := blk_frozen BK176.out 2))
                go_ret
                exact ⟨by first | rfl | (simp [*]; exact q_gt _ _ (by assumption)), by repeat (first | (with_reducible first | exact HB.out | apply below_alloc | apply pw_below_drewN | apply below_drew1 | refine below_set ?_ GE171.out | refine below_set ?_ GE176.out) | exact HB.out)⟩
    · replace c4 := Bool.eq_false_iff.mpr c4
      subst c4
      have H1 : (some false) = some r := by rw [if_neg (show ¬ (false = true) by decide)] at H; exact H
      clear H
      have H := H1
      clear H1
      obtain rfl := Option.some.inj H
      go_enter Tryz.func3, Tryz.ntmps3
      go_wp2_with (first | ((with_reducible refine gate_callee (f := 7) rfl ?_); refine goesL_ (some 10) rfl rfl Tryz.func7 (by kernel_rfl) rfl #[] rfl (by (try simp only [List.map_toArray, List.map_cons, List.map_nil]); try rfl) ?_; (with_reducible refine (laws_one.calls  false _ (TBq.below TB0.out (by repeat (first | (with_reducible first | exact HB.out | apply below_alloc | apply pw_below_drewN | apply below_drew1 | refine below_set ?_ (Aside0.out (by assumption))) | exact HB.out))) A3.out).mono ?_); rintro e w44 ⟨rfl, hb⟩; refine ⟨_, rfl, ?_⟩; have n0_ := Aside0.mk (below_step (by repeat (first | (with_reducible first | exact HB.out | apply below_alloc | apply pw_below_drewN | apply below_drew1))) hb); clear HB; have HB := n0_; clear n0_; (try clear hb)))
      go_ret
      exact ⟨by first | rfl | (simp [*]; exact q_gt _ _ (by assumption)), by repeat (first | (with_reducible first | exact HB.out | apply below_alloc | apply pw_below_drewN | apply below_drew1))⟩

end Go.Proofs.YtnnhehlieakedaaGreatDoor.Q
