-- Printed for this seat by wip/pp.py of this repo; nothing here is trusted: Lean checks it.
import Derived.Test.YtikhlolhodgegaaQ0
namespace Go.Proofs.Ytikhlolhodgegaa.Q
open Go.RowKit Go.Proofs.YtikhlolhodgegaaW.PrintWords Go.Proofs.YtikhlolhodgegaaW.PrintLast Go.Proofs.YtikhlolhodgegaaW.PrintMore
attribute [local go_sem] max2_int min2_int max_two min_two max_three min_three max_four min_four   -- for this text's walks alone
set_option linter.unusedVariables false
set_option linter.unusedSimpArgs false

/-! ### laws_values: function 76 -/
def laws_values.l0 : Nat → List (S52) → List (S52) → Int → Int → Option (Bool)
  | 0, _, _, _, _ => none
  | k + 1, x0, x5, x6, x7 => if x7 < x6 then (if 0 ≤ x7 then (if x7 < (x5.length : Int) then (if ((rd_T52 x5 x7).f0) = 0 then (laws_values.l0 k x0 x5 x6 (wrap64 (x7 + 1))) else (if ((rd_T52 x5 x7).f0) = 1 then (laws_values.l0 k x0 x5 x6 (wrap64 (x7 + 1))) else (some false))) else (none)) else (none)) else (some (decide ((x0.length : Int) ≤ 10000)))
def laws_values.f (k : Nat) (l0 : List (S52)) : Option (Bool) := laws_values.l0 k l0 l0 (l0.length : Int) 0
theorem laws_values.mono_l : ∀ k, (∀ y0 y1 y2 y3, LeO (laws_values.l0 k y0 y1 y2 y3) (laws_values.l0 (k + 1) y0 y1 y2 y3))
  | 0 => fun _ _ _ _ r h => by simp [laws_values.l0] at h
  | k + 1 => by
    have ih0 := laws_values.mono_l k
    · intro y0 y1 y2 y3
      unfold laws_values.l0
      repeat' first
      | (with_reducible exact ih0 _ _ _ _)
      | (with_reducible exact LeO.refl _)
      | (with_reducible exact LeO.none _)
      | (with_reducible refine LeO.ite ?_ ?_)
      | (with_reducible refine LeO.bind ?_ (fun _ => ?_))
      | exact ih0 _ _ _ _
      | exact LeO.none _
      | refine LeO.ite ?_ ?_
      | refine LeO.bind ?_ (fun _ => ?_)
theorem laws_values.mono : ∀ a0 k, LeO (laws_values.f k a0) (laws_values.f (k + 1) a0) := by
  intro a0 k
  have ih0 := laws_values.mono_l k
  unfold laws_values.f
  repeat' first
      | (with_reducible exact ih0 _ _ _ _)
      | (with_reducible exact LeO.refl _)
      | (with_reducible exact LeO.none _)
      | (with_reducible refine LeO.ite ?_ ?_)
      | (with_reducible refine LeO.bind ?_ (fun _ => ?_))
      | exact ih0 _ _ _ _
      | exact LeO.none _
      | refine LeO.ite ?_ ?_
      | refine LeO.bind ?_ (fun _ => ?_)
set_option maxHeartbeats 8000000 in
set_option maxRecDepth 100000 in
theorem laws_values.calls (k : Nat) (A0 : Option Addr) (c0 : Nat) (l0 : List (S52)) (r : Bool) (w : World) (hr0 : Kd.C k52 w A0 l0.length l0) (hc0 : l0.length ≤ c0) (h : laws_values.f k l0 = some r) :
    Calls Try.prog 76 #[.slice A0 l0.length c0] w fun e w' => e = .returned (.bool r) ∧ Below w.heap.size w w' := by
  have hu52 := Try.underlying52
  have HR0 := Aside0.mk hr0
  have HC0 := Aside0.mk hc0
  clear hr0 hc0
  have HB := Aside0.mk (Below.refl w.heap.size w)
  have H : (laws_values.l0 k l0 l0 (l0.length : Int) 0) = some r := h
  clear h
  have H' := Aside0.mk H
  clear H
  go_enter Try.func76, Try.ntmps76
  go_wp2
  go_loopg [7] k (fun kq v7 w' => ∃ (x7_1 : Int), v7 = .int .i64 x7_1 ∧ Aside0 (laws_values.l0 kq l0 l0 (l0.length : Int) x7_1 = some r) ∧ Aside0 (kq ≤ k) ∧ Aside0 (Below w.heap.size w w'))
  case atStart => exact ⟨(0), (by first | rfl | (simp; done) | (simp [*]; done) | (simp [*, q_isEmpty]; done) | (simp [*]; exact q_gt _ _ (by assumption))), H', ⟨Nat.le_refl _⟩, ⟨by repeat (first | (with_reducible first | exact HB.out | apply below_alloc | apply pw_below_drewN | apply below_drew1) | exact HB.out)⟩⟩
  case round =>
    clear H'
    obtain ⟨x7_1, rfl, HA, HK1, HB⟩ := hrel
    cases gk with
    | zero => exact absurd HA.out (by simp [laws_values.l0])
    | succ k1 =>
      have H := HA.out
      clear HA
      simp only [laws_values.l0] at H
      by_cases c2 : x7_1 < (l0.length : Int)
      · rw [if_pos c2] at H
        have c2b0 : decide (x7_1 < (l0.length : Int)) = true := decide_eq_true c2
        clear c2
        by_cases c3 : 0 ≤ x7_1
        · rw [if_pos c3] at H
          have c3b0 : decide (0 ≤ x7_1) = true := decide_eq_true c3
          clear c3
          by_cases c4 : x7_1 < (l0.length : Int)
          · rw [if_pos c4] at H
            have c4b0 : decide (x7_1 < (l0.length : Int)) = true := decide_eq_true c4
            clear c4
            by_cases c5 : ((rd_T52 l0 x7_1).f0) = 0
            · rw [if_pos c5] at H
              have c5b0 : (((rd_T52 l0 x7_1).f0) == 0) = true := beq_iff_eq.mpr c5
              have c5b1 : (((rd_T52 l0 x7_1).f0) != 0) = false := bne_eq_false_iff_eq.mpr c5
              clear c5
              have H' := Aside0.mk H
              clear H
              have p278 : 0 ≤ (x7_1 : Int) := of_decide_eq_true (by first | (with_reducible assumption) | assumption)
              have q278 : x7_1 < (l0.length : Int) := of_decide_eq_true (by first | (with_reducible assumption) | assumption)
              obtain ⟨ad278, e278, hx278_0, hx278_1, hx278_2⟩ := at_T52 HR0.out x7_1 p278 q278
              cases e278
              replace hx278_0 := (HB.out.cell (World.block_lt_of_cell? w _ hx278_0)).trans hx278_0
              replace hx278_1 := (HB.out.cell (World.block_lt_of_cell? w _ hx278_1)).trans hx278_1
              replace hx278_2 := (HB.out.cell (World.block_lt_of_cell? w _ hx278_2)).trans hx278_2
              replace p278 := eq_true p278
              replace q278 := eq_true q278
              go_wp2_with (first | ((with_reducible refine gate_dst (N := 4) rfl ?_); refine box_event ?hg (N := 4) ?hd (cs := #[.int .i64 0, .string (⟨#[]⟩ : ByteArray), .string (⟨#[]⟩ : ByteArray)]) (t := 52) ?hr ?_; (case hd => rfl); (case hg => rfl); (case hr => first | (go_simp; done) | (go_simp; rfl)); intro gb279 hg w6 hbox hb; have n0_ := Aside0.mk (below_step (by repeat (first | (with_reducible first | exact HB.out | apply below_alloc | apply pw_below_drewN | apply below_drew1) | exact HB.out)) hb); have n1_ := Aside0.mk (hbox); have n2_ := Aside0.mk ((by rw [hg]; exact (below_size (by repeat (first | (with_reducible first | exact HB.out | apply below_alloc | apply pw_below_drewN | apply below_drew1) | exact HB.out))) : w.heap.size ≤ gb279)); have n3_ := Aside0.mk ((by rw [hg]; exact (below_size (by repeat (first | (with_reducible first | exact HB.out | apply below_alloc | apply pw_below_drewN | apply below_drew1) | exact HB.out))) : w.heap.size ≤ gb279)); clear HB; have HB := n0_; have BK279 := n1_; have GW279 := n2_; have GE279 := n3_; clear n0_ n1_ n2_ n3_; clear hb hbox hg; have hcz7_0 : w6.cell? ⟨gb279, 0, none⟩ = some (.int .i64 0) := (blk_cell BK279.out 0).trans rfl; have hcz7_1 : w6.cell? ⟨gb279, 1, none⟩ = some (.string (⟨#[]⟩ : ByteArray)) := (blk_cell BK279.out 1).trans rfl; have hcz7_2 : w6.cell? ⟨gb279, 2, none⟩ = some (.string (⟨#[]⟩ : ByteArray)) := (blk_cell BK279.out 2).trans rfl; have hfz7_0 := blk_frozen BK279.out 0; have hfz7_1 := blk_frozen BK279.out 1; have hfz7_2 := blk_frozen BK279.out 2))
              go_roundg k1
              case measure => have := HK1.out; omega
              case rel => exact ⟨(wrap64 (x7_1 + 1)), (by first | rfl | (simp; done) | (simp [*]; done) | (simp [*, q_isEmpty]; done) | (simp [*]; exact q_gt _ _ (by assumption))), H', ⟨by have := HK1.out; omega⟩, ⟨by repeat (first | (with_reducible first | exact HB.out | apply below_alloc | apply pw_below_drewN | apply below_drew1 | refine below_set ?_ GE279.out) | exact HB.out)⟩⟩
            · rw [if_neg c5] at H
              have c5b0 : (((rd_T52 l0 x7_1).f0) == 0) = false := beq_eq_false_iff_ne.mpr c5
              have c5b1 : (((rd_T52 l0 x7_1).f0) != 0) = true := bne_iff_ne.mpr c5
              by_cases c8 : ((rd_T52 l0 x7_1).f0) = 1
              · rw [if_pos c8] at H
                have c8b0 : (((rd_T52 l0 x7_1).f0) == 1) = true := beq_iff_eq.mpr c8
                have c8b1 : (((rd_T52 l0 x7_1).f0) != 1) = false := bne_eq_false_iff_eq.mpr c8
                clear c8
                have H' := Aside0.mk H
                clear H
                have p278 : 0 ≤ (x7_1 : Int) := of_decide_eq_true (by first | (with_reducible assumption) | assumption)
                have q278 : x7_1 < (l0.length : Int) := of_decide_eq_true (by first | (with_reducible assumption) | assumption)
                obtain ⟨ad278, e278, hx278_0, hx278_1, hx278_2⟩ := at_T52 HR0.out x7_1 p278 q278
                cases e278
                replace hx278_0 := (HB.out.cell (World.block_lt_of_cell? w _ hx278_0)).trans hx278_0
                replace hx278_1 := (HB.out.cell (World.block_lt_of_cell? w _ hx278_1)).trans hx278_1
                replace hx278_2 := (HB.out.cell (World.block_lt_of_cell? w _ hx278_2)).trans hx278_2
                replace p278 := eq_true p278
                replace q278 := eq_true q278
                go_wp2_with (first | ((with_reducible refine gate_dst (N := 4) rfl ?_); refine box_event ?hg (N := 4) ?hd (cs := #[.int .i64 0, .string (⟨#[]⟩ : ByteArray), .string (⟨#[]⟩ : ByteArray)]) (t := 52) ?hr ?_; (case hd => rfl); (case hg => rfl); (case hr => first | (go_simp; done) | (go_simp; rfl)); intro gb279 hg w9 hbox hb; have n0_ := Aside0.mk (below_step (by repeat (first | (with_reducible first | exact HB.out | apply below_alloc | apply pw_below_drewN | apply below_drew1) | exact HB.out)) hb); have n1_ := Aside0.mk (hbox); have n2_ := Aside0.mk ((by rw [hg]; exact (below_size (by repeat (first | (with_reducible first | exact HB.out | apply below_alloc | apply pw_below_drewN | apply below_drew1) | exact HB.out))) : w.heap.size ≤ gb279)); have n3_ := Aside0.mk ((by rw [hg]; exact (below_size (by repeat (first | (with_reducible first | exact HB.out | apply below_alloc | apply pw_below_drewN | apply below_drew1) | exact HB.out))) : w.heap.size ≤ gb279)); clear HB; have HB := n0_; have BK279 := n1_; have GW279 := n2_; have GE279 := n3_; clear n0_ n1_ n2_ n3_; clear hb hbox hg; have hcz10_0 : w9.cell? ⟨gb279, 0, none⟩ = some (.int .i64 0) := (blk_cell BK279.out 0).trans rfl; have hcz10_1 : w9.cell? ⟨gb279, 1, none⟩ = some (.string (⟨#[]⟩ : ByteArray)) := (blk_cell BK279.out 1).trans rfl; have hcz10_2 : w9.cell? ⟨gb279, 2, none⟩ = some (.string (⟨#[]⟩ : ByteArray)) := (blk_cell BK279.out 2).trans rfl; have hfz10_0 := blk_frozen BK279.out 0; have hfz10_1 := blk_frozen BK279.out 1; have hfz10_2 := blk_frozen BK279.out 2))
                go_roundg k1
                case measure => have := HK1.out; omega
                case rel => exact ⟨(wrap64 (x7_1 + 1)), (by first | rfl | (simp; done) | (simp [*]; done) | (simp [*, q_isEmpty]; done) | (simp [*]; exact q_gt _ _ (by assumption))), H', ⟨by have := HK1.out; omega⟩, ⟨by repeat (first | (with_reducible first | exact HB.out | apply below_alloc | apply pw_below_drewN | apply below_drew1 | refine below_set ?_ GE279.out) | exact HB.out)⟩⟩
              · rw [if_neg c8] at H
                have c8b0 : (((rd_T52 l0 x7_1).f0) == 1) = false := beq_eq_false_iff_ne.mpr c8
                have c8b1 : (((rd_T52 l0 x7_1).f0) != 1) = true := bne_iff_ne.mpr c8
                obtain rfl := Option.some.inj H
                have p278 : 0 ≤ (x7_1 : Int) := of_decide_eq_true (by first | (with_reducible assumption) | assumption)
                have q278 : x7_1 < (l0.length : Int) := of_decide_eq_true (by first | (with_reducible assumption) | assumption)
                obtain ⟨ad278, e278, hx278_0, hx278_1, hx278_2⟩ := at_T52 HR0.out x7_1 p278 q278
                cases e278
                replace hx278_0 := (HB.out.cell (World.block_lt_of_cell? w _ hx278_0)).trans hx278_0
                replace hx278_1 := (HB.out.cell (World.block_lt_of_cell? w _ hx278_1)).trans hx278_1
                replace hx278_2 := (HB.out.cell (World.block_lt_of_cell? w _ hx278_2)).trans hx278_2
                replace p278 := eq_true p278
                replace q278 := eq_true q278
                go_wp2_with (first | ((with_reducible refine gate_dst (N := 4) rfl ?_); refine box_event ?hg (N := 4) ?hd (cs := #[.int .i64 0, .string (⟨#[]⟩ : ByteArray), .string (⟨#[]⟩ : ByteArray)]) (t := 52) ?hr ?_; (case hd => rfl); (case hg => rfl); (case hr => first | (go_simp; done) | (go_simp; rfl)); intro gb279 hg w11 hbox hb; have n0_ := Aside0.mk (below_step (by repeat (first | (with_reducible first | exact HB.out | apply below_alloc | apply pw_below_drewN | apply below_drew1) | exact HB.out)) hb); have n1_ := Aside0.mk (hbox); have n2_ := Aside0.mk ((by rw [hg]; exact (below_size (by repeat (first | (with_reducible first | exact HB.out | apply below_alloc | apply pw_below_drewN | apply below_drew1) | exact HB.out))) : w.heap.size ≤ gb279)); have n3_ := Aside0.mk ((by rw [hg]; exact (below_size (by repeat (first | (with_reducible first | exact HB.out | apply below_alloc | apply pw_below_drewN | apply below_drew1) | exact HB.out))) : w.heap.size ≤ gb279)); clear HB; have HB := n0_; have BK279 := n1_; have GW279 := n2_; have GE279 := n3_; clear n0_ n1_ n2_ n3_; clear hb hbox hg; have hcz12_0 : w11.cell? ⟨gb279, 0, none⟩ = some (.int .i64 0) := (blk_cell BK279.out 0).trans rfl; have hcz12_1 : w11.cell? ⟨gb279, 1, none⟩ = some (.string (⟨#[]⟩ : ByteArray)) := (blk_cell BK279.out 1).trans rfl; have hcz12_2 : w11.cell? ⟨gb279, 2, none⟩ = some (.string (⟨#[]⟩ : ByteArray)) := (blk_cell BK279.out 2).trans rfl; have hfz12_0 := blk_frozen BK279.out 0; have hfz12_1 := blk_frozen BK279.out 1; have hfz12_2 := blk_frozen BK279.out 2))
                go_ret
                exact ⟨by first | rfl | (simp [errW_none, errW_some] <;> rfl) | (simp [*, errW_none, errW_some] <;> rfl) | (simp [*, q_isEmpty]; done) | (simp [*]; exact q_gt _ _ (by assumption)), by repeat (first | (with_reducible first | exact HB.out | apply below_alloc | apply pw_below_drewN | apply below_drew1 | refine below_set ?_ GE279.out) | exact HB.out)⟩
          · rw [if_neg c4] at H
            exact absurd H (by simp)
        · rw [if_neg c3] at H
          exact absurd H (by simp)
      · rw [if_neg c2] at H
        have c2b0 : decide (x7_1 < (l0.length : Int)) = false := decide_eq_false c2
        clear c2
        obtain rfl := Option.some.inj H
        go_wp2
        go_ret
        exact ⟨by first | rfl | (simp [errW_none, errW_some] <;> rfl) | (simp [*, errW_none, errW_some] <;> rfl) | (simp [*, q_isEmpty]; done) | (simp [*]; exact q_gt _ _ (by assumption)), by repeat (first | (with_reducible first | exact HB.out | apply below_alloc | apply pw_below_drewN | apply below_drew1) | exact HB.out)⟩

end Go.Proofs.Ytikhlolhodgegaa.Q
