/- The days of the week by number: what impl.WeekdayText returns. No condition beyond the numbers' range. -/
import Derived.Test.YtbcijcmmpbkkbaaHWeekA
import Derived.Maps.OwnSet
import Derived.Deep.RegionWith
import Derived.Maps.StringElems
namespace Go.Proofs.Ytbcijcmmpbkkbaa.Q
open Go.RowKit Go.Proofs.YtbcijcmmpbkkbaaW.PrintWords Go.Proofs.YtbcijcmmpbkkbaaW.PrintLast Go.Proofs.YtbcijcmmpbkkbaaW.PrintMore
open Go.Maps (Keyed int_keyed keyOf_int_mk)
attribute [local go_sem] max2_int min2_int max_two min_two max_three min_three max_four min_four
set_option maxRecDepth 100000 in
set_option maxHeartbeats 800000 in
theorem weekBad_calls (a b : Int) (w : World) (wa : (Lit.int .i64 a).wf = true) (wb : (Lit.int .i64 b).wf = true) (h : (inWeek a && inWeek b) = false) :
    Calls Try.prog 51 #[.agg #[.int .i64 a, .int .i64 b]] w fun e w' => ∃ v, e = .returned (.tuple #[.slice none 0 0, v]) ∧ errIs false v ∧ Below w.heap.size w w' := by
  have hu1 := Try.underlying82
  have hu2 := Try.underlying80
  have HB := Aside0.mk (Below.refl w.heap.size w)
  have HKA : Aside0 (keyOf Try.prog 3 (.int .i64 a) = some (.int .i64 a)) := ⟨keyOf_int_mk Try.underlying3 wa⟩
  have HKB : Aside0 (keyOf Try.prog 3 (.int .i64 b) = some (.int .i64 b)) := ⟨keyOf_int_mk Try.underlying3 wb⟩
  clear wa wb
  cases ha : inWeek a
  · have HHA := Aside0.mk ha
    clear h
    go_enter Try.func51, Try.ntmps51
    go_wp2
    go_region_with (go_at_call 65; refine (days_calls _).mono ?_; rintro e w1 ⟨b, rfl, hb, ho, hB⟩; have hlk := look_day w1 b ho _ HKA.out; rw [HHA.out] at hlk; have hbk := (hB.block w.heap.size (by simp)).trans (blkW rfl); have hc0 := (blk_cell hbk 0).trans rfl; have hc1 := (blk_cell hbk 1).trans rfl; clear hbk; have HB1 := Aside0.mk (below_step (by repeat (first | exact HB.out | apply below_drew | apply below_alloc)) hB); clear HB hb ho hB; have HB := HB1; clear HB1)
    all_goals
      go_wp2_with (go_at_call 66; refine (errNew_calls _ _).mono ?_; rintro e w3 ⟨g, rfl, hb⟩; have HB1 := Aside0.mk (below_step HB.out hb); clear HB hb; have HB := HB1; clear HB1)
      go_ret2
      exact ⟨_, rfl, ⟨_, rfl⟩, HB.out⟩
  · have HHA := Aside0.mk ha
    have HHB : Aside0 (inWeek b = false) := ⟨by rw [ha] at h; simpa using h⟩
    have hab : (a == b) = false := beq_eq_false_iff_ne.2 (fun e => by subst e; rw [ha] at HHB; exact absurd HHB.out (by simp))
    clear h
    go_enter Try.func51, Try.ntmps51
    go_wp2
    go_region_with (go_at_call 65; refine (days_calls _).mono ?_; rintro e w1 ⟨b, rfl, hb, ho, hB⟩; have hlk := look_day w1 b ho _ HKA.out; rw [HHA.out] at hlk; have hbk := (hB.block w.heap.size (by simp)).trans (blkW rfl); have hc0 := (blk_cell hbk 0).trans rfl; have hc1 := (blk_cell hbk 1).trans rfl; clear hbk; have HB1 := Aside0.mk (below_step (by repeat (first | exact HB.out | apply below_drew | apply below_alloc)) hB); clear HB hb ho hB; have HB := HB1; clear HB1)
    all_goals
      go_wp2
      go_region_with (go_at_call 65; refine (days_calls _).mono ?_; rintro e w1 ⟨b, rfl, hb, ho, hB⟩; have hlk := look_day w1 b ho _ HKB.out; rw [HHB.out] at hlk; have hd0 := (hB.cell (World.block_lt_of_cell? _ _ hc0)).trans hc0; have hd1 := (hB.cell (World.block_lt_of_cell? _ _ hc1)).trans hc1; clear hc0 hc1; have hc0 := hd0; have hc1 := hd1; clear hd0 hd1; have HB1 := Aside0.mk (below_step (by repeat (first | exact HB.out | apply below_drew | apply below_alloc)) hB); clear HB hb ho hB; have HB := HB1; clear HB1)
    all_goals
      go_wp2_with (go_at_call 66; refine (errNew_calls _ _).mono ?_; rintro e w3 ⟨g, rfl, hb⟩; have HB1 := Aside0.mk (below_step HB.out hb); clear HB hb; have HB := HB1; clear HB1)
      go_ret2
      exact ⟨_, rfl, ⟨_, rfl⟩, HB.out⟩
end Go.Proofs.Ytbcijcmmpbkkbaa.Q
