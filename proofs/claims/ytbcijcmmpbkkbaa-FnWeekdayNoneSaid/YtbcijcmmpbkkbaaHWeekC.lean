/- The days of the week by number: what impl.WeekdayText returns. No condition beyond the numbers' range. -/
import Derived.Test.YtbcijcmmpbkkbaaHWeekA
import Derived.Maps.OwnSet
import Derived.Deep.RegionWith
import Derived.Maps.StringElems
namespace Go.Proofs.Ytbcijcmmpbkkbaa.Q
open Go.RowKit Go.Proofs.YtbcijcmmpbkkbaaW.PrintWords Go.Proofs.YtbcijcmmpbkkbaaW.PrintLast Go.Proofs.YtbcijcmmpbkkbaaW.PrintMore
open Go.Maps (Keyed int_keyed keyOf_int_mk)
attribute [local go_sem] max2_int min2_int max_two min_two max_three min_three max_four min_four
set_option maxRecDepth 100000 in
set_option maxHeartbeats 800000 in
theorem weekOk_calls (a b : Int) (w : World) (wa : (Lit.int .i64 a).wf = true) (wb : (Lit.int .i64 b).wf = true) (ha : inWeek a = true) (hb : inWeek b = true) :
    Calls Try.prog 51 #[.agg #[.int .i64 a, .int .i64 b]] w fun e w' => ∃ v, e = .returned (.tuple #[v, .nilIface]) ∧ BytesV w' v (weekS a b) ∧ Below w.heap.size w w' := by
  have hu1 := Try.underlying82
  have hu2 := Try.underlying80
  have HB := Aside0.mk (Below.refl w.heap.size w)
  have HKA : Aside0 (keyOf Try.prog 3 (.int .i64 a) = some (.int .i64 a)) := ⟨keyOf_int_mk Try.underlying3 wa⟩
  have HKB : Aside0 (keyOf Try.prog 3 (.int .i64 b) = some (.int .i64 b)) := ⟨keyOf_int_mk Try.underlying3 wb⟩
  have HHA := Aside0.mk ha
  have HHB := Aside0.mk hb
  clear wa wb ha hb
  have hcv := fun (w : World) (s : ByteArray) => run_bytes_of_string (P := Try.prog) w 9 75 5 s Try.underlying9 Try.underlying75 Try.underlying5
  cases hab : (a == b)
  · have HW : Aside0 (weekS a b = dayS a ++ ⟨#[58]⟩ ++ dayS b) := ⟨if_neg (by simpa using hab)⟩
    have hsa := day_size a
    have hsb := day_size b
    go_enter Try.func51, Try.ntmps51
    go_wp2
    go_region_with (go_at_call 65; refine (days_calls _).mono ?_; rintro e w1 ⟨b, rfl, hb, ho, hB⟩; have hlk := look_day w1 b ho _ HKA.out; rw [HHA.out] at hlk; have hbk := (hB.block w.heap.size (by simp)).trans (blkW rfl); have hc0 := (blk_cell hbk 0).trans rfl; have hc1 := (blk_cell hbk 1).trans rfl; clear hbk; have HB1 := Aside0.mk (below_step (by repeat (first | exact HB.out | apply below_drew | apply below_alloc)) hB); clear HB hb ho hB; have HB := HB1; clear HB1)
    all_goals
      go_wp2
      go_region_with (go_at_call 65; refine (days_calls _).mono ?_; rintro e w1 ⟨b, rfl, hb, ho, hB⟩; have hlk := look_day w1 b ho _ HKB.out; rw [HHB.out] at hlk; have hd0 := (hB.cell (World.block_lt_of_cell? _ _ hc0)).trans hc0; have hd1 := (hB.cell (World.block_lt_of_cell? _ _ hc1)).trans hc1; clear hc0 hc1; have hc0 := hd0; have hc1 := hd1; clear hd0 hd1; have HB1 := Aside0.mk (below_step (by repeat (first | exact HB.out | apply below_drew | apply below_alloc)) hB); clear HB hb ho hB; have HB := HB1; clear HB1)
    all_goals
      go_wp2
      go_ret2
      exact ⟨_, rfl, ⟨_, _, _, rfl, by rw [HW.out]; exact size_cat _ _, by rw [HW.out]; exact bytes_at _ _ _ _ _⟩, below_alloc (below_drew HB.out) _⟩
  · have HW : Aside0 (weekS a b = dayS a) := ⟨if_pos (by simpa using hab)⟩
    go_enter Try.func51, Try.ntmps51
    go_wp2
    go_region_with (go_at_call 65; refine (days_calls _).mono ?_; rintro e w1 ⟨b, rfl, hb, ho, hB⟩; have hlk := look_day w1 b ho _ HKA.out; rw [HHA.out] at hlk; have hbk := (hB.block w.heap.size (by simp)).trans (blkW rfl); have hc0 := (blk_cell hbk 0).trans rfl; have hc1 := (blk_cell hbk 1).trans rfl; clear hbk; have HB1 := Aside0.mk (below_step (by repeat (first | exact HB.out | apply below_drew | apply below_alloc)) hB); clear HB hb ho hB; have HB := HB1; clear HB1)
    all_goals
      go_wp2
      go_ret2
      exact ⟨_, rfl, ⟨_, _, _, rfl, by rw [HW.out]; exact size_len _, by rw [HW.out]; exact bytes_at _ _ _ _ _⟩, below_alloc (below_drew HB.out) _⟩
end Go.Proofs.Ytbcijcmmpbkkbaa.Q
