/- The days of the week by number: what impl.WeekdayText returns. No condition beyond the numbers' range. -/
import Derived.Test.YtbcijcmmpbkkbaaHWeekB
import Derived.Test.YtbcijcmmpbkkbaaHWeekC
import Derived.Maps.OwnSet
import Derived.Deep.RegionWith
import Derived.Maps.StringElems
namespace Go.Proofs.Ytbcijcmmpbkkbaa.Q
open Go.RowKit Go.Proofs.YtbcijcmmpbkkbaaW.PrintWords Go.Proofs.YtbcijcmmpbkkbaaW.PrintLast Go.Proofs.YtbcijcmmpbkkbaaW.PrintMore
open Go.Maps (Keyed int_keyed keyOf_int_mk)
attribute [local go_sem] max2_int min2_int max_two min_two max_three min_three max_four min_four
def impl_WeekdayText.f (a0 : Int) (a1 : Int) : Option (ByteArray × Bool) := if (Lit.int .i64 a0).wf = true ∧ (Lit.int .i64 a1).wf = true then some (if (inWeek a0 && inWeek a1) = true then (weekS a0 a1, true) else (⟨#[]⟩, false)) else none
set_option maxRecDepth 100000 in
set_option maxHeartbeats 800000 in
theorem impl_WeekdayText.calls (a0 : Int) (a1 : Int) (r1 : ByteArray) (r2 : Bool) (w : World) (h : impl_WeekdayText.f a0 a1 = some (r1, r2)) :
    Calls Try.prog 25 #[.int .i64 a0, .int .i64 a1] w fun e w' => e = .returned (.tuple #[.string r1, .bool r2]) ∧ Below w.heap.size w w' := by
  unfold impl_WeekdayText.f at h
  split at h
  case isFalse => cases h
  rename_i hh
  have h := Option.some.inj h
  have hu1 := Try.underlying82
  have hu2 := Try.underlying80
  have HW := Aside0.mk hh
  clear hh
  cases hi : inWeek a0 && inWeek a1
  · rw [hi, if_neg (by simp)] at h
    obtain ⟨rfl, rfl⟩ := Prod.mk.inj h
    have HI := Aside0.mk hi
    have hcn := fun (w : World) (l c : Nat) => run_convert_bytes_nil (P := Try.prog) w 75 5 Try.underlying75 Try.underlying5 l c 9 Try.underlying9
    clear hi h
    go_enter Try.func25, Try.ntmps25
    go_wp2_with fail
    refine (weekBad_calls _ _ _ HW.out.1 HW.out.2 HI.out).mono ?_
    rintro e w1 ⟨v, rfl, ⟨g, rfl⟩, hb⟩
    have HB := Aside0.mk hb
    clear hb
    go_wp2
    go_region_with fail
    all_goals
      go_wp2
      go_ret2
      exact ⟨rfl, below_drew HB.out⟩
  · rw [hi, if_pos rfl] at h
    obtain ⟨rfl, rfl⟩ := Prod.mk.inj h
    have hia : inWeek a0 = true := (Bool.and_eq_true _ _ ▸ hi).1
    have hib : inWeek a1 = true := (Bool.and_eq_true _ _ ▸ hi).2
    have HI := Aside0.mk (And.intro hia hib)
    clear hi h hia hib
    go_enter Try.func25, Try.ntmps25
    go_wp2_with fail
    refine (weekOk_calls _ _ _ HW.out.1 HW.out.2 HI.out.1 HI.out.2).mono ?_
    rintro e w1 ⟨v, rfl, ⟨g, c, n, rfl, rfl, hbt⟩, hb⟩
    have HB := Aside0.mk hb
    have hcb := run_convert_bytes_back (P := Try.prog) w1.drew 75 9 5 ⟨g, 0, none⟩ c (weekS a0 a1).data.toList Try.underlying75 Try.underlying5 Try.underlying9 hbt
    have e1 : (⟨(weekS a0 a1).data.toList.toArray⟩ : ByteArray) = weekS a0 a1 := by cases weekS a0 a1; simp
    rw [e1] at hcb
    clear hb hbt e1
    generalize (weekS a0 a1).data.toList.length = n at hcb ⊢
    go_wp2
    go_region_with fail
    all_goals
      go_wp2
      go_ret2
      exact ⟨rfl, below_drew HB.out⟩
end Go.Proofs.Ytbcijcmmpbkkbaa.Q
