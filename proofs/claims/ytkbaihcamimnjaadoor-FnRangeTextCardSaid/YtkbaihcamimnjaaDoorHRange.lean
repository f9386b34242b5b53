/- What impl.RangeText returns: both ends as decimal numbers with a colon between them, or the one number. Condition: the table of the powers of ten as the library lays it. -/
import Derived.WalkLawsBesides
import Derived.Deep.RegionHeld3
import Derived.Lib.ItoaLen
import Derived.Test.YtkbaihcamimnjaaDoorHBytes
import Derived.Test.YtkbaihcamimnjaaDoorHTabP
import Derived.Test.YtkbaihcamimnjaaDoorHSItoa
set_option linter.unusedVariables false
set_option linter.unusedSimpArgs false
namespace Go.Proofs.YtkbaihcamimnjaaDoor.Q
open Go.RowKit Go.Proofs.YtkbaihcamimnjaaDoorW.PrintWords Go.Proofs.YtkbaihcamimnjaaDoorW.PrintLast Go.Proofs.YtkbaihcamimnjaaDoorW.PrintMore
attribute [local go_sem] max2_int min2_int max_two min_two max_three min_three max_four min_four
def itS (n : Int) : ByteArray := ⟨(Lib.itoa n).toArray⟩
def rangeS (a b : Int) : ByteArray := if a = b then itS a else itS a ++ ⟨#[58]⟩ ++ itS b
def inI (n : Int) : Prop := -9223372036854775808 ≤ n ∧ n ≤ 9223372036854775807
instance (n : Int) : Decidable (inI n) := inferInstanceAs (Decidable (_ ∧ _))
theorem itoa_calls (n : Int) (w : World) (hn : inI n) (tb : TBp w) : Calls Tryd.prog 42 #[.int .i64 n] w fun e w' => e = .returned (.string (itS n)) ∧ Below w.heap.size w w' := by
  refine (Tryd.strconv_Itoa n hn.1 hn.2 w tb).mono ?_
  rintro e w' ⟨rfl, k, os, rfl⟩
  exact ⟨rfl, Lib.below_grow _ _ (Nat.le_refl _) _ _⟩
theorem itS_size (n : Int) (hn : inI n) : (itS n).size ≤ 21 := by
  have h := Lib.itoa_length_le n hn.1 hn.2
  have e : (itS n).size = (Lib.itoa n).length := by simp [itS, ByteArray.size]
  omega
theorem itoaS (n : Int) (hn : inI n) (a b : Int) (h : Nat) (w w1 : World) (c0 : w1.cell? ⟨h, 0, none⟩ = some (.int .i64 a)) (c1 : w1.cell? ⟨h, 1, none⟩ = some (.int .i64 b)) (tb : Aside0 (TBp w1 ∧ Below w.heap.size w w1)) :
    Calls Tryd.prog 42 #[.int .i64 n] w1 fun e w2 => e = .returned (.string (itS n)) ∧ w2.cell? ⟨h, 0, none⟩ = some (.int .i64 a) ∧ w2.cell? ⟨h, 1, none⟩ = some (.int .i64 b) ∧ Aside0 (TBp w2 ∧ Below w.heap.size w w2) := by
  refine (itoa_calls n w1 hn tb.out.1).mono ?_
  rintro e w2 ⟨rfl, hB⟩
  exact ⟨rfl, (hB.cell (World.block_lt_of_cell? _ _ c0)).trans c0, (hB.cell (World.block_lt_of_cell? _ _ c1)).trans c1, ⟨TBp.below tb.out.1 hB, tb.out.2.trans (hB.mono tb.out.2.size)⟩⟩
theorem itoaS1 (a b : Int) (w : World) (tb : TBp w) : Aside0 (TBp (w.alloc (.cells #[.int .i64 a, .int .i64 b] 51)) ∧ Below w.heap.size w (w.alloc (.cells #[.int .i64 a, .int .i64 b] 51))) :=
  have h := below_alloc (Below.refl w.heap.size w) (.cells #[.int .i64 a, .int .i64 b] 51)
  ⟨TBp.below tb h, h⟩
theorem itoaS0 (a b : Int) (w : World) (tb : TBp w) : Aside0 (TBp (w.alloc (.cells #[.int .i64 a, .int .i64 b] 51)).drew ∧ Below w.heap.size w (w.alloc (.cells #[.int .i64 a, .int .i64 b] 51)).drew) :=
  have h := below_drew (below_alloc (Below.refl w.heap.size w) (.cells #[.int .i64 a, .int .i64 b] 51))
  ⟨TBp.below tb h, h⟩
set_option maxRecDepth 100000 in
set_option maxHeartbeats 1600000 in
theorem marshal_calls (a b : Int) (w : World) (wa : inI a) (wb : inI b) (tb : TBp w) :
    Calls Tryd.prog 26 #[.agg #[.int .i64 a, .int .i64 b]] w fun e w' => ∃ v, e = .returned (.tuple #[v, .nilIface]) ∧ BytesV w' v (rangeS a b) ∧ Below w.heap.size w w' := by
  have hu2 := Tryd.underlying51
  have hcv := fun (w : World) (s : ByteArray) => run_bytes_of_string (P := Tryd.prog) w 9 31 5 s Tryd.underlying9 Tryd.underlying31 Tryd.underlying5
  have HT := itoaS0 a b w tb
  have HT1 := itoaS1 a b w tb
  have hsa := itS_size a wa
  have hsb := itS_size b wb
  clear tb
  cases hab : (a == b)
  · have HW : Aside0 (rangeS a b = itS a ++ ⟨#[58]⟩ ++ itS b) := ⟨if_neg (by simpa using hab)⟩
    have z1 : (9223372036854775807 < (itS a).size + 1) = False := eq_false (by omega)
    have z2 : (9223372036854775807 < (itS a).size + 1 + (itS b).size) = False := eq_false (by omega)
    go_enter Tryd.func26, Tryd.ntmps26
    go_wp2
    go_region_held3 (fun w' => w'.cell? ⟨w.heap.size, 0, none⟩ = some (.int .i64 a) ∧ w'.cell? ⟨w.heap.size, 1, none⟩ = some (.int .i64 b) ∧ Aside0 (TBp w' ∧ Below w.heap.size w w'))
      (first | (refine ⟨?_, ?_, HT⟩ <;> (simp; done)) | (refine ⟨?_, ?_, ?_⟩ <;> assumption) | go_keep)
      (first | (go_at_call 42; refine (itoaS a wa a b w.heap.size w _ ?_ ?_ ?_).mono ?_; (first | assumption | simp); (first | assumption | simp); (first | exact HT | assumption); rintro e w1 ⟨rfl, g0, g1, g2⟩) | (go_at_call 42; refine (itoaS b wb a b w.heap.size w _ ?_ ?_ ?_).mono ?_; (first | assumption | simp); (first | assumption | simp); (first | exact HT | assumption); rintro e w1 ⟨rfl, g0, g1, g2⟩))
    go_wp2
    go_ret2
    exact ⟨_, rfl, ⟨_, _, _, rfl, by rw [HW.out]; exact size_cat _ _, by rw [HW.out]; exact bytes_at _ _ _ _ _⟩, by repeat (first | exact g2.out.2 | apply below_drew | apply below_alloc)⟩
  · have HW : Aside0 (rangeS a b = itS a) := ⟨if_pos (by simpa using hab)⟩
    go_enter Tryd.func26, Tryd.ntmps26
    go_wp2_with (go_at_call 42; go_loud (refine (itoaS a wa a b w.heap.size w _ (by simp) (by simp) HT1).mono ?_); rintro e w1 ⟨rfl, g0, g1, g2⟩)
    go_ret2
    exact ⟨_, rfl, ⟨_, _, _, rfl, by rw [HW.out]; exact size_len _, by rw [HW.out]; exact bytes_at _ _ _ _ _⟩, by repeat (first | exact g2.out.2 | apply below_drew | apply below_alloc)⟩
def impl_RangeText.f (a0 : Int) (a1 : Int) : Option (ByteArray) := if inI a0 ∧ inI a1 then some (rangeS a0 a1) else none
set_option maxRecDepth 100000 in
set_option maxHeartbeats 1600000 in
theorem impl_RangeText.calls (a0 : Int) (a1 : Int) (r : ByteArray) (w : World) (tb : TBp w) (h : impl_RangeText.f a0 a1 = some r) :
    Calls Tryd.prog 12 #[.int .i64 a0, .int .i64 a1] w fun e w' => e = .returned (.string r) ∧ Below w.heap.size w w' := by
  unfold impl_RangeText.f at h
  split at h
  case isFalse => cases h
  case isTrue hi =>
  obtain rfl := Option.some.inj h
  have HI := Aside0.mk hi
  have HT := Aside0.mk tb
  clear hi h tb
  go_enter Tryd.func12, Tryd.ntmps12
  go_wp2_with fail
  refine (marshal_calls a0 a1 _ HI.out.1 HI.out.2 HT.out).mono ?_
  rintro e w1 ⟨v, rfl, ⟨g, c, n, rfl, rfl, hbt⟩, hb⟩
  have HB := Aside0.mk hb
  have hcb := run_convert_bytes_back (P := Tryd.prog) w1 31 9 5 ⟨g, 0, none⟩ c (rangeS a0 a1).data.toList Tryd.underlying31 Tryd.underlying5 Tryd.underlying9 hbt
  have e1 : (⟨(rangeS a0 a1).data.toList.toArray⟩ : ByteArray) = rangeS a0 a1 := by cases rangeS a0 a1; simp
  rw [e1] at hcb
  clear hb hbt e1
  generalize (rangeS a0 a1).data.toList.length = n at hcb ⊢
  go_wp2
  go_ret
  exact ⟨rfl, HB.out⟩
end Go.Proofs.YtkbaihcamimnjaaDoor.Q
