/- What strings.Builder's WriteString does to a builder of the call's own. No condition beyond the length named. -/
import Derived.Test.YtkbaihcamimnjaaDoorHBld
import Derived.Lib.Builder
import Derived.Lib.AppendStr
import Derived.Lib.UnsafeStr
import Derived.Laws.Externs
set_option linter.unusedVariables false
set_option linter.unusedSimpArgs false
namespace Go.Proofs.YtkbaihcamimnjaaDoor.Q
open Go.RowKit Go.Proofs.YtkbaihcamimnjaaDoorW.PrintWords Go.Proofs.YtkbaihcamimnjaaDoorW.PrintLast Go.Proofs.YtkbaihcamimnjaaDoorW.PrintMore
attribute [local go_sem] max2_int min2_int max_two min_two max_three min_three max_four min_four
set_option maxHeartbeats 2000000 in
set_option maxRecDepth 100000 in
theorem writeString_calls (B b : Nat) (acc : List UInt8) (s : ByteArray) (w : World) (h : IsB B b acc w) (hlen : acc.length + s.size ≤ 140737488355328) (hBw : B ≤ w.heap.size) :
    Calls Tryd.prog 47 #[.pointer (some ⟨b, 0, none⟩), .string s] w fun e w' => e = .returned (.tuple #[.int .i64 s.size, .nilIface]) ∧ IsB B b (acc ++ s.data.toList) w' ∧ Below B w w' ∧ KeepO b w w' := by
  obtain ⟨i0, hi, hz0, hz1, hz2⟩ := info_parts infoU8
  have hup := Tryd.underlying71
  have hub := Tryd.underlying73
  have hus := Tryd.underlying31
  go_enter Tryd.func47, Tryd.ntmps47
  go_wp2_with fail
  refine (cc_calls B b acc _ h).mono ?_
  rintro e w1 ⟨rfl, h1, hb1, hk1⟩
  obtain ⟨hB, v, hbk, hown, hne⟩ := h1
  have c0 : w1.cell? ⟨b, 0, none⟩ = some (.pointer (some ⟨b, 0, none⟩)) := by rw [Lib.cell_of_heap hbk]; rfl
  have c1 : w1.cell? ⟨b, 1, none⟩ = some v := by rw [Lib.cell_of_heap hbk]; rfl
  rw [Lib.byteCells_length] at hown
  go_wp2_with (at_builtin; refine Lib.wpList_append_own_string _ rfl _ _ 31 9 rfl B 5 i0 hus Tryd.underlying9 hi hz0 hz1 hz2 _ acc.length _ rfl hown s rfl ?c3 ?c4 ?c5 ?_)
  case c3 => unfold maxLen; omega
  case c4 => omega
  case c5 => have := hb1.size; omega
  intro v' w2 hown' hgrow _
  have hlt : b < w1.heap.size := (Array.getElem?_eq_some_iff.1 hbk).1
  have hb2 : w2.heap[b]? = some (.cells #[.pointer (some ⟨b, 0, none⟩), v] 73 (0, 0)) := by
    rw [hgrow.block b hlt (fun e => hne e.symm)]
    exact hbk
  have d0 : w2.cell? ⟨b, 0, none⟩ = some (.pointer (some ⟨b, 0, none⟩)) := by rw [Lib.cell_of_heap hb2]; rfl
  have d1 : w2.cell? ⟨b, 1, none⟩ = some v := by rw [Lib.cell_of_heap hb2]; rfl
  have f1 : w2.frozen? ⟨b, 1, none⟩ = false := by simp [World.frozen?, hb2]
  obtain ⟨ao, n', cap, rfl⟩ : ∃ ao n' cap, v' = .slice ao n' cap := by
    rcases hown'.2 with ⟨hv, _⟩ | ⟨g, cap, cur, hv, _⟩
    · exact ⟨_, _, _, hv⟩
    · exact ⟨_, _, _, hv⟩
  rw [bcells_str] at hown'
  have hll : acc.length + s.size = (Lib.byteCells (acc ++ s.data.toList)).length := by rw [Lib.byteCells_length, List.length_append, Array.length_toList]; rfl
  rw [hll] at hown'
  go_wp2
  go_ret2
  refine ⟨rfl, .inr ?_, ?_, (hk1.trans (KeepO.grown hown hgrow)).trans (KeepO.set _ _ _ _)⟩
  · exact Lib.BuilderAt.put hB hb2 hown' (by decide)
  · exact (hb1.grown hgrow (by have := hb1.size; omega) (fun k hk => (hown.lt k hk).1)).setCell (p := ⟨b, 1, none⟩) hB _
end Go.Proofs.YtkbaihcamimnjaaDoor.Q
