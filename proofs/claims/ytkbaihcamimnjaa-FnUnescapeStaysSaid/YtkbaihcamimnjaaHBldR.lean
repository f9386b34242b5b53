/- What strings.Builder's WriteRune of a sign of one byte does to a builder of the call's own. No condition beyond the length named. -/
import Derived.Test.YtkbaihcamimnjaaHBld
import Derived.Lib.Builder
import Derived.Lib.AppendStr
import Derived.Lib.UnsafeStr
import Derived.Laws.Externs
set_option linter.unusedVariables false
set_option linter.unusedSimpArgs false
namespace Go.Proofs.Ytkbaihcamimnjaa.Q
open Go.RowKit Go.Proofs.YtkbaihcamimnjaaW.PrintWords Go.Proofs.YtkbaihcamimnjaaW.PrintLast Go.Proofs.YtkbaihcamimnjaaW.PrintMore
attribute [local go_sem] max2_int min2_int max_two min_two max_three min_three max_four min_four
set_option maxHeartbeats 2000000 in
set_option maxRecDepth 100000 in
theorem appendRune_calls (B : Nat) (v : Value) (acc : List UInt8) (r : UInt8) (hr : r.toNat < 128) (w : World) (hown : w.ownsRow B 5 1 v acc.length (Lib.byteCells acc)) (hlen : acc.length + 1 ≤ 140737488355328) (hBw : B ≤ w.heap.size) :
    Calls Try.prog 26 #[v, .int .i32 (r.toNat : Int)] w fun e w' => ∃ v', e = .returned v' ∧ w'.ownsRow B 5 1 v' (acc.length + 1) (Lib.byteCells (acc ++ [r])) ∧ w.grownBy w' v.ownBlock ∧ (∃ ao n' cap, v' = .slice ao n' cap) := by
  have hus := Try.underlying55
  have he : encs (Value.int .u8) (acc.map (fun b : UInt8 => (b.toNat : Int))) = Lib.byteCells acc := by unfold encs Lib.byteCells; rw [List.map_map]; rfl
  have HR : Aside0 (Kd.R (Kd.int .u8) 5 w B (fun _ => True) v (acc.map (fun b : UInt8 => (b.toNat : Int)))) := ⟨Kd.R_of_own (by rw [he, List.length_map]; exact hown) (fun _ _ => trivial)⟩
  have HB := Aside0.mk (Below.refl B w)
  have h0 : (0 : Int) ≤ (r.toNat : Int) := by omega
  have h1 : (r.toNat : Int) ≤ 127 := by omega
  have hc : IntKind.u32.wrap (r.toNat : Int) = (r.toNat : Int) := by simp [IntKind.wrap, IntKind.bits, IntKind.signed]; omega
  have hc8 : IntKind.u8.wrap (r.toNat : Int) = (r.toNat : Int) := by simp [IntKind.wrap, IntKind.bits, IntKind.signed]; omega
  have hq := eq_true h1
  clear hown
  go_enter Try.func26, Try.ntmps26
  go_wp2_with (at_builtin; go_loud (refine Kd.R_append (Kd.int .u8) (w0 := w) B rfl (.tmp 8) (.tmp 11) 55 5 (.int .u8 0) 1 rfl hus infoU8 rfl (by decide) (by omega) v (acc.map (fun b : UInt8 => (b.toNat : Int))) (r.toNat : Int) [.int .u8 (r.toNat : Int)] (fun _ => True) (fun _ => False) rfl (by first | (go_simp; done) | (go_simp; rfl)) rfl (fun _ hk => hk.elim) (fun _ _ => trivial) HR.out HB.out ?aS ?aL ?_); (case aS => exact hBw); (case aL => rw [List.length_map]; omega); intro v1 w3 ho hb hg3 hat3; have HO3 := Aside0.mk ho; have HG3 := Aside0.mk hg3; clear ho hb hg3 hat3)
  have hown2 := Kd.own_of_R HO3.out
  obtain ⟨ao, cap, e3⟩ := Kd.R_slice HO3.out
  have he2 : encs (Value.int .u8) (acc.map (fun b : UInt8 => (b.toNat : Int)) ++ [(r.toNat : Int)]) = Lib.byteCells (acc ++ [r]) := by unfold encs Lib.byteCells; rw [List.map_append, List.map_append, List.map_map]; rfl
  have hl2 : (acc.map (fun b : UInt8 => (b.toNat : Int)) ++ [(r.toNat : Int)]).length = acc.length + 1 := by simp
  rw [he2, hl2] at hown2
  go_ret
  exact ⟨v1, rfl, hown2, HG3.out, ao, _, cap, e3⟩
set_option maxHeartbeats 2000000 in
set_option maxRecDepth 100000 in
theorem writeRune_calls (B b : Nat) (acc : List UInt8) (r : UInt8) (hr : r.toNat < 128) (w : World) (h : IsB B b acc w) (hlen : acc.length + 1 ≤ 140737488355328) (hBw : B ≤ w.heap.size) :
    Calls Try.prog 19 #[.pointer (some ⟨b, 0, none⟩), .int .i32 (r.toNat : Int)] w fun e w' => (∃ n : Int, e = .returned (.tuple #[.int .i64 n, .nilIface])) ∧ IsB B b (acc ++ [r]) w' ∧ Below B w w' ∧ KeepO b w w' := by
  have hup := Try.underlying54
  have hub := Try.underlying57
  have hus := Try.underlying55
  go_enter Try.func19, Try.ntmps19
  go_wp2_with fail
  refine (cc_calls B b acc _ h).mono ?_
  rintro e w1 ⟨rfl, h1, hb1, hk1⟩
  obtain ⟨hB, v, hbk, hown, hne⟩ := h1
  rw [Lib.byteCells_length] at hown
  have c0 : w1.cell? ⟨b, 0, none⟩ = some (.pointer (some ⟨b, 0, none⟩)) := by rw [Lib.cell_of_heap hbk]; rfl
  obtain ⟨ao0, n0, cap0, rfl⟩ : ∃ ao n' cap, v = .slice ao n' cap := by
    rcases hown.2 with ⟨hv, _⟩ | ⟨g, cap, cur, hv, _⟩
    · exact ⟨_, _, _, hv⟩
    · exact ⟨_, _, _, hv⟩
  have c1 : w1.cell? ⟨b, 1, none⟩ = some (.slice ao0 n0 cap0) := by rw [Lib.cell_of_heap hbk]; rfl
  go_wp2_with fail
  refine (appendRune_calls B _ acc r hr _ hown hlen (by have := hb1.size; omega)).mono ?_
  rintro e w2 ⟨v', rfl, hown', hgrow, ao, n', cap, rfl⟩
  have hlt : b < w1.heap.size := (Array.getElem?_eq_some_iff.1 hbk).1
  have hb2 : w2.heap[b]? = some (.cells #[.pointer (some ⟨b, 0, none⟩), .slice ao0 n0 cap0] 57 (0, 0)) := by
    rw [hgrow.block b hlt (fun e => hne e.symm)]
    exact hbk
  have d0 : w2.cell? ⟨b, 0, none⟩ = some (.pointer (some ⟨b, 0, none⟩)) := by rw [Lib.cell_of_heap hb2]; rfl
  have d1 : w2.cell? ⟨b, 1, none⟩ = some (.slice ao0 n0 cap0) := by rw [Lib.cell_of_heap hb2]; rfl
  have f1 : w2.frozen? ⟨b, 1, none⟩ = false := by simp [World.frozen?, hb2]
  have hll : acc.length + 1 = (Lib.byteCells (acc ++ [r])).length := by rw [Lib.byteCells_length, List.length_append]; rfl
  rw [hll] at hown'
  have hput := Lib.BuilderAt.put (T := 57) (e := 5) hB hb2 hown' (by decide)
  have hb3 : (w2.setCell ⟨b, 1, none⟩ (.slice ao n' cap)).heap[b]? = some (.cells #[.pointer (some ⟨b, 0, none⟩), .slice ao n' cap] 57 (0, 0)) := by simp [World.setCell, Array.getElem?_modify, hb2]
  have g1 : (w2.setCell ⟨b, 1, none⟩ (.slice ao n' cap)).cell? ⟨b, 1, none⟩ = some (.slice ao n' cap) := by rw [Lib.cell_of_heap hb3]; rfl
  have hbel := (hb1.grown hgrow (by have := hb1.size; omega) (fun k hk => (hown.lt k hk).1)).setCell (p := ⟨b, 1, none⟩) hB (.slice ao n' cap)
  go_wp2
  go_ret2
  exact ⟨⟨_, rfl⟩, .inr hput, hbel, (hk1.trans (KeepO.grown hown hgrow)).trans (KeepO.set _ _ _ _)⟩
end Go.Proofs.Ytkbaihcamimnjaa.Q
