/- What strings.Builder's WriteByte does to a builder of the call's own. No condition beyond the length named. -/
import Derived.Test.YtkbaihcamimnjaaHBld
set_option linter.unusedVariables false
set_option linter.unusedSimpArgs false
namespace Go.Proofs.Ytkbaihcamimnjaa.Q
open Go.RowKit Go.Proofs.YtkbaihcamimnjaaW.PrintWords Go.Proofs.YtkbaihcamimnjaaW.PrintLast Go.Proofs.YtkbaihcamimnjaaW.PrintMore
attribute [local go_sem] max2_int min2_int max_two min_two max_three min_three max_four min_four
set_option maxHeartbeats 2000000 in
set_option maxRecDepth 100000 in
theorem writeByte_calls (B b : Nat) (acc : List UInt8) (r : UInt8) (w : World) (h : IsB B b acc w) (hlen : acc.length + 1 ≤ 140737488355328) (hBw : B ≤ w.heap.size) :
    Calls Try.prog 17 #[.pointer (some ⟨b, 0, none⟩), .int .u8 (r.toNat : Int)] w fun e w' => e = .returned .nilIface ∧ IsB B b (acc ++ [r]) w' ∧ Below B w w' ∧ KeepO b w w' := by
  have hup := Try.underlying54
  have hub := Try.underlying57
  have hus := Try.underlying55
  go_enter Try.func17, Try.ntmps17
  go_wp2_with fail
  refine (cc_calls B b acc _ h).mono ?_
  rintro e w1 ⟨rfl, h1, hb1, hk1⟩
  obtain ⟨hB, v, hbk, hown, hne⟩ := h1
  rw [Lib.byteCells_length] at hown
  have c0 : w1.cell? ⟨b, 0, none⟩ = some (.pointer (some ⟨b, 0, none⟩)) := by rw [Lib.cell_of_heap hbk]; rfl
  obtain ⟨ao0, n0, cap0, rfl⟩ : ∃ ao n' cap, v = .slice ao n' cap := by
    rcases hown.2 with ⟨hv, _⟩ | ⟨g, cap, cur, hv, _⟩
    · exact ⟨_, _, _, hv⟩
    · exact ⟨_, _, _, hv⟩
  have c1 : w1.cell? ⟨b, 1, none⟩ = some (.slice ao0 n0 cap0) := by rw [Lib.cell_of_heap hbk]; rfl
  have he : encs (Value.int .u8) (acc.map (fun b : UInt8 => (b.toNat : Int))) = Lib.byteCells acc := by unfold encs Lib.byteCells; rw [List.map_map]; rfl
  have HR : Aside0 (Kd.R (Kd.int .u8) 5 w1 B (fun _ => True) (.slice ao0 n0 cap0) (acc.map (fun b : UInt8 => (b.toNat : Int)))) := ⟨Kd.R_of_own (by rw [he, List.length_map]; exact hown) (fun _ _ => trivial)⟩
  have HB := Aside0.mk (Below.refl B w1)
  have he2 : encs (Value.int .u8) (acc.map (fun b : UInt8 => (b.toNat : Int)) ++ [(r.toNat : Int)]) = Lib.byteCells (acc ++ [r]) := by unfold encs Lib.byteCells; rw [List.map_append, List.map_append, List.map_map]; rfl
  have hl2 : (acc.map (fun b : UInt8 => (b.toNat : Int)) ++ [(r.toNat : Int)]).length = acc.length + 1 := by simp
  have hlt : b < w1.heap.size := (Array.getElem?_eq_some_iff.1 hbk).1
  have HBK := Aside0.mk hbk
  have HNE := Aside0.mk hne
  have HOWN := Aside0.mk hown
  clear hbk hown
  go_wp2_with (at_builtin; go_loud (refine Kd.R_append (Kd.int .u8) (w0 := w1) B rfl (.tmp 11) (.tmp 13) 55 5 (.int .u8 0) 1 rfl hus infoU8 rfl (by decide) (by omega) (.slice ao0 n0 cap0) (acc.map (fun b : UInt8 => (b.toNat : Int))) (r.toNat : Int) [.int .u8 (r.toNat : Int)] (fun _ => True) (fun _ => False) rfl (by first | (go_simp; done) | (go_simp; rfl)) rfl (fun _ hk => hk.elim) (fun _ _ => trivial) HR.out HB.out ?aS ?aL ?_); go_loud ((case aS => have := hb1.size; omega)); go_loud ((case aL => rw [List.length_map]; omega)); go_loud (intro v1 w3 ho hb hg3 hat3); go_loud (obtain ⟨ao, cap, e3⟩ := Kd.R_slice ho); go_loud (have hown2 := Kd.own_of_R ho); go_loud (subst e3); go_loud (rw [he2] at hown2); go_loud (rw [hl2] at hown2); go_loud (have HO3 := Aside0.mk hown2); go_loud (have HG3 := Aside0.mk hg3); go_loud (have hb2 := (hg3.block b hlt (fun e => HNE.out e.symm)).trans HBK.out); go_loud (have d0 : w3.cell? ⟨b, 0, none⟩ = some (.pointer (some ⟨b, 0, none⟩)) := by (rw [Lib.cell_of_heap hb2] <;> rfl)); go_loud (have d1 : w3.cell? ⟨b, 1, none⟩ = some (.slice ao0 n0 cap0) := by (rw [Lib.cell_of_heap hb2] <;> rfl)); go_loud (have f1 : w3.frozen? ⟨b, 1, none⟩ = false := by simp [World.frozen?, hb2]); go_loud (have HB2 := Aside0.mk hb2); go_loud (clear ho hb hat3 hown2 hb2 hg3))
  have hll : acc.length + 1 = (Lib.byteCells (acc ++ [r])).length := by rw [Lib.byteCells_length, List.length_append]; rfl
  go_ret
  refine ⟨rfl, .inr ?_, ?_, (hk1.trans (KeepO.grown HOWN.out HG3.out)).trans (KeepO.set _ _ _ _)⟩
  · exact Lib.BuilderAt.put hB HB2.out (show w3.ownsRow B 5 1 (Value.slice ao (acc.length + 1) cap) (Lib.byteCells (acc ++ [r])).length (Lib.byteCells (acc ++ [r])) by have z := HO3.out; generalize hv9 : (Value.slice ao (acc.length + 1) cap) = v9 at z ⊢; rwa [hll] at z) (by decide)
  · exact (hb1.grown HG3.out (by have := hb1.size; omega) (fun k hk => (HOWN.out.lt k hk).1)).setCell (p := ⟨b, 1, none⟩) hB _
end Go.Proofs.Ytkbaihcamimnjaa.Q
