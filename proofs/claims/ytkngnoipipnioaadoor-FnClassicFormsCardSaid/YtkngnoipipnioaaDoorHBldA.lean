/- A builder of the call's own: what it holds, and strings.Builder's copyCheck. No condition. What strings.Builder's WriteRune of a sign of one byte does to a builder of the call's own. No condition beyond the length named. What strings.Builder's WriteString does to a builder of the call's own. No condition beyond the length named. What strings.Builder's WriteByte does to a builder of the call's own. No condition beyond the length named. strings.Builder's WriteRune at every character. No condition beyond the builder's state. -/
import Derived.Test.YtkngnoipipnioaaDoorHKinds
import Derived.Lib.Builder
import Derived.Lib.AppendStr
import Derived.Lib.UnsafeStr
import Derived.Laws.Externs
import Derived.Test.YtkngnoipipnioaaDoorHSApr
set_option linter.unusedVariables false
set_option linter.unusedSimpArgs false
namespace Go.Proofs.YtkngnoipipnioaaDoor.Q
open Go.RowKit Go.Proofs.YtkngnoipipnioaaDoorW.PrintWords Go.Proofs.YtkngnoipipnioaaDoorW.PrintLast Go.Proofs.YtkngnoipipnioaaDoorW.PrintMore
attribute [local go_sem] max2_int min2_int max_two min_two max_three min_three max_four min_four
abbrev BAt (B b : Nat) (p : Value) (acc : List UInt8) (w : World) : Prop := Lib.BuilderAt 65 5 B b p (Lib.byteCells acc) w
abbrev IsB (B b : Nat) (acc : List UInt8) (w : World) : Prop := Lib.IsBuilder 65 5 B b (Lib.byteCells acc) w
/-- Blocks that are neither the builder nor a row of bytes stay. -/
def KeepO (b : Nat) (w w' : World) : Prop := ∀ k o, w.heap[k]? = some o → k ≠ b → (∀ cs fr, o ≠ .cells cs 5 fr) → w'.heap[k]? = some o
theorem KeepO.refl (b : Nat) (w : World) : KeepO b w w := fun _ _ h _ _ => h
theorem KeepO.trans {b : Nat} {w w1 w2 : World} (h : KeepO b w w1) (k : KeepO b w1 w2) : KeepO b w w2 := fun i o hh hb ht => k i o (h i o hh hb ht) hb ht
theorem KeepO.set (b : Nat) (w : World) (o : Nat) (v : Value) : KeepO b w (w.setCell ⟨b, o, none⟩ v) := fun k q h hb _ => by rw [Below.heap_setCell _ _ _ _ hb]; exact h
theorem KeepO.grown {b : Nat} {B n : Nat} {v : Value} {xs : List Value} {w w' : World} (ho : w.ownsRow B 5 1 v n xs) (hg : w.grownBy w' v.ownBlock) : KeepO b w w' := fun k o h _ ht => by
  have hk : k < w.heap.size := (Array.getElem?_eq_some_iff.1 h).1
  rw [hg.block k hk (fun e => ?_)]
  · exact h
  · obtain ⟨cells, hc⟩ := own_typed ho k e.symm
    rw [hc] at h
    injection h with h
    exact ht _ _ h.symm
theorem infoBld : (Tryd.prog.info? 65).map (·.size) = some 2 := by kernel_rfl
theorem infoU8 : (Tryd.prog.info? 5).map (fun i => (i.zero, i.size, i.bytes)) = some (some (.int .u8 0), 1, 1) := by kernel_rfl
set_option maxHeartbeats 1000000 in
set_option maxRecDepth 100000 in
theorem cc_used (b : Nat) (w : World) (h0 : w.cell? ⟨b, 0, none⟩ = some (.pointer (some ⟨b, 0, none⟩))) :
    Calls Tryd.prog 60 #[.pointer (some ⟨b, 0, none⟩)] w fun e w' => e = .returned (.tuple #[]) ∧ w' = w := by
  obtain ⟨j, hj, _⟩ := Option.map_eq_some_iff.1 infoBld
  have hup := Tryd.underlying63
  have hub := Tryd.underlying65
  go_enter Tryd.func60, Tryd.ntmps60
  go_wp2
  rw [Lib.run_neq_ptr_same w _ hup hj]
  go_wp2
  go_end0
  exact ⟨rfl, rfl⟩
set_option maxHeartbeats 1000000 in
set_option maxRecDepth 100000 in
theorem cc_fresh (b : Nat) (w : World) (h0 : w.cell? ⟨b, 0, none⟩ = some (.pointer none)) (hsh : w.shape? b = some (65, 2)) (hfz : w.frozen? ⟨b, 0, none⟩ = false) :
    Calls Tryd.prog 60 #[.pointer (some ⟨b, 0, none⟩)] w fun e w' => e = .returned (.tuple #[]) ∧ w' = w.setCell ⟨b, 0, none⟩ (.pointer (some ⟨b, 0, none⟩)) := by
  obtain ⟨j, hj, hjs⟩ := Option.map_eq_some_iff.1 infoBld
  have hup := Tryd.underlying63
  have hub := Tryd.underlying65
  go_enter Tryd.func60, Tryd.ntmps60
  go_wp2
  rw [Lib.run_to_unsafe w ⟨b, 0, none⟩ hup Tryd.underlying99 hj (by rw [hjs]; decide) hsh (Nat.zero_lt_succ 1)]
  simp only [Result.andThen]
  rw [Oper.upon_value]
  go_wp2
  rw [run_callFunc_extern Tryd.func72 (by kernel_rfl) (by kernel_rfl) (by kernel_rfl) (e := Extern.AbiNoEscape.same) (by kernel_rfl)]
  rw [Lib.run_noEscape]
  simp only [Result.andThen]
  rw [Oper.upon_value]
  go_wp2
  rw [Lib.run_from_unsafe w ⟨b, 0, none⟩ Tryd.underlying99 hup hj hsh (by kernel_rfl)]
  simp only [Result.andThen]
  rw [Oper.upon_value]
  go_wp2
  go_end0
  exact ⟨rfl, rfl⟩
theorem cc_calls (B b : Nat) (acc : List UInt8) (w : World) (h : IsB B b acc w) :
    Calls Tryd.prog 60 #[.pointer (some ⟨b, 0, none⟩)] w fun e w' => e = .returned (.tuple #[]) ∧ BAt B b (.pointer (some ⟨b, 0, none⟩)) acc w' ∧ Below B w w' ∧ KeepO b w w' := by
  rcases h with h | h
  · refine (cc_fresh b w h.cell0 h.shape h.frozen0).mono ?_
    rintro e w' ⟨rfl, rfl⟩
    exact ⟨rfl, h.used _, (Below.refl B w).setCell (p := ⟨b, 0, none⟩) h.1 _, KeepO.set _ _ _ _⟩
  · refine (cc_used b w h.cell0).mono ?_
    rintro e w' ⟨rfl, rfl⟩
    exact ⟨rfl, h, Below.refl B _, KeepO.refl _ _⟩
theorem bcells_str (acc : List UInt8) (s : ByteArray) : Lib.byteCells acc ++ Lib.strCells s = Lib.byteCells (acc ++ s.data.toList) := by rw [Lib.byteCells_append, Lib.strCells_eq]
end Go.Proofs.YtkngnoipipnioaaDoor.Q
namespace Go.Proofs.YtkngnoipipnioaaDoor.Q
open Go.RowKit Go.Proofs.YtkngnoipipnioaaDoorW.PrintWords Go.Proofs.YtkngnoipipnioaaDoorW.PrintLast Go.Proofs.YtkngnoipipnioaaDoorW.PrintMore
attribute [local go_sem] max2_int min2_int max_two min_two max_three min_three max_four min_four
set_option maxHeartbeats 2000000 in
set_option maxRecDepth 100000 in
theorem appendRune_calls (B : Nat) (v : Value) (acc : List UInt8) (r : UInt8) (hr : r.toNat < 128) (w : World) (hown : w.ownsRow B 5 1 v acc.length (Lib.byteCells acc)) (hlen : acc.length + 1 ≤ 140737488355328) (hBw : B ≤ w.heap.size) :
    Calls Tryd.prog 61 #[v, .int .i32 (r.toNat : Int)] w fun e w' => ∃ v', e = .returned v' ∧ w'.ownsRow B 5 1 v' (acc.length + 1) (Lib.byteCells (acc ++ [r])) ∧ w.grownBy w' v.ownBlock ∧ (∃ ao n' cap, v' = .slice ao n' cap) := by
  have hus := Tryd.underlying22
  have he : encs (Value.int .u8) (acc.map (fun b : UInt8 => (b.toNat : Int))) = Lib.byteCells acc := by unfold encs Lib.byteCells; rw [List.map_map]; rfl
  have HR : Aside0 (Kd.R (Kd.int .u8) 5 w B (fun _ => True) v (acc.map (fun b : UInt8 => (b.toNat : Int)))) := ⟨Kd.R_of_own (by rw [he, List.length_map]; exact hown) (fun _ _ => trivial)⟩
  have HB := Aside0.mk (Below.refl B w)
  have h0 : (0 : Int) ≤ (r.toNat : Int) := by omega
  have h1 : (r.toNat : Int) ≤ 127 := by omega
  have hc : IntKind.u32.wrap (r.toNat : Int) = (r.toNat : Int) := by simp [IntKind.wrap, IntKind.bits, IntKind.signed]; omega
  have hc8 : IntKind.u8.wrap (r.toNat : Int) = (r.toNat : Int) := by simp [IntKind.wrap, IntKind.bits, IntKind.signed]; omega
  have hq := eq_true h1
  clear hown
  go_enter Tryd.func61, Tryd.ntmps61
  go_wp2_with (at_builtin; go_loud (refine Kd.R_append (Kd.int .u8) (w0 := w) B rfl (.tmp 8) (.tmp 11) 22 5 (.int .u8 0) 1 rfl hus infoU8 rfl (by decide) (by omega) v (acc.map (fun b : UInt8 => (b.toNat : Int))) (r.toNat : Int) [.int .u8 (r.toNat : Int)] (fun _ => True) (fun _ => False) rfl (by first | (go_simp; done) | (go_simp; rfl)) rfl (fun _ hk => hk.elim) (fun _ _ => trivial) HR.out HB.out ?aS ?aL ?_); (case aS => exact hBw); (case aL => rw [List.length_map]; omega); intro v1 w3 ho hb hg3 hat3; have HO3 := Aside0.mk ho; have HG3 := Aside0.mk hg3; clear ho hb hg3 hat3)
  have hown2 := Kd.own_of_R HO3.out
  obtain ⟨ao, cap, e3⟩ := Kd.R_slice HO3.out
  have he2 : encs (Value.int .u8) (acc.map (fun b : UInt8 => (b.toNat : Int)) ++ [(r.toNat : Int)]) = Lib.byteCells (acc ++ [r]) := by unfold encs Lib.byteCells; rw [List.map_append, List.map_append, List.map_map]; rfl
  have hl2 : (acc.map (fun b : UInt8 => (b.toNat : Int)) ++ [(r.toNat : Int)]).length = acc.length + 1 := by simp
  rw [he2, hl2] at hown2
  go_ret
  exact ⟨v1, rfl, hown2, HG3.out, ao, _, cap, e3⟩
set_option maxHeartbeats 2000000 in
set_option maxRecDepth 100000 in
theorem writeRune_calls (B b : Nat) (acc : List UInt8) (r : UInt8) (hr : r.toNat < 128) (w : World) (h : IsB B b acc w) (hlen : acc.length + 1 ≤ 140737488355328) (hBw : B ≤ w.heap.size) :
    Calls Tryd.prog 37 #[.pointer (some ⟨b, 0, none⟩), .int .i32 (r.toNat : Int)] w fun e w' => (∃ n : Int, e = .returned (.tuple #[.int .i64 n, .nilIface])) ∧ IsB B b (acc ++ [r]) w' ∧ Below B w w' ∧ KeepO b w w' := by
  have hup := Tryd.underlying63
  have hub := Tryd.underlying65
  have hus := Tryd.underlying22
  go_enter Tryd.func37, Tryd.ntmps37
  go_wp2_with fail
  refine (cc_calls B b acc _ h).mono ?_
  rintro e w1 ⟨rfl, h1, hb1, hk1⟩
  obtain ⟨hB, v, hbk, hown, hne⟩ := h1
  rw [Lib.byteCells_length] at hown
  have c0 : w1.cell? ⟨b, 0, none⟩ = some (.pointer (some ⟨b, 0, none⟩)) := by rw [Lib.cell_of_heap hbk]; rfl
  obtain ⟨ao0, n0, cap0, rfl⟩ : ∃ ao n' cap, v = .slice ao n' cap := by
    rcases hown.2 with ⟨hv, _⟩ | ⟨g, cap, cur, hv, _⟩
    · exact ⟨_, _, _, hv⟩
    · exact ⟨_, _, _, hv⟩
  have c1 : w1.cell? ⟨b, 1, none⟩ = some (.slice ao0 n0 cap0) := by rw [Lib.cell_of_heap hbk]; rfl
  go_wp2_with fail
  refine (appendRune_calls B _ acc r hr _ hown hlen (by have := hb1.size; omega)).mono ?_
  rintro e w2 ⟨v', rfl, hown', hgrow, ao, n', cap, rfl⟩
  have hlt : b < w1.heap.size := (Array.getElem?_eq_some_iff.1 hbk).1
  have hb2 : w2.heap[b]? = some (.cells #[.pointer (some ⟨b, 0, none⟩), .slice ao0 n0 cap0] 65 (0, 0)) := by
    rw [hgrow.block b hlt (fun e => hne e.symm)]
    exact hbk
  have d0 : w2.cell? ⟨b, 0, none⟩ = some (.pointer (some ⟨b, 0, none⟩)) := by rw [Lib.cell_of_heap hb2]; rfl
  have d1 : w2.cell? ⟨b, 1, none⟩ = some (.slice ao0 n0 cap0) := by rw [Lib.cell_of_heap hb2]; rfl
  have f1 : w2.frozen? ⟨b, 1, none⟩ = false := by simp [World.frozen?, hb2]
  have hll : acc.length + 1 = (Lib.byteCells (acc ++ [r])).length := by rw [Lib.byteCells_length, List.length_append]; rfl
  rw [hll] at hown'
  have hput := Lib.BuilderAt.put (T := 65) (e := 5) hB hb2 hown' (by decide)
  have hb3 : (w2.setCell ⟨b, 1, none⟩ (.slice ao n' cap)).heap[b]? = some (.cells #[.pointer (some ⟨b, 0, none⟩), .slice ao n' cap] 65 (0, 0)) := by simp [World.setCell, Array.getElem?_modify, hb2]
  have g1 : (w2.setCell ⟨b, 1, none⟩ (.slice ao n' cap)).cell? ⟨b, 1, none⟩ = some (.slice ao n' cap) := by rw [Lib.cell_of_heap hb3]; rfl
  have hbel := (hb1.grown hgrow (by have := hb1.size; omega) (fun k hk => (hown.lt k hk).1)).setCell (p := ⟨b, 1, none⟩) hB (.slice ao n' cap)
  go_wp2
  go_ret2
  exact ⟨⟨_, rfl⟩, .inr hput, hbel, (hk1.trans (KeepO.grown hown hgrow)).trans (KeepO.set _ _ _ _)⟩
end Go.Proofs.YtkngnoipipnioaaDoor.Q
namespace Go.Proofs.YtkngnoipipnioaaDoor.Q
open Go.RowKit Go.Proofs.YtkngnoipipnioaaDoorW.PrintWords Go.Proofs.YtkngnoipipnioaaDoorW.PrintLast Go.Proofs.YtkngnoipipnioaaDoorW.PrintMore
attribute [local go_sem] max2_int min2_int max_two min_two max_three min_three max_four min_four
set_option maxHeartbeats 2000000 in
set_option maxRecDepth 100000 in
theorem writeByte_calls (B b : Nat) (acc : List UInt8) (r : UInt8) (w : World) (h : IsB B b acc w) (hlen : acc.length + 1 ≤ 140737488355328) (hBw : B ≤ w.heap.size) :
    Calls Tryd.prog 36 #[.pointer (some ⟨b, 0, none⟩), .int .u8 (r.toNat : Int)] w fun e w' => e = .returned .nilIface ∧ IsB B b (acc ++ [r]) w' ∧ Below B w w' ∧ KeepO b w w' := by
  have hup := Tryd.underlying63
  have hub := Tryd.underlying65
  have hus := Tryd.underlying22
  go_enter Tryd.func36, Tryd.ntmps36
  go_wp2_with fail
  refine (cc_calls B b acc _ h).mono ?_
  rintro e w1 ⟨rfl, h1, hb1, hk1⟩
  obtain ⟨hB, v, hbk, hown, hne⟩ := h1
  rw [Lib.byteCells_length] at hown
  have c0 : w1.cell? ⟨b, 0, none⟩ = some (.pointer (some ⟨b, 0, none⟩)) := by rw [Lib.cell_of_heap hbk]; rfl
  obtain ⟨ao0, n0, cap0, rfl⟩ : ∃ ao n' cap, v = .slice ao n' cap := by
    rcases hown.2 with ⟨hv, _⟩ | ⟨g, cap, cur, hv, _⟩
    · exact ⟨_, _, _, hv⟩
    · exact ⟨_, _, _, hv⟩
  have c1 : w1.cell? ⟨b, 1, none⟩ = some (.slice ao0 n0 cap0) := by rw [Lib.cell_of_heap hbk]; rfl
  have he : encs (Value.int .u8) (acc.map (fun b : UInt8 => (b.toNat : Int))) = Lib.byteCells acc := by unfold encs Lib.byteCells; rw [List.map_map]; rfl
  have HR : Aside0 (Kd.R (Kd.int .u8) 5 w1 B (fun _ => True) (.slice ao0 n0 cap0) (acc.map (fun b : UInt8 => (b.toNat : Int)))) := ⟨Kd.R_of_own (by rw [he, List.length_map]; exact hown) (fun _ _ => trivial)⟩
  have HB := Aside0.mk (Below.refl B w1)
  have he2 : encs (Value.int .u8) (acc.map (fun b : UInt8 => (b.toNat : Int)) ++ [(r.toNat : Int)]) = Lib.byteCells (acc ++ [r]) := by unfold encs Lib.byteCells; rw [List.map_append, List.map_append, List.map_map]; rfl
  have hl2 : (acc.map (fun b : UInt8 => (b.toNat : Int)) ++ [(r.toNat : Int)]).length = acc.length + 1 := by simp
  have hlt : b < w1.heap.size := (Array.getElem?_eq_some_iff.1 hbk).1
  have HBK := Aside0.mk hbk
  have HNE := Aside0.mk hne
  have HOWN := Aside0.mk hown
  clear hbk hown
  go_wp2_with (at_builtin; go_loud (refine Kd.R_append (Kd.int .u8) (w0 := w1) B rfl (.tmp 11) (.tmp 13) 22 5 (.int .u8 0) 1 rfl hus infoU8 rfl (by decide) (by omega) (.slice ao0 n0 cap0) (acc.map (fun b : UInt8 => (b.toNat : Int))) (r.toNat : Int) [.int .u8 (r.toNat : Int)] (fun _ => True) (fun _ => False) rfl (by first | (go_simp; done) | (go_simp; rfl)) rfl (fun _ hk => hk.elim) (fun _ _ => trivial) HR.out HB.out ?aS ?aL ?_); go_loud ((case aS => have := hb1.size; omega)); go_loud ((case aL => rw [List.length_map]; omega)); go_loud (intro v1 w3 ho hb hg3 hat3); go_loud (obtain ⟨ao, cap, e3⟩ := Kd.R_slice ho); go_loud (have hown2 := Kd.own_of_R ho); go_loud (subst e3); go_loud (rw [he2] at hown2); go_loud (rw [hl2] at hown2); go_loud (have HO3 := Aside0.mk hown2); go_loud (have HG3 := Aside0.mk hg3); go_loud (have hb2 := (hg3.block b hlt (fun e => HNE.out e.symm)).trans HBK.out); go_loud (have d0 : w3.cell? ⟨b, 0, none⟩ = some (.pointer (some ⟨b, 0, none⟩)) := by (rw [Lib.cell_of_heap hb2] <;> rfl)); go_loud (have d1 : w3.cell? ⟨b, 1, none⟩ = some (.slice ao0 n0 cap0) := by (rw [Lib.cell_of_heap hb2] <;> rfl)); go_loud (have f1 : w3.frozen? ⟨b, 1, none⟩ = false := by simp [World.frozen?, hb2]); go_loud (have HB2 := Aside0.mk hb2); go_loud (clear ho hb hat3 hown2 hb2 hg3))
  have hll : acc.length + 1 = (Lib.byteCells (acc ++ [r])).length := by rw [Lib.byteCells_length, List.length_append]; rfl
  go_ret
  refine ⟨rfl, .inr ?_, ?_, (hk1.trans (KeepO.grown HOWN.out HG3.out)).trans (KeepO.set _ _ _ _)⟩
  · exact Lib.BuilderAt.put hB HB2.out (show w3.ownsRow B 5 1 (Value.slice ao (acc.length + 1) cap) (Lib.byteCells (acc ++ [r])).length (Lib.byteCells (acc ++ [r])) by have z := HO3.out; generalize hv9 : (Value.slice ao (acc.length + 1) cap) = v9 at z ⊢; rwa [hll] at z) (by decide)
  · exact (hb1.grown HG3.out (by have := hb1.size; omega) (fun k hk => (HOWN.out.lt k hk).1)).setCell (p := ⟨b, 1, none⟩) hB _
end Go.Proofs.YtkngnoipipnioaaDoor.Q
namespace Go.Proofs.YtkngnoipipnioaaDoor.Q
open Go.RowKit Go.Proofs.YtkngnoipipnioaaDoorW.PrintWords Go.Proofs.YtkngnoipipnioaaDoorW.PrintLast Go.Proofs.YtkngnoipipnioaaDoorW.PrintMore
attribute [local go_sem] max2_int min2_int max_two min_two max_three min_three max_four min_four
theorem appendRuneA_calls (B : Nat) (v : Value) (acc : List UInt8) (r : Int) (h0 : -2147483648 ≤ r) (h1 : r ≤ 2147483647) (w : World) (hown : w.ownsRow B 5 1 v acc.length (Lib.byteCells acc)) (hlen : acc.length + 4 ≤ 140737488355328) (hBw : B ≤ w.heap.size) :
    Calls Tryd.prog 61 #[v, .int .i32 r] w fun e w' => ∃ v', e = .returned v' ∧ w'.ownsRow B 5 1 v' (acc ++ Lib.encodeRune r).length (Lib.byteCells (acc ++ Lib.encodeRune r)) ∧ w.grownBy w' v.ownBlock ∧ (∃ ao n' cap, v' = .slice ao n' cap) := by
  refine (Tryd.utf8_AppendRune_plain B v acc.length (Lib.byteCells acc) r h0 h1 w hown hlen hBw).mono ?_
  rintro e w' ⟨v', rfl, ho, o, hg⟩
  rw [← Lib.byteCells_encodeRune, Lib.byteCells_length, ← List.length_append, ← Lib.byteCells_append] at ho
  refine ⟨v', rfl, ho, ?_, ?_⟩
  · have ha := World.grownBy_alloc w o v.ownBlock
    exact ⟨hg.os.trans ha.os, hg.tape.trans ha.tape, hg.output.trans ha.output, Nat.le_trans ha.size hg.size, fun i hi hr => (hg.block i (Nat.lt_of_lt_of_le hi ha.size) hr).trans (ha.block i hi hr)⟩
  · rcases ho.2 with ⟨hv, _⟩ | ⟨g, cap, cur, hv, _⟩
    · exact ⟨_, _, _, hv⟩
    · exact ⟨_, _, _, hv⟩
set_option maxHeartbeats 2000000 in
set_option maxRecDepth 100000 in
theorem writeRuneA_calls (B b : Nat) (acc : List UInt8) (r : Int) (h0 : -2147483648 ≤ r) (h1 : r ≤ 2147483647) (w : World) (h : IsB B b acc w) (hlen : acc.length + 4 ≤ 140737488355328) (hBw : B ≤ w.heap.size) :
    Calls Tryd.prog 37 #[.pointer (some ⟨b, 0, none⟩), .int .i32 r] w fun e w' => (∃ n : Int, e = .returned (.tuple #[.int .i64 n, .nilIface])) ∧ IsB B b (acc ++ Lib.encodeRune r) w' ∧ Below B w w' ∧ KeepO b w w' := by
  have hup := Tryd.underlying63
  have hub := Tryd.underlying65
  have hus := Tryd.underlying22
  go_enter Tryd.func37, Tryd.ntmps37
  go_wp2_with fail
  refine (cc_calls B b acc _ h).mono ?_
  rintro e w1 ⟨rfl, h1', hb1, hk1⟩
  obtain ⟨hB, v, hbk, hown, hne⟩ := h1'
  rw [Lib.byteCells_length] at hown
  have c0 : w1.cell? ⟨b, 0, none⟩ = some (.pointer (some ⟨b, 0, none⟩)) := by rw [Lib.cell_of_heap hbk]; rfl
  obtain ⟨ao0, n0, cap0, rfl⟩ : ∃ ao n' cap, v = .slice ao n' cap := by
    rcases hown.2 with ⟨hv, _⟩ | ⟨g, cap, cur, hv, _⟩
    · exact ⟨_, _, _, hv⟩
    · exact ⟨_, _, _, hv⟩
  have c1 : w1.cell? ⟨b, 1, none⟩ = some (.slice ao0 n0 cap0) := by rw [Lib.cell_of_heap hbk]; rfl
  go_wp2_with fail
  refine (appendRuneA_calls B _ acc r h0 h1 _ hown hlen (by have := hb1.size; omega)).mono ?_
  rintro e w2 ⟨v', rfl, hown', hgrow, ao, n', cap, rfl⟩
  have hlt : b < w1.heap.size := (Array.getElem?_eq_some_iff.1 hbk).1
  have hb2 : w2.heap[b]? = some (.cells #[.pointer (some ⟨b, 0, none⟩), .slice ao0 n0 cap0] 65 (0, 0)) := by
    rw [hgrow.block b hlt (fun e => hne e.symm)]
    exact hbk
  have d0 : w2.cell? ⟨b, 0, none⟩ = some (.pointer (some ⟨b, 0, none⟩)) := by rw [Lib.cell_of_heap hb2]; rfl
  have d1 : w2.cell? ⟨b, 1, none⟩ = some (.slice ao0 n0 cap0) := by rw [Lib.cell_of_heap hb2]; rfl
  have f1 : w2.frozen? ⟨b, 1, none⟩ = false := by simp [World.frozen?, hb2]
  have hll : (acc ++ Lib.encodeRune r).length = (Lib.byteCells (acc ++ Lib.encodeRune r)).length := by rw [Lib.byteCells_length]
  rw [hll] at hown'
  have hput := Lib.BuilderAt.put (T := 65) (e := 5) hB hb2 hown' (by decide)
  have hb3 : (w2.setCell ⟨b, 1, none⟩ (.slice ao n' cap)).heap[b]? = some (.cells #[.pointer (some ⟨b, 0, none⟩), .slice ao n' cap] 65 (0, 0)) := by simp [World.setCell, Array.getElem?_modify, hb2]
  have g1 : (w2.setCell ⟨b, 1, none⟩ (.slice ao n' cap)).cell? ⟨b, 1, none⟩ = some (.slice ao n' cap) := by rw [Lib.cell_of_heap hb3]; rfl
  have hbel := (hb1.grown hgrow (by have := hb1.size; omega) (fun k hk => (hown.lt k hk).1)).setCell (p := ⟨b, 1, none⟩) hB (.slice ao n' cap)
  go_wp2
  go_ret2
  exact ⟨⟨_, rfl⟩, .inr hput, hbel, (hk1.trans (KeepO.grown hown hgrow)).trans (KeepO.set _ _ _ _)⟩
end Go.Proofs.YtkngnoipipnioaaDoor.Q
