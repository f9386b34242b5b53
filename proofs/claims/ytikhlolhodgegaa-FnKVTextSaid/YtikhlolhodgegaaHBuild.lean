/- What strings.Builder's WriteString and WriteRune of a sign of one byte do to a builder of the call's own. No condition beyond the length named. -/
import Derived.Test.YtikhlolhodgegaaHKinds
import Derived.Lib.Builder
import Derived.Lib.AppendStr
import Derived.Lib.UnsafeStr
import Derived.Lib.Builder
import Derived.Laws.Externs
set_option linter.unusedVariables false
set_option linter.unusedSimpArgs false
namespace Go.Proofs.Ytikhlolhodgegaa.Q
open Go.RowKit Go.Proofs.YtikhlolhodgegaaW.PrintWords Go.Proofs.YtikhlolhodgegaaW.PrintLast Go.Proofs.YtikhlolhodgegaaW.PrintMore
attribute [local go_sem] max2_int min2_int max_two min_two max_three min_three max_four min_four
abbrev BAt (B b : Nat) (p : Value) (acc : List UInt8) (w : World) : Prop := Lib.BuilderAt 120 5 B b p (Lib.byteCells acc) w
abbrev IsB (B b : Nat) (acc : List UInt8) (w : World) : Prop := Lib.IsBuilder 120 5 B b (Lib.byteCells acc) w
/-- Blocks that are neither the builder nor a row of bytes stay. -/
def KeepO (b : Nat) (w w' : World) : Prop := ∀ k cs t fr, w.heap[k]? = some (.cells cs t fr) → k ≠ b → t ≠ 5 → w'.heap[k]? = some (.cells cs t fr)
theorem KeepO.refl (b : Nat) (w : World) : KeepO b w w := fun _ _ _ _ h _ _ => h
theorem KeepO.trans {b : Nat} {w w1 w2 : World} (h : KeepO b w w1) (k : KeepO b w1 w2) : KeepO b w w2 := fun i cs t fr hh hb ht => k i cs t fr (h i cs t fr hh hb ht) hb ht
theorem KeepO.set (b : Nat) (w : World) (o : Nat) (v : Value) : KeepO b w (w.setCell ⟨b, o, none⟩ v) := fun k cs t fr h hb _ => by rw [Below.heap_setCell _ _ _ _ hb]; exact h
theorem KeepO.grown {b : Nat} {B n : Nat} {v : Value} {xs : List Value} {w w' : World} (ho : w.ownsRow B 5 1 v n xs) (hg : w.grownBy w' v.ownBlock) : KeepO b w w' := fun k cs t fr h _ ht => by
  have hk : k < w.heap.size := (Array.getElem?_eq_some_iff.1 h).1
  rw [hg.block k hk (fun e => ?_)]
  · exact h
  · obtain ⟨cells, hc⟩ := own_typed ho k e.symm
    rw [hc] at h
    injection h with h
    injection h with _ h
    exact ht h.symm
theorem infoBld : (Try.prog.info? 120).map (·.size) = some 2 := by kernel_rfl
theorem infoU8 : (Try.prog.info? 5).map (fun i => (i.zero, i.size, i.bytes)) = some (some (.int .u8 0), 1, 1) := by kernel_rfl
set_option maxHeartbeats 1000000 in
set_option maxRecDepth 100000 in
theorem cc_used (b : Nat) (w : World) (h0 : w.cell? ⟨b, 0, none⟩ = some (.pointer (some ⟨b, 0, none⟩))) :
    Calls Try.prog 99 #[.pointer (some ⟨b, 0, none⟩)] w fun e w' => e = .returned (.tuple #[]) ∧ w' = w := by
  obtain ⟨j, hj, _⟩ := Option.map_eq_some_iff.1 infoBld
  have hup := Try.underlying118
  have hub := Try.underlying120
  go_enter Try.func99, Try.ntmps99
  go_wp2
  rw [Lib.run_neq_ptr_same w _ hup hj]
  go_wp2
  go_end0
  exact ⟨rfl, rfl⟩
set_option maxHeartbeats 1000000 in
set_option maxRecDepth 100000 in
theorem cc_fresh (b : Nat) (w : World) (h0 : w.cell? ⟨b, 0, none⟩ = some (.pointer none)) (hsh : w.shape? b = some (120, 2)) (hfz : w.frozen? ⟨b, 0, none⟩ = false) :
    Calls Try.prog 99 #[.pointer (some ⟨b, 0, none⟩)] w fun e w' => e = .returned (.tuple #[]) ∧ w' = w.setCell ⟨b, 0, none⟩ (.pointer (some ⟨b, 0, none⟩)) := by
  obtain ⟨j, hj, hjs⟩ := Option.map_eq_some_iff.1 infoBld
  have hup := Try.underlying118
  have hub := Try.underlying120
  go_enter Try.func99, Try.ntmps99
  go_wp2
  rw [Lib.run_to_unsafe w ⟨b, 0, none⟩ hup Try.underlying158 hj (by rw [hjs]; decide) hsh (Nat.zero_lt_succ 1)]
  simp only [Result.andThen]
  rw [Oper.upon_value]
  go_wp2
  rw [run_callFunc_extern Try.func113 (by kernel_rfl) (by kernel_rfl) (by kernel_rfl) (e := Extern.AbiNoEscape.same) (by kernel_rfl)]
  rw [Lib.run_noEscape]
  simp only [Result.andThen]
  rw [Oper.upon_value]
  go_wp2
  rw [Lib.run_from_unsafe w ⟨b, 0, none⟩ Try.underlying158 hup hj hsh (by kernel_rfl)]
  simp only [Result.andThen]
  rw [Oper.upon_value]
  go_wp2
  go_end0
  exact ⟨rfl, rfl⟩
theorem cc_calls (B b : Nat) (acc : List UInt8) (w : World) (h : IsB B b acc w) :
    Calls Try.prog 99 #[.pointer (some ⟨b, 0, none⟩)] w fun e w' => e = .returned (.tuple #[]) ∧ BAt B b (.pointer (some ⟨b, 0, none⟩)) acc w' ∧ Below B w w' ∧ KeepO b w w' := by
  rcases h with h | h
  · refine (cc_fresh b w h.cell0 h.shape h.frozen0).mono ?_
    rintro e w' ⟨rfl, rfl⟩
    exact ⟨rfl, h.used _, (Below.refl B w).setCell (p := ⟨b, 0, none⟩) h.1 _, KeepO.set _ _ _ _⟩
  · refine (cc_used b w h.cell0).mono ?_
    rintro e w' ⟨rfl, rfl⟩
    exact ⟨rfl, h, Below.refl B _, KeepO.refl _ _⟩
theorem bcells_str (acc : List UInt8) (s : ByteArray) : Lib.byteCells acc ++ Lib.strCells s = Lib.byteCells (acc ++ s.data.toList) := by rw [Lib.byteCells_append, Lib.strCells_eq]
set_option maxHeartbeats 2000000 in
set_option maxRecDepth 100000 in
theorem writeString_calls (B b : Nat) (acc : List UInt8) (s : ByteArray) (w : World) (h : IsB B b acc w) (hlen : acc.length + s.size ≤ 140737488355328) (hBw : B ≤ w.heap.size) :
    Calls Try.prog 85 #[.pointer (some ⟨b, 0, none⟩), .string s] w fun e w' => e = .returned (.tuple #[.int .i64 s.size, .nilIface]) ∧ IsB B b (acc ++ s.data.toList) w' ∧ Below B w w' ∧ KeepO b w w' := by
  obtain ⟨i0, hi, hz0, hz1, hz2⟩ := info_parts infoU8
  have hup := Try.underlying118
  have hub := Try.underlying120
  have hus := Try.underlying48
  go_enter Try.func85, Try.ntmps85
  go_wp2_with fail
  refine (cc_calls B b acc _ h).mono ?_
  rintro e w1 ⟨rfl, h1, hb1, hk1⟩
  obtain ⟨hB, v, hbk, hown, hne⟩ := h1
  have c0 : w1.cell? ⟨b, 0, none⟩ = some (.pointer (some ⟨b, 0, none⟩)) := by rw [Lib.cell_of_heap hbk]; rfl
  have c1 : w1.cell? ⟨b, 1, none⟩ = some v := by rw [Lib.cell_of_heap hbk]; rfl
  rw [Lib.byteCells_length] at hown
  go_wp2_with (at_builtin; refine Lib.wpList_append_own_string _ rfl _ _ 48 9 rfl B 5 i0 hus Try.underlying9 hi hz0 hz1 hz2 _ acc.length _ rfl hown s rfl ?c3 ?c4 ?c5 ?_)
  case c3 => unfold maxLen; omega
  case c4 => omega
  case c5 => have := hb1.size; omega
  intro v' w2 hown' hgrow _
  have hlt : b < w1.heap.size := (Array.getElem?_eq_some_iff.1 hbk).1
  have hb2 : w2.heap[b]? = some (.cells #[.pointer (some ⟨b, 0, none⟩), v] 120 (0, 0)) := by
    rw [hgrow.block b hlt (fun e => hne e.symm)]
    exact hbk
  have d0 : w2.cell? ⟨b, 0, none⟩ = some (.pointer (some ⟨b, 0, none⟩)) := by rw [Lib.cell_of_heap hb2]; rfl
  have d1 : w2.cell? ⟨b, 1, none⟩ = some v := by rw [Lib.cell_of_heap hb2]; rfl
  have f1 : w2.frozen? ⟨b, 1, none⟩ = false := by simp [World.frozen?, hb2]
  obtain ⟨ao, n', cap, rfl⟩ : ∃ ao n' cap, v' = .slice ao n' cap := by
    rcases hown'.2 with ⟨hv, _⟩ | ⟨g, cap, cur, hv, _⟩
    · exact ⟨_, _, _, hv⟩
    · exact ⟨_, _, _, hv⟩
  rw [bcells_str] at hown'
  have hll : acc.length + s.size = (Lib.byteCells (acc ++ s.data.toList)).length := by rw [Lib.byteCells_length, List.length_append, Array.length_toList]; rfl
  rw [hll] at hown'
  go_wp2
  go_ret2
  refine ⟨rfl, .inr ?_, ?_, (hk1.trans (KeepO.grown hown hgrow)).trans (KeepO.set _ _ _ _)⟩
  · exact Lib.BuilderAt.put hB hb2 hown' (by decide)
  · exact (hb1.grown hgrow (by have := hb1.size; omega) (fun k hk => (hown.lt k hk).1)).setCell (p := ⟨b, 1, none⟩) hB _
set_option maxHeartbeats 2000000 in
set_option maxRecDepth 100000 in
theorem appendRune_calls (B : Nat) (v : Value) (acc : List UInt8) (r : UInt8) (hr : r.toNat < 128) (w : World) (hown : w.ownsRow B 5 1 v acc.length (Lib.byteCells acc)) (hlen : acc.length + 1 ≤ 140737488355328) (hBw : B ≤ w.heap.size) :
    Calls Try.prog 100 #[v, .int .i32 (r.toNat : Int)] w fun e w' => ∃ v', e = .returned v' ∧ w'.ownsRow B 5 1 v' (acc.length + 1) (Lib.byteCells (acc ++ [r])) ∧ w.grownBy w' v.ownBlock ∧ (∃ ao n' cap, v' = .slice ao n' cap) := by
  have hus := Try.underlying48
  have he : encs (Value.int .u8) (acc.map (fun b : UInt8 => (b.toNat : Int))) = Lib.byteCells acc := by unfold encs Lib.byteCells; rw [List.map_map]; rfl
  have HR : Aside0 (Kd.R (Kd.int .u8) 5 w B (fun _ => True) v (acc.map (fun b : UInt8 => (b.toNat : Int)))) := ⟨Kd.R_of_own (by rw [he, List.length_map]; exact hown) (fun _ _ => trivial)⟩
  have HB := Aside0.mk (Below.refl B w)
  have h0 : (0 : Int) ≤ (r.toNat : Int) := by omega
  have h1 : (r.toNat : Int) ≤ 127 := by omega
  have hc : IntKind.u32.wrap (r.toNat : Int) = (r.toNat : Int) := by simp [IntKind.wrap, IntKind.bits, IntKind.signed]; omega
  have hc8 : IntKind.u8.wrap (r.toNat : Int) = (r.toNat : Int) := by simp [IntKind.wrap, IntKind.bits, IntKind.signed]; omega
  have hq := eq_true h1
  clear hown
  go_enter Try.func100, Try.ntmps100
  go_wp2_with (at_builtin; go_loud (refine Kd.R_append (Kd.int .u8) (w0 := w) B rfl (.tmp 8) (.tmp 11) 48 5 (.int .u8 0) 1 rfl hus infoU8 rfl (by decide) (by omega) v (acc.map (fun b : UInt8 => (b.toNat : Int))) (r.toNat : Int) [.int .u8 (r.toNat : Int)] (fun _ => True) (fun _ => False) rfl (by first | (go_simp; done) | (go_simp; rfl)) rfl (fun _ hk => hk.elim) (fun _ _ => trivial) HR.out HB.out ?aS ?aL ?_); (case aS => exact hBw); (case aL => rw [List.length_map]; omega); intro v1 w3 ho hb hg3 hat3; have HO3 := Aside0.mk ho; have HG3 := Aside0.mk hg3; clear ho hb hg3 hat3)
  have hown2 := Kd.own_of_R HO3.out
  obtain ⟨ao, cap, e3⟩ := Kd.R_slice HO3.out
  have he2 : encs (Value.int .u8) (acc.map (fun b : UInt8 => (b.toNat : Int)) ++ [(r.toNat : Int)]) = Lib.byteCells (acc ++ [r]) := by unfold encs Lib.byteCells; rw [List.map_append, List.map_append, List.map_map]; rfl
  have hl2 : (acc.map (fun b : UInt8 => (b.toNat : Int)) ++ [(r.toNat : Int)]).length = acc.length + 1 := by simp
  rw [he2, hl2] at hown2
  go_ret
  exact ⟨v1, rfl, hown2, HG3.out, ao, _, cap, e3⟩
set_option maxHeartbeats 2000000 in
set_option maxRecDepth 100000 in
theorem writeRune_calls (B b : Nat) (acc : List UInt8) (r : UInt8) (hr : r.toNat < 128) (w : World) (h : IsB B b acc w) (hlen : acc.length + 1 ≤ 140737488355328) (hBw : B ≤ w.heap.size) :
    Calls Try.prog 86 #[.pointer (some ⟨b, 0, none⟩), .int .i32 (r.toNat : Int)] w fun e w' => (∃ n : Int, e = .returned (.tuple #[.int .i64 n, .nilIface])) ∧ IsB B b (acc ++ [r]) w' ∧ Below B w w' ∧ KeepO b w w' := by
  have hup := Try.underlying118
  have hub := Try.underlying120
  have hus := Try.underlying48
  go_enter Try.func86, Try.ntmps86
  go_wp2_with fail
  refine (cc_calls B b acc _ h).mono ?_
  rintro e w1 ⟨rfl, h1, hb1, hk1⟩
  obtain ⟨hB, v, hbk, hown, hne⟩ := h1
  rw [Lib.byteCells_length] at hown
  have c0 : w1.cell? ⟨b, 0, none⟩ = some (.pointer (some ⟨b, 0, none⟩)) := by rw [Lib.cell_of_heap hbk]; rfl
  obtain ⟨ao0, n0, cap0, rfl⟩ : ∃ ao n' cap, v = .slice ao n' cap := by
    rcases hown.2 with ⟨hv, _⟩ | ⟨g, cap, cur, hv, _⟩
    · exact ⟨_, _, _, hv⟩
    · exact ⟨_, _, _, hv⟩
  have c1 : w1.cell? ⟨b, 1, none⟩ = some (.slice ao0 n0 cap0) := by rw [Lib.cell_of_heap hbk]; rfl
  go_wp2_with fail
  refine (appendRune_calls B _ acc r hr _ hown hlen (by have := hb1.size; omega)).mono ?_
  rintro e w2 ⟨v', rfl, hown', hgrow, ao, n', cap, rfl⟩
  have hlt : b < w1.heap.size := (Array.getElem?_eq_some_iff.1 hbk).1
  have hb2 : w2.heap[b]? = some (.cells #[.pointer (some ⟨b, 0, none⟩), .slice ao0 n0 cap0] 120 (0, 0)) := by
    rw [hgrow.block b hlt (fun e => hne e.symm)]
    exact hbk
  have d0 : w2.cell? ⟨b, 0, none⟩ = some (.pointer (some ⟨b, 0, none⟩)) := by rw [Lib.cell_of_heap hb2]; rfl
  have d1 : w2.cell? ⟨b, 1, none⟩ = some (.slice ao0 n0 cap0) := by rw [Lib.cell_of_heap hb2]; rfl
  have f1 : w2.frozen? ⟨b, 1, none⟩ = false := by simp [World.frozen?, hb2]
  have hll : acc.length + 1 = (Lib.byteCells (acc ++ [r])).length := by rw [Lib.byteCells_length, List.length_append]; rfl
  rw [hll] at hown'
  have hput := Lib.BuilderAt.put (T := 120) (e := 5) hB hb2 hown' (by decide)
  have hb3 : (w2.setCell ⟨b, 1, none⟩ (.slice ao n' cap)).heap[b]? = some (.cells #[.pointer (some ⟨b, 0, none⟩), .slice ao n' cap] 120 (0, 0)) := by simp [World.setCell, Array.getElem?_modify, hb2]
  have g1 : (w2.setCell ⟨b, 1, none⟩ (.slice ao n' cap)).cell? ⟨b, 1, none⟩ = some (.slice ao n' cap) := by rw [Lib.cell_of_heap hb3]; rfl
  have hbel := (hb1.grown hgrow (by have := hb1.size; omega) (fun k hk => (hown.lt k hk).1)).setCell (p := ⟨b, 1, none⟩) hB (.slice ao n' cap)
  go_wp2
  go_ret2
  exact ⟨⟨_, rfl⟩, .inr hput, hbel, (hk1.trans (KeepO.grown hown hgrow)).trans (KeepO.set _ _ _ _)⟩
end Go.Proofs.Ytikhlolhodgegaa.Q
