/- A builder of the call's own: what it holds, and strings.Builder's copyCheck. No condition. -/
import Derived.Test.YtkbaihcamimnjaaHKinds
import Derived.Lib.Builder
import Derived.Lib.AppendStr
import Derived.Lib.UnsafeStr
import Derived.Laws.Externs
set_option linter.unusedVariables false
set_option linter.unusedSimpArgs false
namespace Go.Proofs.Ytkbaihcamimnjaa.Q
open Go.RowKit Go.Proofs.YtkbaihcamimnjaaW.PrintWords Go.Proofs.YtkbaihcamimnjaaW.PrintLast Go.Proofs.YtkbaihcamimnjaaW.PrintMore
attribute [local go_sem] max2_int min2_int max_two min_two max_three min_three max_four min_four
abbrev BAt (B b : Nat) (p : Value) (acc : List UInt8) (w : World) : Prop := Lib.BuilderAt 57 5 B b p (Lib.byteCells acc) w
abbrev IsB (B b : Nat) (acc : List UInt8) (w : World) : Prop := Lib.IsBuilder 57 5 B b (Lib.byteCells acc) w
/-- Blocks that are neither the builder nor a row of bytes stay. -/
def KeepO (b : Nat) (w w' : World) : Prop := ∀ k cs t fr, w.heap[k]? = some (.cells cs t fr) → k ≠ b → t ≠ 5 → w'.heap[k]? = some (.cells cs t fr)
theorem KeepO.refl (b : Nat) (w : World) : KeepO b w w := fun _ _ _ _ h _ _ => h
theorem KeepO.trans {b : Nat} {w w1 w2 : World} (h : KeepO b w w1) (k : KeepO b w1 w2) : KeepO b w w2 := fun i cs t fr hh hb ht => k i cs t fr (h i cs t fr hh hb ht) hb ht
theorem KeepO.set (b : Nat) (w : World) (o : Nat) (v : Value) : KeepO b w (w.setCell ⟨b, o, none⟩ v) := fun k cs t fr h hb _ => by rw [Below.heap_setCell _ _ _ _ hb]; exact h
theorem KeepO.grown {b : Nat} {B n : Nat} {v : Value} {xs : List Value} {w w' : World} (ho : w.ownsRow B 5 1 v n xs) (hg : w.grownBy w' v.ownBlock) : KeepO b w w' := fun k cs t fr h _ ht => by
  have hk : k < w.heap.size := (Array.getElem?_eq_some_iff.1 h).1
  rw [hg.block k hk (fun e => ?_)]
  · exact h
  · obtain ⟨cells, hc⟩ := own_typed ho k e.symm
    rw [hc] at h
    injection h with h
    injection h with _ h
    exact ht h.symm
theorem infoBld : (Try.prog.info? 57).map (·.size) = some 2 := by kernel_rfl
theorem infoU8 : (Try.prog.info? 5).map (fun i => (i.zero, i.size, i.bytes)) = some (some (.int .u8 0), 1, 1) := by kernel_rfl
set_option maxHeartbeats 1000000 in
set_option maxRecDepth 100000 in
theorem cc_used (b : Nat) (w : World) (h0 : w.cell? ⟨b, 0, none⟩ = some (.pointer (some ⟨b, 0, none⟩))) :
    Calls Try.prog 25 #[.pointer (some ⟨b, 0, none⟩)] w fun e w' => e = .returned (.tuple #[]) ∧ w' = w := by
  obtain ⟨j, hj, _⟩ := Option.map_eq_some_iff.1 infoBld
  have hup := Try.underlying54
  have hub := Try.underlying57
  go_enter Try.func25, Try.ntmps25
  go_wp2
  rw [Lib.run_neq_ptr_same w _ hup hj]
  go_wp2
  go_end0
  exact ⟨rfl, rfl⟩
set_option maxHeartbeats 1000000 in
set_option maxRecDepth 100000 in
theorem cc_fresh (b : Nat) (w : World) (h0 : w.cell? ⟨b, 0, none⟩ = some (.pointer none)) (hsh : w.shape? b = some (57, 2)) (hfz : w.frozen? ⟨b, 0, none⟩ = false) :
    Calls Try.prog 25 #[.pointer (some ⟨b, 0, none⟩)] w fun e w' => e = .returned (.tuple #[]) ∧ w' = w.setCell ⟨b, 0, none⟩ (.pointer (some ⟨b, 0, none⟩)) := by
  obtain ⟨j, hj, hjs⟩ := Option.map_eq_some_iff.1 infoBld
  have hup := Try.underlying54
  have hub := Try.underlying57
  go_enter Try.func25, Try.ntmps25
  go_wp2
  rw [Lib.run_to_unsafe w ⟨b, 0, none⟩ hup Try.underlying88 hj (by rw [hjs]; decide) hsh (Nat.zero_lt_succ 1)]
  simp only [Result.andThen]
  rw [Oper.upon_value]
  go_wp2
  rw [run_callFunc_extern Try.func28 (by kernel_rfl) (by kernel_rfl) (by kernel_rfl) (e := Extern.AbiNoEscape.same) (by kernel_rfl)]
  rw [Lib.run_noEscape]
  simp only [Result.andThen]
  rw [Oper.upon_value]
  go_wp2
  rw [Lib.run_from_unsafe w ⟨b, 0, none⟩ Try.underlying88 hup hj hsh (by kernel_rfl)]
  simp only [Result.andThen]
  rw [Oper.upon_value]
  go_wp2
  go_end0
  exact ⟨rfl, rfl⟩
theorem cc_calls (B b : Nat) (acc : List UInt8) (w : World) (h : IsB B b acc w) :
    Calls Try.prog 25 #[.pointer (some ⟨b, 0, none⟩)] w fun e w' => e = .returned (.tuple #[]) ∧ BAt B b (.pointer (some ⟨b, 0, none⟩)) acc w' ∧ Below B w w' ∧ KeepO b w w' := by
  rcases h with h | h
  · refine (cc_fresh b w h.cell0 h.shape h.frozen0).mono ?_
    rintro e w' ⟨rfl, rfl⟩
    exact ⟨rfl, h.used _, (Below.refl B w).setCell (p := ⟨b, 0, none⟩) h.1 _, KeepO.set _ _ _ _⟩
  · refine (cc_used b w h.cell0).mono ?_
    rintro e w' ⟨rfl, rfl⟩
    exact ⟨rfl, h, Below.refl B _, KeepO.refl _ _⟩
theorem bcells_str (acc : List UInt8) (s : ByteArray) : Lib.byteCells acc ++ Lib.strCells s = Lib.byteCells (acc ++ s.data.toList) := by rw [Lib.byteCells_append, Lib.strCells_eq]
end Go.Proofs.Ytkbaihcamimnjaa.Q
