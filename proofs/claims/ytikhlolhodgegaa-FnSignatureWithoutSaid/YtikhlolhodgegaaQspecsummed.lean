-- Printed for this seat by wip/pp.py of this repo; nothing here is trusted: Lean checks it.
import Derived.Test.YtikhlolhodgegaaQ0
import Derived.Test.YtikhlolhodgegaaQspecfnv
namespace Go.Proofs.Ytikhlolhodgegaa.Q
open Go.RowKit Go.Proofs.YtikhlolhodgegaaW.PrintWords Go.Proofs.YtikhlolhodgegaaW.PrintLast Go.Proofs.YtikhlolhodgegaaW.PrintMore
attribute [local go_sem] max2_int min2_int max_two min_two max_three min_three max_four min_four   -- for this text's walks alone
set_option linter.unusedVariables false
set_option linter.unusedSimpArgs false

/-! ### spec_summed: function 81 -/
def spec_summed.f (k : Nat) (a0 : Int) (a1_0 : ByteArray) (a1_1 : ByteArray) : Option (Int) := (spec_fnv.f k a0 a1_0).bind fun t676 => ((spec_fnv.f k t676 (⟨#[255]⟩ : ByteArray)).bind fun t677 => ((spec_fnv.f k t677 a1_1).bind fun t678 => ((spec_fnv.f k t678 (⟨#[255]⟩ : ByteArray)).bind fun t679 => (some t679))))
theorem spec_summed.mono : ∀ a0 a1 a2 k, LeO (spec_summed.f k a0 a1 a2) (spec_summed.f (k + 1) a0 a1 a2) := by
  intro a0 a1 a2 k
  unfold spec_summed.f
  repeat' first
      | (with_reducible exact spec_fnv.mono _ _ _)
      | (with_reducible exact LeO.refl _)
      | (with_reducible exact LeO.none _)
      | (with_reducible refine LeO.ite ?_ ?_)
      | (with_reducible refine LeO.bind ?_ (fun _ => ?_))
      | exact spec_fnv.mono _ _ _
      | exact LeO.none _
      | refine LeO.ite ?_ ?_
      | refine LeO.bind ?_ (fun _ => ?_)
set_option maxHeartbeats 8000000 in
set_option maxRecDepth 100000 in
theorem spec_summed.calls (k : Nat) (a0 : Int) (a1_0 : ByteArray) (a1_1 : ByteArray) (r : Int) (w : World) (h : spec_summed.f k a0 a1_0 a1_1 = some r) :
    Calls Try.prog 81 #[.int .u64 a0, .agg #[.string a1_0, .string a1_1]] w fun e w' => e = .returned (.int .u64 r) ∧ Below w.heap.size w w' := by
  have hu59 := Try.underlying59
  have HB := Aside0.mk (Below.refl w.heap.size w)
  have H : ((spec_fnv.f k a0 a1_0).bind fun t676 => ((spec_fnv.f k t676 (⟨#[255]⟩ : ByteArray)).bind fun t677 => ((spec_fnv.f k t677 a1_1).bind fun t678 => ((spec_fnv.f k t678 (⟨#[255]⟩ : ByteArray)).bind fun t679 => (some t679))))) = some r := h
  clear h
  replace H := Option.bind_eq_some_iff.mp H
  obtain ⟨t676, A30, H⟩ := H
  replace H : ((spec_fnv.f k t676 (⟨#[255]⟩ : ByteArray)).bind fun t677 => ((spec_fnv.f k t677 a1_1).bind fun t678 => ((spec_fnv.f k t678 (⟨#[255]⟩ : ByteArray)).bind fun t679 => (some t679)))) = some r := H
  have A3 := Aside0.mk A30
  clear A30
  replace H := Option.bind_eq_some_iff.mp H
  obtain ⟨t677, A40, H⟩ := H
  replace H : ((spec_fnv.f k t677 a1_1).bind fun t678 => ((spec_fnv.f k t678 (⟨#[255]⟩ : ByteArray)).bind fun t679 => (some t679))) = some r := H
  have A4 := Aside0.mk A40
  clear A40
  replace H := Option.bind_eq_some_iff.mp H
  obtain ⟨t678, A50, H⟩ := H
  replace H : ((spec_fnv.f k t678 (⟨#[255]⟩ : ByteArray)).bind fun t679 => (some t679)) = some r := H
  have A5 := Aside0.mk A50
  clear A50
  replace H := Option.bind_eq_some_iff.mp H
  obtain ⟨t679, A60, H⟩ := H
  replace H : (some t679) = some r := H
  have A6 := Aside0.mk A60
  clear A60
  obtain rfl := Option.some.inj H
  go_enter Try.func81, Try.ntmps81
  go_wp2_with (first | ((with_reducible refine gate_dst (N := 3) rfl ?_); refine box_event ?hg (N := 3) ?hd (cs := #[.string a1_0, .string a1_1]) (t := 59) ?hr ?_; (case hd => rfl); (case hg => rfl); (case hr => first | (go_simp; done) | (go_simp; rfl)); intro gb675 hg w7 hbox hb; have n0_ := Aside0.mk (below_step (by repeat (first | (with_reducible first | exact HB.out | apply below_alloc | apply pw_below_drewN | apply below_drew1) | exact HB.out)) hb); have n1_ := Aside0.mk (hbox); have n2_ := Aside0.mk ((by rw [hg]; exact (below_size (by repeat (first | (with_reducible first | exact HB.out | apply below_alloc | apply pw_below_drewN | apply below_drew1) | exact HB.out))) : w.heap.size ≤ gb675)); have n3_ := Aside0.mk ((by rw [hg]; exact (below_size (by repeat (first | (with_reducible first | exact HB.out | apply below_alloc | apply pw_below_drewN | apply below_drew1) | exact HB.out))) : w.heap.size ≤ gb675)); clear HB; have HB := n0_; have BK675 := n1_; have GW675 := n2_; have GE675 := n3_; clear n0_ n1_ n2_ n3_; clear hb hbox hg; have hcz8_0 : w7.cell? ⟨gb675, 0, none⟩ = some (.string a1_0) := (blk_cell BK675.out 0).trans rfl; have hcz8_1 : w7.cell? ⟨gb675, 1, none⟩ = some (.string a1_1) := (blk_cell BK675.out 1).trans rfl; have hfz8_0 := blk_frozen BK675.out 0; have hfz8_1 := blk_frozen BK675.out 1) | (go_at_call 97; (with_reducible refine (spec_fnv.calls k a0 a1_0 t676 _ A3.out).mono ?_); rintro e w' ⟨rfl, ⟨nd, rfl⟩⟩; (try first | exact ⟨rfl, _, World.drewN_drewN _ _ _⟩ | exact ⟨rfl, _, Eq.trans (World.drewN_drewN _ _ _) (congrArg (World.drewN _) (Nat.add_assoc _ _ _))⟩); clear A3) | (go_at_call 97; (with_reducible refine (spec_fnv.calls k t676 (⟨#[255]⟩ : ByteArray) t677 _ A4.out).mono ?_); rintro e w' ⟨rfl, ⟨nd, rfl⟩⟩; (try first | exact ⟨rfl, _, World.drewN_drewN _ _ _⟩ | exact ⟨rfl, _, Eq.trans (World.drewN_drewN _ _ _) (congrArg (World.drewN _) (Nat.add_assoc _ _ _))⟩); clear A4) | (go_at_call 97; (with_reducible refine (spec_fnv.calls k t677 a1_1 t678 _ A5.out).mono ?_); rintro e w' ⟨rfl, ⟨nd, rfl⟩⟩; (try first | exact ⟨rfl, _, World.drewN_drewN _ _ _⟩ | exact ⟨rfl, _, Eq.trans (World.drewN_drewN _ _ _) (congrArg (World.drewN _) (Nat.add_assoc _ _ _))⟩); clear A5) | (go_at_call 97; (with_reducible refine (spec_fnv.calls k t678 (⟨#[255]⟩ : ByteArray) t679 _ A6.out).mono ?_); rintro e w' ⟨rfl, ⟨nd, rfl⟩⟩; (try first | exact ⟨rfl, _, World.drewN_drewN _ _ _⟩ | exact ⟨rfl, _, Eq.trans (World.drewN_drewN _ _ _) (congrArg (World.drewN _) (Nat.add_assoc _ _ _))⟩)))
  repeat (go_quiet (first | ((with_reducible refine gate_dst (N := 3) rfl ?_); refine box_event ?hg (N := 3) ?hd (cs := #[.string a1_0, .string a1_1]) (t := 59) ?hr ?_; (case hd => rfl); (case hg => rfl); (case hr => first | (go_simp; done) | (go_simp; rfl)); intro gb675 hg w7 hbox hb; have n0_ := Aside0.mk (below_step (by repeat (first | (with_reducible first | exact HB.out | apply below_alloc | apply pw_below_drewN | apply below_drew1) | exact HB.out)) hb); have n1_ := Aside0.mk (hbox); have n2_ := Aside0.mk ((by rw [hg]; exact (below_size (by repeat (first | (with_reducible first | exact HB.out | apply below_alloc | apply pw_below_drewN | apply below_drew1) | exact HB.out))) : w.heap.size ≤ gb675)); have n3_ := Aside0.mk ((by rw [hg]; exact (below_size (by repeat (first | (with_reducible first | exact HB.out | apply below_alloc | apply pw_below_drewN | apply below_drew1) | exact HB.out))) : w.heap.size ≤ gb675)); clear HB; have HB := n0_; have BK675 := n1_; have GW675 := n2_; have GE675 := n3_; clear n0_ n1_ n2_ n3_; clear hb hbox hg; have hcz8_0 : w7.cell? ⟨gb675, 0, none⟩ = some (.string a1_0) := (blk_cell BK675.out 0).trans rfl; have hcz8_1 : w7.cell? ⟨gb675, 1, none⟩ = some (.string a1_1) := (blk_cell BK675.out 1).trans rfl; have hfz8_0 := blk_frozen BK675.out 0; have hfz8_1 := blk_frozen BK675.out 1) | (go_at_call 97; (with_reducible refine (spec_fnv.calls k a0 a1_0 t676 _ A3.out).mono ?_); rintro e w' ⟨rfl, ⟨nd, rfl⟩⟩; (try first | exact ⟨rfl, _, World.drewN_drewN _ _ _⟩ | exact ⟨rfl, _, Eq.trans (World.drewN_drewN _ _ _) (congrArg (World.drewN _) (Nat.add_assoc _ _ _))⟩)) | (go_at_call 97; (with_reducible refine (spec_fnv.calls k t676 (⟨#[255]⟩ : ByteArray) t677 _ A4.out).mono ?_); rintro e w' ⟨rfl, ⟨nd, rfl⟩⟩; (try first | exact ⟨rfl, _, World.drewN_drewN _ _ _⟩ | exact ⟨rfl, _, Eq.trans (World.drewN_drewN _ _ _) (congrArg (World.drewN _) (Nat.add_assoc _ _ _))⟩)) | (go_at_call 97; (with_reducible refine (spec_fnv.calls k t677 a1_1 t678 _ A5.out).mono ?_); rintro e w' ⟨rfl, ⟨nd, rfl⟩⟩; (try first | exact ⟨rfl, _, World.drewN_drewN _ _ _⟩ | exact ⟨rfl, _, Eq.trans (World.drewN_drewN _ _ _) (congrArg (World.drewN _) (Nat.add_assoc _ _ _))⟩)) | (go_at_call 97; (with_reducible refine (spec_fnv.calls k t678 (⟨#[255]⟩ : ByteArray) t679 _ A6.out).mono ?_); rintro e w' ⟨rfl, ⟨nd, rfl⟩⟩; (try first | exact ⟨rfl, _, World.drewN_drewN _ _ _⟩ | exact ⟨rfl, _, Eq.trans (World.drewN_drewN _ _ _) (congrArg (World.drewN _) (Nat.add_assoc _ _ _))⟩))); try go_wp2_with (first | ((with_reducible refine gate_dst (N := 3) rfl ?_); refine box_event ?hg (N := 3) ?hd (cs := #[.string a1_0, .string a1_1]) (t := 59) ?hr ?_; (case hd => rfl); (case hg => rfl); (case hr => first | (go_simp; done) | (go_simp; rfl)); intro gb675 hg w7 hbox hb; have n0_ := Aside0.mk (below_step (by repeat (first | (with_reducible first | exact HB.out | apply below_alloc | apply pw_below_drewN | apply below_drew1) | exact HB.out)) hb); have n1_ := Aside0.mk (hbox); have n2_ := Aside0.mk ((by rw [hg]; exact (below_size (by repeat (first | (with_reducible first | exact HB.out | apply below_alloc | apply pw_below_drewN | apply below_drew1) | exact HB.out))) : w.heap.size ≤ gb675)); have n3_ := Aside0.mk ((by rw [hg]; exact (below_size (by repeat (first | (with_reducible first | exact HB.out | apply below_alloc | apply pw_below_drewN | apply below_drew1) | exact HB.out))) : w.heap.size ≤ gb675)); clear HB; have HB := n0_; have BK675 := n1_; have GW675 := n2_; have GE675 := n3_; clear n0_ n1_ n2_ n3_; clear hb hbox hg; have hcz8_0 : w7.cell? ⟨gb675, 0, none⟩ = some (.string a1_0) := (blk_cell BK675.out 0).trans rfl; have hcz8_1 : w7.cell? ⟨gb675, 1, none⟩ = some (.string a1_1) := (blk_cell BK675.out 1).trans rfl; have hfz8_0 := blk_frozen BK675.out 0; have hfz8_1 := blk_frozen BK675.out 1) | (go_at_call 97; (with_reducible refine (spec_fnv.calls k a0 a1_0 t676 _ A3.out).mono ?_); rintro e w' ⟨rfl, ⟨nd, rfl⟩⟩; (try first | exact ⟨rfl, _, World.drewN_drewN _ _ _⟩ | exact ⟨rfl, _, Eq.trans (World.drewN_drewN _ _ _) (congrArg (World.drewN _) (Nat.add_assoc _ _ _))⟩); clear A3) | (go_at_call 97; (with_reducible refine (spec_fnv.calls k t676 (⟨#[255]⟩ : ByteArray) t677 _ A4.out).mono ?_); rintro e w' ⟨rfl, ⟨nd, rfl⟩⟩; (try first | exact ⟨rfl, _, World.drewN_drewN _ _ _⟩ | exact ⟨rfl, _, Eq.trans (World.drewN_drewN _ _ _) (congrArg (World.drewN _) (Nat.add_assoc _ _ _))⟩); clear A4) | (go_at_call 97; (with_reducible refine (spec_fnv.calls k t677 a1_1 t678 _ A5.out).mono ?_); rintro e w' ⟨rfl, ⟨nd, rfl⟩⟩; (try first | exact ⟨rfl, _, World.drewN_drewN _ _ _⟩ | exact ⟨rfl, _, Eq.trans (World.drewN_drewN _ _ _) (congrArg (World.drewN _) (Nat.add_assoc _ _ _))⟩); clear A5) | (go_at_call 97; (with_reducible refine (spec_fnv.calls k t678 (⟨#[255]⟩ : ByteArray) t679 _ A6.out).mono ?_); rintro e w' ⟨rfl, ⟨nd, rfl⟩⟩; (try first | exact ⟨rfl, _, World.drewN_drewN _ _ _⟩ | exact ⟨rfl, _, Eq.trans (World.drewN_drewN _ _ _) (congrArg (World.drewN _) (Nat.add_assoc _ _ _))⟩))))
  go_ret
  exact ⟨by first | rfl | (simp [errW_none, errW_some] <;> rfl) | (simp [*, errW_none, errW_some] <;> rfl) | (simp [*, q_isEmpty]; done), by repeat (first | (with_reducible first | exact HB.out | apply below_alloc | apply pw_below_drewN | apply below_drew1 | refine below_set ?_ GE675.out) | exact HB.out)⟩

end Go.Proofs.Ytikhlolhodgegaa.Q
