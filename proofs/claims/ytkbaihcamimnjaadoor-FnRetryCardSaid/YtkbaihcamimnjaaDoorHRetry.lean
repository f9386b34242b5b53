/- What impl.RetryCode returns: whether a request with a status is repeated, and whether it has failed. Condition: at most 10000 codes. -/
import Derived.WalkLawsBesides
import Derived.Test.YtkbaihcamimnjaaDoorHErr
import Derived.Test.YtkbaihcamimnjaaDoorQslicesContainsintint
namespace Go.Proofs.YtkbaihcamimnjaaDoor.Q
open Go.RowKit Go.Proofs.YtkbaihcamimnjaaDoorW.PrintWords Go.Proofs.YtkbaihcamimnjaaDoorW.PrintLast Go.Proofs.YtkbaihcamimnjaaDoorW.PrintMore
attribute [local go_sem] max2_int min2_int max_two min_two max_three min_three max_four min_four
theorem index_go (l : List Int) (a : Int) (hl : l.length ≤ 10000) : ∀ (d : Nat) (i : Nat), i + d = l.length → ∃ r, slices_Index_int_int.l0 (d + 1) l a (l.length : Int) (i : Int) = some r ∧ (decide (r ≥ 0) = (l.drop i).contains a)
  | 0, i, h => by
    refine ⟨-1, ?_, ?_⟩
    · simp only [slices_Index_int_int.l0]
      rw [if_neg (by omega)]
    · rw [List.drop_eq_nil_of_le (by omega)]
      rfl
  | d + 1, i, h => by
    have hi : i < l.length := by omega
    have hrd : rd l (i : Int) = l[i] := by simp [rd, List.getD_eq_getElem?_getD, List.getElem?_eq_getElem hi]
    have hds : l.drop i = l[i] :: l.drop (i + 1) := List.drop_eq_getElem_cons hi
    by_cases he : a = l[i]
    · refine ⟨i, ?_, ?_⟩
      · simp only [slices_Index_int_int.l0]
        rw [if_pos (by omega), if_pos (by omega), if_pos (by omega), hrd, if_pos he]
      · rw [hds, List.contains_cons, ← he]
        simp
    · obtain ⟨r, h1, h2⟩ := index_go l a hl d (i + 1) (by omega)
      refine ⟨r, ?_, ?_⟩
      · simp only [slices_Index_int_int.l0]
        rw [if_pos (by omega), if_pos (by omega), if_pos (by omega), hrd, if_neg he]
        have e : wrap64 ((i : Int) + 1) = ((i + 1 : Nat) : Int) := by unfold wrap64; omega
        rw [e]
        exact h1
      · rw [h2, hds, List.contains_cons]
        have : (a == l[i]) = false := beq_eq_false_iff_ne.2 he
        rw [this, Bool.false_or]
theorem contains_is (l : List Int) (a : Int) (hl : l.length ≤ 10000) : slices_Contains_int_int.f (l.length + 1) l a = some (l.contains a) := by
  obtain ⟨r, h1, h2⟩ := index_go l a hl l.length 0 (by omega)
  unfold slices_Contains_int_int.f slices_Index_int_int.f
  have e : ((0 : Nat) : Int) = 0 := rfl
  rw [e] at h1
  rw [h1]
  simp only [Option.bind_some, h2, List.drop_zero]
def rcV (st : Int) (l : List Int) : Bool × Bool := if wrap64 (Int.tdiv st 100) = 2 then (false, false) else (decide (wrap64 (Int.tdiv st 100) = 5) || l.contains st, true)
def impl_RetryCode.f (a0 : Int) (l1 : List Int) : Option (Bool × Bool) := if l1.length ≤ 10000 then some (rcV a0 l1) else none
theorem run_equalIn_func_nil {P : Program} (w : World) (d : Nat) (t : TypeId) (ps rs : Array TypeId) (v : Bool) (h : P.underlying t = some (.func ps rs v)) : (Op.equalIn (d + 1) t .nilFunc .nilFunc).run P w = .ok true w := by
  simp [Op.equalIn, run_underlying h]
theorem run_neq_func_nil {P : Program} (w : World) (t : TypeId) (ps rs : Array TypeId) (v : Bool) (h : P.underlying t = some (.func ps rs v)) : (binOp .neq t .nilFunc .nilFunc).run P w = .ok (.bool false) w := by
  simp only [binOp]
  simp [show (Op.equal t .nilFunc .nilFunc).run P w = .ok true w from run_equalIn_func_nil w 9999 t ps rs v h]
set_option maxHeartbeats 800000 in
theorem readAll_nil (w : World) : Calls Tryd.prog 40 #[.nilIface] w fun e w' => e = .returned (.string ⟨#[]⟩) ∧ Below w.heap.size w w' := by
  go_enter Tryd.func40, Tryd.ntmps40
  go_wp2
  go_ret
  exact ⟨rfl, Below.refl _ _⟩
set_option maxRecDepth 100000 in
set_option maxHeartbeats 1600000 in
theorem check_calls (b : Nat) (st : Int) (A : Option Addr) (c : Nat) (l : List Int) (w : World) (hb : w.heap[b]? = some (.cells #[.nilFunc, .slice A l.length c] 47 (0, 0))) (hr : Kd.C (Kd.int .i64) w A l.length l) (hc : l.length ≤ c) (hl : l.length ≤ 10000) :
    Calls Tryd.prog 25 #[.pointer (some ⟨b, 0, none⟩), .int .i64 st, .nilIface] w fun e w' => ∃ v, e = .returned (.tuple #[.bool (rcV st l).1, v]) ∧ errIs (!(rcV st l).2) v ∧ Below w.heap.size w w' := by
  have hu := Tryd.underlying47
  have c0 : w.cell? ⟨b, 0, none⟩ = some .nilFunc := by rw [Lib.cell_of_heap hb]; rfl
  have c1 : w.cell? ⟨b, 1, none⟩ = some (.slice A l.length c) := by rw [Lib.cell_of_heap hb]; rfl
  have HB := Aside0.mk (Below.refl w.heap.size w)
  have HBK := Aside0.mk hb
  have HR := Aside0.mk hr
  have HC := Aside0.mk hc
  have hcon := Aside0.mk (contains_is l st hl)
  have hfn : ∀ w2 : World, (binOp .neq 45 .nilFunc .nilFunc).run Tryd.prog w2 = .ok (.bool false) w2 := fun w2 => run_neq_func_nil w2 _ _ _ _ Tryd.underlying45
  clear hr hb
  by_cases h2 : wrap64 (Int.tdiv st 100) = 2
  · have e : rcV st l = (false, false) := if_pos h2
    rw [e]
    have h2b : (wrap64 (Int.tdiv st 100) == 2) = true := beq_iff_eq.2 h2
    go_enter Tryd.func25, Tryd.ntmps25
    go_wp2
    go_ret2
    exact ⟨_, rfl, rfl, HB.out⟩
  · have e : rcV st l = (decide (wrap64 (Int.tdiv st 100) = 5) || l.contains st, true) := if_neg h2
    rw [e]
    have h2b : (wrap64 (Int.tdiv st 100) == 2) = false := beq_eq_false_iff_ne.2 h2
    by_cases h5 : wrap64 (Int.tdiv st 100) = 5
    · have h5b : (wrap64 (Int.tdiv st 100) == 5) = true := beq_iff_eq.2 h5
      rw [show (decide (wrap64 (Int.tdiv st 100) = 5) || l.contains st) = true by simp [h5]]
      go_enter Tryd.func25, Tryd.ntmps25
      go_wp2_with (first | (go_at_call 39; refine (slices_Contains_int_int.calls _ _ _ l _ _ _ HR.out HC.out hcon.out).mono ?_; rintro e w2 ⟨rfl, nd, rfl⟩; have HB1 := Aside0.mk (pw_below_drewN HB.out nd); clear HB; have HB := HB1; clear HB1) | (go_at_call 40; refine (readAll_nil _).mono ?_; rintro e w3 ⟨rfl, hb3⟩; have HB1 := Aside0.mk (below_step HB.out hb3); clear HB hb3; have HB := HB1; clear HB1) | (go_at_call 41; refine (errNew_calls _ _).mono ?_; rintro e w4 ⟨g, rfl, hb4⟩; have HB1 := Aside0.mk (below_step HB.out hb4); clear HB hb4; have HB := HB1; clear HB1))
      go_ret2
      exact ⟨_, rfl, ⟨_, rfl⟩, HB.out⟩
    · have h5b : (wrap64 (Int.tdiv st 100) == 5) = false := beq_eq_false_iff_ne.2 h5
      rw [show (decide (wrap64 (Int.tdiv st 100) = 5) || l.contains st) = decide (st ∈ l) by simp [h5]]
      go_enter Tryd.func25, Tryd.ntmps25
      go_wp2_with (first | (go_at_call 39; refine (slices_Contains_int_int.calls _ _ _ l _ _ _ HR.out HC.out hcon.out).mono ?_; rintro e w2 ⟨rfl, nd, rfl⟩; have HB1 := Aside0.mk (pw_below_drewN HB.out nd); clear HB; have HB := HB1; clear HB1) | (go_at_call 40; refine (readAll_nil _).mono ?_; rintro e w3 ⟨rfl, hb3⟩; have HB1 := Aside0.mk (below_step HB.out hb3); clear HB hb3; have HB := HB1; clear HB1) | (go_at_call 41; refine (errNew_calls _ _).mono ?_; rintro e w4 ⟨g, rfl, hb4⟩; have HB1 := Aside0.mk (below_step HB.out hb4); clear HB hb4; have HB := HB1; clear HB1))
      go_ret2
      exact ⟨_, rfl, ⟨_, rfl⟩, HB.out⟩
set_option maxRecDepth 100000 in
set_option maxHeartbeats 1600000 in
theorem impl_RetryCode.calls (a0 : Int) (A1 : Option Addr) (c1 : Nat) (l1 : List Int) (r1 : Bool) (r2 : Bool) (w : World) (hr1 : Kd.C (Kd.int .i64) w A1 l1.length l1) (hc1 : l1.length ≤ c1) (h : impl_RetryCode.f a0 l1 = some (r1, r2)) :
    Calls Tryd.prog 10 #[.int .i64 a0, .slice A1 l1.length c1] w fun e w' => e = .returned (.tuple #[.bool r1, .bool r2]) ∧ Below w.heap.size w w' := by
  unfold impl_RetryCode.f at h
  by_cases hl : l1.length ≤ 10000
  · rw [if_pos hl] at h
    obtain ⟨rfl, rfl⟩ : (rcV a0 l1).1 = r1 ∧ (rcV a0 l1).2 = r2 := by rw [Option.some.inj h]; exact ⟨rfl, rfl⟩
    clear h
    have hu := Tryd.underlying47
    have HB := Aside0.mk (below_alloc (Below.refl w.heap.size w) (.cells #[.nilFunc, .slice A1 l1.length c1] 47))
    have HK := Aside0.mk (check_calls w.heap.size a0 A1 c1 l1 (w.alloc (.cells #[.nilFunc, .slice A1 l1.length c1] 47)) (heap_alloc_new _ _) (Kd.C_below hr1 HB.out) hc1 hl)
    generalize hV : rcV a0 l1 = V at *
    obtain ⟨V1, V2⟩ := V
    clear hr1 hV
    cases V2
    · go_enter Tryd.func10, Tryd.ntmps10
      go_wp2_with fail
      refine HK.out.mono ?_
      rintro e w1 ⟨v, rfl, hv, hb⟩
      have hv2 : v = .nilIface := hv
      subst hv2
      have HB1 := Aside0.mk (below_step HB.out hb)
      clear hb
      go_wp2
      repeat (go_quiet (fail); try go_wp2)
      go_ret2
      exact ⟨rfl, by repeat (first | exact HB1.out | apply below_drew | apply pw_below_drewN)⟩
    · go_enter Tryd.func10, Tryd.ntmps10
      go_wp2_with fail
      refine HK.out.mono ?_
      rintro e w1 ⟨v, rfl, ⟨g, rfl⟩, hb⟩
      have HB1 := Aside0.mk (below_step HB.out hb)
      clear hb
      go_wp2
      repeat (go_quiet (fail); try go_wp2)
      go_ret2
      exact ⟨rfl, by repeat (first | exact HB1.out | apply below_drew | apply pw_below_drewN)⟩
  · rw [if_neg hl] at h
    cases h
end Go.Proofs.YtkbaihcamimnjaaDoor.Q
