/- timeinterval.zzSplit: a text cut at its colons. Condition: a text of at most 100000 bytes. -/
import Derived.WalkLawsBesides
import Derived.Outline
import Derived.Test.YtmmcibeeojfplaaDoorHKinds
import Derived.Test.YtmmcibeeojfplaaDoorUSplit
set_option linter.unusedVariables false
set_option linter.unusedSimpArgs false
namespace Go.Proofs.YtmmcibeeojfplaaDoor.Q
open Go.RowKit Go.Lib Go.Proofs.YtmmcibeeojfplaaDoorW.PrintWords Go.Proofs.YtmmcibeeojfplaaDoorW.PrintLast Go.Proofs.YtmmcibeeojfplaaDoorW.PrintMore
attribute [local go_sem] max2_int min2_int max_two min_two max_three min_three max_four min_four
theorem infoStrS : (Tryd.prog.info? 9).map (fun i => (i.zero, i.size, i.bytes)) = some (some (.string ⟨#[]⟩), 1, 16) := by kernel_rfl
theorem idxC_calls (t : ByteArray) (ht : t.size ≤ 100000) (w : World) : Calls Tryd.prog 149 #[.string t, .string ⟨#[58]⟩] w fun e w' => e = .returned (.int .i64 (if nC t < t.size then (nC t : Int) else -1)) ∧ Below w.heap.size w w' := by
  refine (timeinterval_zzIndex.calls _ t ⟨#[58]⟩ _ w (index_is t ht)).mono ?_
  rintro e w' ⟨rfl, hd⟩
  exact ⟨rfl, hd.below⟩
structure SplitAt (s t : ByteArray) (P : List ByteArray) : Prop where
  size : t.size ≤ 100000
  len : P.length + t.size ≤ 100000
  eq : P ++ splitB t = splitB s
set_option maxRecDepth 100000 in
set_option maxHeartbeats 4000000 in
theorem split_calls (s : ByteArray) (hs : s.size ≤ 100000) (w : World) :
    Calls Tryd.prog 123 #[.string s, .string ⟨#[58]⟩] w fun e w' => ∃ v, e = .returned v ∧ Kd.R Kd.string 9 w' w.heap.size (fun _ => True) v (splitB s) ∧ Below w.heap.size w w' := by
  have HS : Aside0 (SplitAt s s []) := ⟨⟨hs, by simpa using hs, rfl⟩⟩
  have HB := Aside0.mk (Below.refl w.heap.size w)
  clear hs
  go_enter Tryd.func123, Tryd.ntmps123
  go_wp2
  go_loopw [0, 5] (fun v0 v5 wx => ∃ (t : ByteArray) (P : List ByteArray), v0 = .string t ∧ Aside0 (Kd.R Kd.string 9 wx w.heap.size (fun _ => True) v5 P) ∧ Aside0 (Below w.heap.size w wx) ∧ Aside0 (SplitAt s t P)) (fun v0 _ _ => match v0 with | .string t => t.size | _ => 0)
  case atStart => exact ⟨s, [], rfl, ⟨Kd.R_nil _ _ _ _ _⟩, HB, HS⟩
  case round =>
    obtain ⟨t, P, rfl, HV, HX, HT⟩ := hrel
    have hsz := HT.out.size
    have hle := nC_le t
    rcases Nat.lt_or_ge (nC t) t.size with hc | hc
    · have HI : Aside0 ((if nC t < t.size then (nC t : Int) else -1) = (nC t : Int)) := ⟨if_pos hc⟩
      have HC := Aside0.mk (splitB_cut t hc)
      have hlen := HT.out.len
      go_wp2_with (first
        | (go_at_call 149; refine (idxC_calls t hsz _).mono ?_; rintro e w2 ⟨rfl, hb2⟩; rw [HI.out]; have HV2 := Aside0.mk (Kd.R_below HV.out hb2); have HX2 := Aside0.mk (below_step HX.out hb2); clear hb2)
        | (at_builtin; go_loud (refine Kd.R_append Kd.string (w0 := w) w.heap.size rfl (.tmp 46) (.tmp 50) 29 9 (.string ⟨#[]⟩) 16 rfl Tryd.underlying29 infoStrS rfl (by decide) (by omega) u5 P (t.extract 0 (nC t)) [.string (t.extract 0 (nC t))] (fun _ => True) (fun _ => False) rfl (by first | (go_simp; done) | (go_simp; rfl)) rfl (fun _ hk => hk.elim) (fun _ _ => trivial) HV2.out HX2.out ?aS ?aL ?_); (case aS => exact HX2.out.size); (case aL => omega); intro v1 w6 ho hb hg6 hat6; have HO6 := Aside0.mk ho; have HB6 := Aside0.mk hb; clear ho hb hg6 hat6))
      have HN : Aside0 (SplitAt s (t.extract (nC t + 1) t.size) (P ++ [t.extract 0 (nC t)])) := ⟨⟨by rw [ByteArray.size_extract]; omega, by rw [ByteArray.size_extract, List.length_append]; simp; omega, by rw [List.append_assoc]; show P ++ (t.extract 0 (nC t) :: splitB (t.extract (nC t + 1) t.size)) = _; rw [← HC.out]; exact HT.out.eq⟩⟩
      go_roundw
      case rel => exact ⟨_, _, rfl, HO6, HB6, HN⟩
      case measure => (show (t.extract (nC t + 1) t.size).size < t.size; rw [ByteArray.size_extract]; omega)
    · have HI : Aside0 ((if nC t < t.size then (nC t : Int) else -1) = -1) := ⟨if_neg (by omega)⟩
      have HE : Aside0 (P ++ [t] = splitB s) := ⟨by rw [← splitB_end t (by omega)]; exact HT.out.eq⟩
      have hlen := HT.out.len
      go_wp2_with (first
        | (go_at_call 149; refine (idxC_calls t hsz _).mono ?_; rintro e w2 ⟨rfl, hb2⟩; rw [HI.out]; have HV2 := Aside0.mk (Kd.R_below HV.out hb2); have HX2 := Aside0.mk (below_step HX.out hb2); clear hb2)
        | (at_builtin; go_loud (refine Kd.R_append Kd.string (w0 := w) w.heap.size rfl (.tmp 42) (.tmp 44) 29 9 (.string ⟨#[]⟩) 16 rfl Tryd.underlying29 infoStrS rfl (by decide) (by omega) u5 P t [.string t] (fun _ => True) (fun _ => False) rfl (by first | (go_simp; done) | (go_simp; rfl)) rfl (fun _ hk => hk.elim) (fun _ _ => trivial) HV2.out HX2.out ?aS ?aL ?_); (case aS => exact HX2.out.size); (case aL => omega); intro v1 w6 ho hb hg6 hat6; have HO6 := Aside0.mk ho; have HB6 := Aside0.mk hb; clear ho hb hg6 hat6))
      have HO7 := HO6.out
      rw [HE.out] at HO7
      go_ret
      exact ⟨_, rfl, HO7, HB6.out⟩
end Go.Proofs.YtmmcibeeojfplaaDoor.Q
