/- The law FnMatchDuals, for every input: it returns true, and its arguments read behind the call as they read before. No condition. -/
import Derived.Test.YtbcijcmmpbkkbaaRows
import Derived.Test.YtbcijcmmpbkkbaaQlawsFnMatchDuals
import Derived.Test.YtbcijcmmpbkkbaaHOpens
import Derived.Test.YtbcijcmmpbkkbaaUFnMatchDuals
import Derived.WalkKit
import Derived.ProofKit
import Derived.OpenShut
import Derived.ShutString
import Derived.ChangeOld
import Derived.Below
import Derived.SizedLaws
namespace Go.Proofs.Ytbcijcmmpbkkbaa.fnMatchDuals
open Go.ChangeShapes Go.WideShapes Go.ChangeAt Go.RowKit
open Go.ChangeMaps (open_string shut_string)
open Go.Proofs.YtbcijcmmpbkkbaaW.PrintWords Go.Proofs.Ytbcijcmmpbkkbaa.Q
theorem own : ownKnob Try.prog.godebug = none := by kernel_rfl
theorem laidOut : laidOutB Try.prog = true := by kernel_rfl
set_option maxRecDepth 100000 in
set_option linter.unusedVariables false in
theorem lifted (os : Os) (started : os.Started) (H : Type) (enc : TypeId × Value → H) :
    ReturnsInHanded {} Try.checked os 11 .any (Rows.fnMatchDualsSpec.pre6 enc Try.prog Try.f11 Rows.fnMatchDualsRow.domain false) (Rows.fnMatchDualsSpec.post enc Try.prog Try.f11 false true false false) := by
  refine returnsInHanded_of_change_sized (C := Try.checked) own started (by kernel_rfl) Try.func11
    (ChangeSpec.witness6 (enc := enc) (C := Try.checked) false ⟨#[], #[.string ByteArray.empty, .string ByteArray.empty, .slice none 0 0], []⟩ 8 (by kernel_rfl) (by kernel_rfl) (by kernel_rfl) (by kernel_rfl)) ?_
  intro W base args ds gs before hval0 hW hcnd hsz0 _
  have hsz : (DataW.weightsEach Try.prog (Try.f11.params.toList ++ Rows.fnMatchDualsSpec.plain.varTypes Try.prog) (ds ++ gs)).all (· ≤ reachBytes) = true := hsz0
  have hval : ∀ (j : Nat) t v, Try.f11.params[j]? = some t → args[j]? = some v → Value.okWide Try.prog W .any base t v := hval0
  have hW' := hW
  obtain ⟨p, q, hA0, hV, rfl, hfz, hnd⟩ := hW
  have hA : DataW.TrodAll enc Try.prog W 0 (fun _ => true) true Try.f11.params.toList args.toList ds p := hA0
  rw [Try.params11] at hA hval hsz
  obtain ⟨v0, vs0, d0, ds0, p0, q0, hargs, rfl, rfl, h0, r0⟩ := trodAll_cons hA
  obtain ⟨v1, vs1, d1, ds1, p1, q1, rfl, rfl, rfl, h1, r1⟩ := trodAll_cons r0
  obtain ⟨v2, vs2, d2, ds2, p2, q2, rfl, rfl, rfl, h2, r2⟩ := trodAll_cons r1
  obtain ⟨rfl, rfl, rfl⟩ := trodAll_nil r2
  obtain rfl : args = #[v0, v1, v2] := by cases args; simp_all
  obtain ⟨rfl, rfl⟩ := trodVars_none hV
  obtain ⟨a0, rfl, rfl, rfl, y0⟩ := open_string Try.underlying9 (hval 0 9 v0 rfl rfl) h0
  have w0 : a0.size ≤ 140737488351232 := by
    have z := sized_string hsz (j := 0) (t := 9) rfl rfl
    rw [Array.length_toList] at z
    exact z
  obtain ⟨a1, rfl, rfl, rfl, y1⟩ := open_string Try.underlying9 (hval 1 9 v1 rfl rfl) h1
  have w1 : a1.size ≤ 140737488351232 := by
    have z := sized_string hsz (j := 1) (t := 9) rfl rfl
    rw [Array.length_toList] at z
    exact z
  obtain ⟨A2, len2, cap2, rfl⟩ := okWide_slice Try.underlying22 (hval 2 22 v2 rfl rfl)
  have k2_ := h2
  have lt2 : ∀ x ∈ p2, x.block < W.heap.size := by obtain ⟨m, hm⟩ := k2_; exact DataW.trod_lt m _ _ _ hm
  obtain ⟨l2, B2, c2, ecs2, hc2, hr2⟩ : ∃ (l : List S26) (B : Option Addr) (c : Nat), (Value.cells (.slice A2 len2 cap2)).toList = [.slice B l.length c] ∧ l.length ≤ c ∧ Kd.C k26 W B l.length l := (by obtain ⟨fuel, hf⟩ := h2; obtain ⟨l, B, c, h1, h2, h3⟩ := (opens_slice Try.underlying22 (by kernel_rfl) opens26) hf; exact ⟨l, B, c, h1, h2, h3⟩)
  obtain ⟨rfl, rfl, rfl⟩ : A2 = B2 ∧ len2 = l2.length ∧ cap2 = c2 := by simpa [Value.cells] using ecs2
  obtain ⟨k, hk⟩ := laws_FnMatchDuals.pure a0 a1 l2 w0 w1 hr2.2.1
  clear hA0 hval0 hsz0 hsz
  refine (laws_FnMatchDuals.calls k a0 a1 _ _ l2 true W hr2 hc2 hk).mono fun e W' he2 => ?_
  obtain ⟨he, bel0⟩ := he2
  have bel : Below W.heap.size W W' := bel0
  subst he
  exact ⟨_, rfl, _, _, _, [], _, [], hW', trodAll_mk1 (shut_bool Try.underlying4 _), (trodAll_cons_mk (shut_string Try.underlying9 y0) (trodAll_cons_mk (shut_string Try.underlying9 y1) (trodAll_cons_mk (Below.trod laidOut (by kernel_rfl) (of_decide_eq_true (by kernel_rfl)) k2_ bel lt2) trodAll_mk0))), rfl, bel.frame _, fun h => by cases h⟩
theorem over : Rows.fnMatchDualsRow.holds Try.pinned (OpenSpec.ofChange Rows.fnMatchDualsSpec) :=
  OpenClaim.holds_of_wide 11 Try.f11 rfl rfl rfl rfl rfl rfl rfl ⟨rfl, rfl, rfl, rfl, rfl⟩ rfl rfl rfl rfl rfl (by kernel_rfl) Try.func11 (by kernel_rfl)
    (of_decide_eq_true (by kernel_rfl)) (by unfold Func.isWrapper; first | (rw [if_pos (by decide +kernel)]; kernel_rfl) | (rw [if_neg (by decide +kernel)]; exact ⟨rfl, rfl⟩))
    (fun os started H enc _ => lifted os started H enc)
theorem proved : Rows.FnMatchDualsSaid := over
#print axioms proved
end Go.Proofs.Ytbcijcmmpbkkbaa.fnMatchDuals
namespace Go.Proofs.Ytbcijcmmpbkkbaa
/-- The row, under a short name, for the claim. -/
theorem fnMatchDuals_holds : Rows.FnMatchDualsSaid := fnMatchDuals.proved
end Go.Proofs.Ytbcijcmmpbkkbaa
