/- The law FnMatchValue, for every input: it returns true, and its arguments read behind the call as they read before. No condition. -/
import Derived.Test.YtbcijcmmpbkkbaaRows
import Derived.Test.YtbcijcmmpbkkbaaQlawsFnMatchValue
import Derived.Test.YtbcijcmmpbkkbaaHOpens
import Derived.Test.YtbcijcmmpbkkbaaUFnMatchValue
import Derived.WalkKit
import Derived.ProofKit
import Derived.OpenShut
import Derived.ShutString
import Derived.ChangeOld
import Derived.Below
import Derived.SizedLaws
namespace Go.Proofs.Ytbcijcmmpbkkbaa.fnMatchValue
open Go.ChangeShapes Go.WideShapes Go.ChangeAt Go.RowKit
open Go.ChangeMaps (open_string shut_string)
open Go.Proofs.YtbcijcmmpbkkbaaW.PrintWords Go.Proofs.Ytbcijcmmpbkkbaa.Q
theorem own : ownKnob Try.prog.godebug = none := by kernel_rfl
theorem laidOut : laidOutB Try.prog = true := by kernel_rfl
set_option maxRecDepth 100000 in
set_option linter.unusedVariables false in
theorem lifted (os : Os) (started : os.Started) (H : Type) (enc : TypeId × Value → H) :
    ReturnsInHanded {} Try.checked os 4 .any (Rows.fnMatchValueSpec.pre6 enc Try.prog Try.f4 Rows.fnMatchValueRow.domain false) (Rows.fnMatchValueSpec.post enc Try.prog Try.f4 false true false false) := by
  refine returnsInHanded_of_change_sized (C := Try.checked) own started (by kernel_rfl) Try.func4
    (ChangeSpec.witness6 (enc := enc) (C := Try.checked) false ⟨#[], #[.agg #[(.int .i64 0), (.string ByteArray.empty), (.string ByteArray.empty)], .string ByteArray.empty], []⟩ 8 (by kernel_rfl) (by kernel_rfl) (by kernel_rfl) (by kernel_rfl)) ?_
  intro W base args ds gs before hval0 hW hcnd hsz0 _
  have hsz : (DataW.weightsEach Try.prog (Try.f4.params.toList ++ Rows.fnMatchValueSpec.plain.varTypes Try.prog) (ds ++ gs)).all (· ≤ reachBytes) = true := hsz0
  have hval : ∀ (j : Nat) t v, Try.f4.params[j]? = some t → args[j]? = some v → Value.okWide Try.prog W .any base t v := hval0
  have hW' := hW
  obtain ⟨p, q, hA0, hV, rfl, hfz, hnd⟩ := hW
  have hA : DataW.TrodAll enc Try.prog W 0 (fun _ => true) true Try.f4.params.toList args.toList ds p := hA0
  rw [Try.params4] at hA hval hsz
  obtain ⟨v0, vs0, d0, ds0, p0, q0, hargs, rfl, rfl, h0, r0⟩ := trodAll_cons hA
  obtain ⟨v1, vs1, d1, ds1, p1, q1, rfl, rfl, rfl, h1, r1⟩ := trodAll_cons r0
  obtain ⟨rfl, rfl, rfl⟩ := trodAll_nil r1
  obtain rfl : args = #[v0, v1] := by cases args; simp_all
  obtain ⟨rfl, rfl⟩ := trodVars_none hV
  obtain ⟨cs0, rfl, _⟩ := okWide_struct Try.underlying30 (hval 0 30 v0 rfl rfl)
  have k0_ := h0
  have lt0 : ∀ x ∈ p0, x.block < W.heap.size := by obtain ⟨m, hm⟩ := k0_; exact DataW.trod_lt m _ _ _ hm
  obtain ⟨x0, hx0⟩ : ∃ x, (k30).K W x (Value.cells (.agg cs0)).toList := (by obtain ⟨fuel, hf⟩ := h0; exact opens30 hf)
  have e0 : cs0 = #[.int .i64 x0.f0, .string x0.f1, .string x0.f2] := Array.ext' (k30_open hx0)
  subst e0
  obtain ⟨a1, rfl, rfl, rfl, y1⟩ := open_string Try.underlying9 (hval 1 9 v1 rfl rfl) h1
  have w1 : a1.size ≤ 140737488351232 := by
    have z := sized_string hsz (j := 1) (t := 9) rfl rfl
    rw [Array.length_toList] at z
    exact z
  obtain ⟨k, hk⟩ := laws_FnMatchValue.pure x0.f0 x0.f1 x0.f2 a1 w1
  clear hA0 hval0 hsz0 hsz
  refine (laws_FnMatchValue.calls k x0.f0 x0.f1 x0.f2 a1 true W  hk).mono fun e W' he2 => ?_
  obtain ⟨he, bel0⟩ := he2
  have bel : Below W.heap.size W W' := bel0
  subst he
  exact ⟨_, rfl, _, _, _, [], _, [], hW', trodAll_mk1 (shut_bool Try.underlying4 _), (trodAll_cons_mk (Below.trod laidOut (by kernel_rfl) (of_decide_eq_true (by kernel_rfl)) k0_ bel lt0) (trodAll_cons_mk (shut_string Try.underlying9 y1) trodAll_mk0)), rfl, bel.frame _, fun h => by cases h⟩
theorem over : Rows.fnMatchValueRow.holds Try.pinned (OpenSpec.ofChange Rows.fnMatchValueSpec) :=
  OpenClaim.holds_of_wide 4 Try.f4 rfl rfl rfl rfl rfl rfl rfl ⟨rfl, rfl, rfl, rfl, rfl⟩ rfl rfl rfl rfl rfl (by kernel_rfl) Try.func4 (by kernel_rfl)
    (of_decide_eq_true (by kernel_rfl)) (by unfold Func.isWrapper; first | (rw [if_pos (by decide +kernel)]; kernel_rfl) | (rw [if_neg (by decide +kernel)]; exact ⟨rfl, rfl⟩))
    (fun os started H enc _ => lifted os started H enc)
theorem proved : Rows.FnMatchValueSaid := over
#print axioms proved
end Go.Proofs.Ytbcijcmmpbkkbaa.fnMatchValue
namespace Go.Proofs.Ytbcijcmmpbkkbaa
/-- The row, under a short name, for the claim. -/
theorem fnMatchValue_holds : Rows.FnMatchValueSaid := fnMatchValue.proved
end Go.Proofs.Ytbcijcmmpbkkbaa
