/- The law FnOrder, for every input: it returns true, and its arguments read behind the call as they read before. No condition. -/
import Derived.Test.YtbcijcmmpbkkbaaRows
import Derived.Test.YtbcijcmmpbkkbaaQlawsFnOrder
import Derived.Test.YtbcijcmmpbkkbaaHOpens
import Derived.Test.YtbcijcmmpbkkbaaUFnOrder
import Derived.WalkKit
import Derived.ProofKit
import Derived.OpenShut
import Derived.ShutString
import Derived.ChangeOld
import Derived.Below
import Derived.SizedLaws
namespace Go.Proofs.Ytbcijcmmpbkkbaa.fnOrder
open Go.ChangeShapes Go.WideShapes Go.ChangeAt Go.RowKit
open Go.ChangeMaps (open_string shut_string)
open Go.Proofs.YtbcijcmmpbkkbaaW.PrintWords Go.Proofs.Ytbcijcmmpbkkbaa.Q
theorem own : ownKnob Try.prog.godebug = none := by kernel_rfl
theorem laidOut : laidOutB Try.prog = true := by kernel_rfl
set_option maxRecDepth 100000 in
set_option linter.unusedVariables false in
theorem lifted (os : Os) (started : os.Started) (H : Type) (enc : TypeId × Value → H) :
    ReturnsInHanded {} Try.checked os 7 .any (Rows.fnOrderSpec.pre6 enc Try.prog Try.f7 Rows.fnOrderRow.domain false) (Rows.fnOrderSpec.post enc Try.prog Try.f7 false true false false) := by
  refine returnsInHanded_of_change_sized (C := Try.checked) own started (by kernel_rfl) Try.func7
    (ChangeSpec.witness6 (enc := enc) (C := Try.checked) false ⟨#[], #[.agg #[(.int .i64 0), (.string ByteArray.empty), (.string ByteArray.empty)], .agg #[(.int .i64 0), (.string ByteArray.empty), (.string ByteArray.empty)], .agg #[(.int .i64 0), (.string ByteArray.empty), (.string ByteArray.empty)]], []⟩ 8 (by kernel_rfl) (by kernel_rfl) (by kernel_rfl) (by kernel_rfl)) ?_
  intro W base args ds gs before hval0 hW hcnd hsz0 _
  have hsz : (DataW.weightsEach Try.prog (Try.f7.params.toList ++ Rows.fnOrderSpec.plain.varTypes Try.prog) (ds ++ gs)).all (· ≤ reachBytes) = true := hsz0
  have hval : ∀ (j : Nat) t v, Try.f7.params[j]? = some t → args[j]? = some v → Value.okWide Try.prog W .any base t v := hval0
  have hW' := hW
  obtain ⟨p, q, hA0, hV, rfl, hfz, hnd⟩ := hW
  have hA : DataW.TrodAll enc Try.prog W 0 (fun _ => true) true Try.f7.params.toList args.toList ds p := hA0
  rw [Try.params7] at hA hval hsz
  obtain ⟨v0, vs0, d0, ds0, p0, q0, hargs, rfl, rfl, h0, r0⟩ := trodAll_cons hA
  obtain ⟨v1, vs1, d1, ds1, p1, q1, rfl, rfl, rfl, h1, r1⟩ := trodAll_cons r0
  obtain ⟨v2, vs2, d2, ds2, p2, q2, rfl, rfl, rfl, h2, r2⟩ := trodAll_cons r1
  obtain ⟨rfl, rfl, rfl⟩ := trodAll_nil r2
  obtain rfl : args = #[v0, v1, v2] := by cases args; simp_all
  obtain ⟨rfl, rfl⟩ := trodVars_none hV
  obtain ⟨cs0, rfl, _⟩ := okWide_struct Try.underlying30 (hval 0 30 v0 rfl rfl)
  have k0_ := h0
  have lt0 : ∀ x ∈ p0, x.block < W.heap.size := by obtain ⟨m, hm⟩ := k0_; exact DataW.trod_lt m _ _ _ hm
  obtain ⟨x0, hx0⟩ : ∃ x, (k30).K W x (Value.cells (.agg cs0)).toList := (by obtain ⟨fuel, hf⟩ := h0; exact opens30 hf)
  have e0 : cs0 = #[.int .i64 x0.f0, .string x0.f1, .string x0.f2] := Array.ext' (k30_open hx0)
  subst e0
  obtain ⟨cs1, rfl, _⟩ := okWide_struct Try.underlying30 (hval 1 30 v1 rfl rfl)
  have k1_ := h1
  have lt1 : ∀ x ∈ p1, x.block < W.heap.size := by obtain ⟨m, hm⟩ := k1_; exact DataW.trod_lt m _ _ _ hm
  obtain ⟨x1, hx1⟩ : ∃ x, (k30).K W x (Value.cells (.agg cs1)).toList := (by obtain ⟨fuel, hf⟩ := h1; exact opens30 hf)
  have e1 : cs1 = #[.int .i64 x1.f0, .string x1.f1, .string x1.f2] := Array.ext' (k30_open hx1)
  subst e1
  obtain ⟨cs2, rfl, _⟩ := okWide_struct Try.underlying30 (hval 2 30 v2 rfl rfl)
  have k2_ := h2
  have lt2 : ∀ x ∈ p2, x.block < W.heap.size := by obtain ⟨m, hm⟩ := k2_; exact DataW.trod_lt m _ _ _ hm
  obtain ⟨x2, hx2⟩ : ∃ x, (k30).K W x (Value.cells (.agg cs2)).toList := (by obtain ⟨fuel, hf⟩ := h2; exact opens30 hf)
  have e2 : cs2 = #[.int .i64 x2.f0, .string x2.f1, .string x2.f2] := Array.ext' (k30_open hx2)
  subst e2
  obtain ⟨k, hk⟩ := laws_FnOrder.pure x0.f0 x0.f1 x0.f2 x1.f0 x1.f1 x1.f2 x2.f0 x2.f1 x2.f2 
  clear hA0 hval0 hsz0 hsz
  refine (laws_FnOrder.calls k x0.f0 x0.f1 x0.f2 x1.f0 x1.f1 x1.f2 x2.f0 x2.f1 x2.f2 true W  hk).mono fun e W' he2 => ?_
  obtain ⟨he, bel0⟩ := he2
  have bel : Below W.heap.size W W' := bel0
  subst he
  exact ⟨_, rfl, _, _, _, [], _, [], hW', trodAll_mk1 (shut_bool Try.underlying4 _), (trodAll_cons_mk (Below.trod laidOut (by kernel_rfl) (of_decide_eq_true (by kernel_rfl)) k0_ bel lt0) (trodAll_cons_mk (Below.trod laidOut (by kernel_rfl) (of_decide_eq_true (by kernel_rfl)) k1_ bel lt1) (trodAll_cons_mk (Below.trod laidOut (by kernel_rfl) (of_decide_eq_true (by kernel_rfl)) k2_ bel lt2) trodAll_mk0))), rfl, bel.frame _, fun h => by cases h⟩
theorem over : Rows.fnOrderRow.holds Try.pinned (OpenSpec.ofChange Rows.fnOrderSpec) :=
  OpenClaim.holds_of_wide 7 Try.f7 rfl rfl rfl rfl rfl rfl rfl ⟨rfl, rfl, rfl, rfl, rfl⟩ rfl rfl rfl rfl rfl (by kernel_rfl) Try.func7 (by kernel_rfl)
    (of_decide_eq_true (by kernel_rfl)) (by unfold Func.isWrapper; first | (rw [if_pos (by decide +kernel)]; kernel_rfl) | (rw [if_neg (by decide +kernel)]; exact ⟨rfl, rfl⟩))
    (fun os started H enc _ => lifted os started H enc)
theorem proved : Rows.FnOrderSaid := over
#print axioms proved
end Go.Proofs.Ytbcijcmmpbkkbaa.fnOrder
namespace Go.Proofs.Ytbcijcmmpbkkbaa
/-- The row, under a short name, for the claim. -/
theorem fnOrder_holds : Rows.FnOrderSaid := fnOrder.proved
end Go.Proofs.Ytbcijcmmpbkkbaa
