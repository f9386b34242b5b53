/- The law FnPairsSet, for every input: it returns true, and its arguments read behind the call as they read before. No condition. -/
import Derived.Test.YtikhlolhodgegaaRows
import Derived.Test.YtikhlolhodgegaaHPairsSetC
import Derived.Test.YtikhlolhodgegaaHOpens
import Derived.Test.YtikhlolhodgegaaUFnPairsSet
import Derived.WalkKit
import Derived.ProofKit
import Derived.OpenShut
import Derived.ShutString
import Derived.ChangeOld
import Derived.Below
import Derived.SizedLaws
namespace Go.Proofs.Ytikhlolhodgegaa.fnPairsSet
open Go.ChangeShapes Go.WideShapes Go.ChangeAt Go.RowKit
open Go.ChangeMaps (open_string shut_string)
open Go.Proofs.YtikhlolhodgegaaW.PrintWords Go.Proofs.Ytikhlolhodgegaa.Q
theorem own : ownKnob Try.prog.godebug = none := by kernel_rfl
theorem laidOut : laidOutB Try.prog = true := by kernel_rfl
set_option maxRecDepth 100000 in
set_option linter.unusedVariables false in
theorem lifted (os : Os) (started : os.Started) (H : Type) (enc : TypeId × Value → H) :
    ReturnsInHanded {} Try.checked os 7 .any (Rows.fnPairsSetSpec.pre6 enc Try.prog Try.f7 Rows.fnPairsSetRow.domain false) (Rows.fnPairsSetSpec.post enc Try.prog Try.f7 false true false false) := by
  refine returnsInHanded_of_change_sized (C := Try.checked) own started (by kernel_rfl) Try.func7
    (ChangeSpec.witness6 (enc := enc) (C := Try.checked) false ⟨#[], #[.slice none 0 0], []⟩ 8 (by kernel_rfl) (by kernel_rfl) (by kernel_rfl) (by kernel_rfl)) ?_
  intro W base args ds gs before hval0 hW hcnd hsz0 _
  have hsz : (DataW.weightsEach Try.prog (Try.f7.params.toList ++ Rows.fnPairsSetSpec.plain.varTypes Try.prog) (ds ++ gs)).all (· ≤ reachBytes) = true := hsz0
  have hval : ∀ (j : Nat) t v, Try.f7.params[j]? = some t → args[j]? = some v → Value.okWide Try.prog W .any base t v := hval0
  have hW' := hW
  obtain ⟨p, q, hA0, hV, rfl, hfz, hnd⟩ := hW
  have hA : DataW.TrodAll enc Try.prog W 0 (fun _ => true) true Try.f7.params.toList args.toList ds p := hA0
  rw [Try.params7] at hA hval hsz
  obtain ⟨v0, vs0, d0, ds0, p0, q0, hargs, rfl, rfl, h0, r0⟩ := trodAll_cons hA
  obtain ⟨rfl, rfl, rfl⟩ := trodAll_nil r0
  obtain rfl : args = #[v0] := by cases args; simp_all
  obtain ⟨rfl, rfl⟩ := trodVars_none hV
  obtain ⟨A0, len0, cap0, rfl⟩ := okWide_slice Try.underlying22 (hval 0 22 v0 rfl rfl)
  have k0_ := h0
  have lt0 : ∀ x ∈ p0, x.block < W.heap.size := by obtain ⟨m, hm⟩ := k0_; exact DataW.trod_lt m _ _ _ hm
  obtain ⟨l0, B0, c0, ecs0, hc0, hr0⟩ : ∃ (l : List S26) (B : Option Addr) (c : Nat), (Value.cells (.slice A0 len0 cap0)).toList = [.slice B l.length c] ∧ l.length ≤ c ∧ Kd.C k26 W B l.length l := (by obtain ⟨fuel, hf⟩ := h0; obtain ⟨l, B, c, h1, h2, h3⟩ := (opens_slice Try.underlying22 (by kernel_rfl) opens26) hf; exact ⟨l, B, c, h1, h2, h3⟩)
  obtain ⟨rfl, rfl, rfl⟩ : A0 = B0 ∧ len0 = l0.length ∧ cap0 = c0 := by simpa [Value.cells] using ecs0
  have hk := laws_FnPairsSet.pure l0 hr0.2.1
  clear hA0 hval0 hsz0 hsz
  refine (laws_FnPairsSet.calls _ _ l0 true W hr0 hc0 hk).mono fun e W' he2 => ?_
  obtain ⟨he, bel0⟩ := he2
  have bel : Below W.heap.size W W' := bel0
  subst he
  exact ⟨_, rfl, _, _, _, [], _, [], hW', trodAll_mk1 (shut_bool Try.underlying4 _), (trodAll_cons_mk (Below.trod laidOut (by kernel_rfl) (of_decide_eq_true (by kernel_rfl)) k0_ bel lt0) trodAll_mk0), rfl, bel.frame _, fun h => by cases h⟩
theorem over : Rows.fnPairsSetRow.holds Try.pinned (OpenSpec.ofChange Rows.fnPairsSetSpec) :=
  OpenClaim.holds_of_wide 7 Try.f7 rfl rfl rfl rfl rfl rfl rfl ⟨rfl, rfl, rfl, rfl, rfl⟩ rfl rfl rfl rfl rfl (by kernel_rfl) Try.func7 (by kernel_rfl)
    (of_decide_eq_true (by kernel_rfl)) (by unfold Func.isWrapper; first | (rw [if_pos (by decide +kernel)]; kernel_rfl) | (rw [if_neg (by decide +kernel)]; exact ⟨rfl, rfl⟩))
    (fun os started H enc _ => lifted os started H enc)
theorem proved : Rows.FnPairsSetSaid := over
#print axioms proved
end Go.Proofs.Ytikhlolhodgegaa.fnPairsSet
namespace Go.Proofs.Ytikhlolhodgegaa
/-- The statement, under a short name, for the claim. -/
theorem fnPairsSet_holds : Rows.FnPairsSetSaid := fnPairsSet.proved
end Go.Proofs.Ytikhlolhodgegaa
