/- The law FnSortedSame, for every input: it returns true, and its arguments read behind the call as they read before. No condition. -/
import Derived.Test.YtikhlolhodgegaaRows
import Derived.Test.YtikhlolhodgegaaQlawsFnSortedSame
import Derived.Test.YtikhlolhodgegaaHOpens
import Derived.Test.YtikhlolhodgegaaHByteK
import Derived.Test.YtikhlolhodgegaaUFnSortedSame
import Derived.WalkKit
import Derived.ProofKit
import Derived.OpenShut
import Derived.ShutString
import Derived.ChangeOld
import Derived.Below
import Derived.SizedLaws
namespace Go.Proofs.Ytikhlolhodgegaa.fnSortedSame
open Go.ChangeShapes Go.WideShapes Go.ChangeAt Go.RowKit
open Go.ChangeMaps (open_string shut_string)
open Go.Proofs.YtikhlolhodgegaaW.PrintWords Go.Proofs.Ytikhlolhodgegaa.Q
theorem own : ownKnob Try.prog.godebug = none := by kernel_rfl
theorem laidOut : laidOutB Try.prog = true := by kernel_rfl
set_option maxRecDepth 100000 in
set_option linter.unusedVariables false in
theorem lifted (os : Os) (started : os.Started) (H : Type) (enc : TypeId × Value → H) :
    ReturnsInHanded {} Try.checked os 11 .any (Rows.fnSortedSameSpec.pre6 enc Try.prog Try.f11 Rows.fnSortedSameRow.domain false) (Rows.fnSortedSameSpec.post enc Try.prog Try.f11 false true false false) := by
  refine returnsInHanded_of_change_sized (C := Try.checked) own started (by kernel_rfl) Try.func11
    (ChangeSpec.witness6 (enc := enc) (C := Try.checked) false ⟨#[], #[.slice none 0 0, .slice none 0 0, .slice none 0 0], []⟩ 8 (by kernel_rfl) (by kernel_rfl) (by kernel_rfl) (by kernel_rfl)) ?_
  intro W base args ds gs before hval0 hW hcnd hsz0 _
  have hsz : (DataW.weightsEach Try.prog (Try.f11.params.toList ++ Rows.fnSortedSameSpec.plain.varTypes Try.prog) (ds ++ gs)).all (· ≤ reachBytes) = true := hsz0
  have hval : ∀ (j : Nat) t v, Try.f11.params[j]? = some t → args[j]? = some v → Value.okWide Try.prog W .any base t v := hval0
  have hW' := hW
  obtain ⟨p, q, hA0, hV, rfl, hfz, hnd⟩ := hW
  have hA : DataW.TrodAll enc Try.prog W 0 (fun _ => true) true Try.f11.params.toList args.toList ds p := hA0
  rw [Try.params11] at hA hval hsz
  obtain ⟨v0, vs0, d0, ds0, p0, q0, hargs, rfl, rfl, h0, r0⟩ := trodAll_cons hA
  obtain ⟨v1, vs1, d1, ds1, p1, q1, rfl, rfl, rfl, h1, r1⟩ := trodAll_cons r0
  obtain ⟨v2, vs2, d2, ds2, p2, q2, rfl, rfl, rfl, h2, r2⟩ := trodAll_cons r1
  obtain ⟨rfl, rfl, rfl⟩ := trodAll_nil r2
  obtain rfl : args = #[v0, v1, v2] := by cases args; simp_all
  obtain ⟨rfl, rfl⟩ := trodVars_none hV
  obtain ⟨A0, len0, cap0, rfl⟩ := okWide_slice Try.underlying47 (hval 0 47 v0 rfl rfl)
  have k0_ := h0
  have lt0 : ∀ x ∈ p0, x.block < W.heap.size := by obtain ⟨m, hm⟩ := k0_; exact DataW.trod_lt m _ _ _ hm
  obtain ⟨l0, B0, c0, ecs0, hc0, hr0⟩ : ∃ (l : List S52) (B : Option Addr) (c : Nat), (Value.cells (.slice A0 len0 cap0)).toList = [.slice B l.length c] ∧ l.length ≤ c ∧ Kd.C k52 W B l.length l := (by obtain ⟨fuel, hf⟩ := h0; obtain ⟨l, B, c, h1, h2, h3⟩ := (opens_slice Try.underlying47 (by kernel_rfl) opens52) hf; exact ⟨l, B, c, h1, h2, h3⟩)
  obtain ⟨rfl, rfl, rfl⟩ : A0 = B0 ∧ len0 = l0.length ∧ cap0 = c0 := by simpa [Value.cells] using ecs0
  obtain ⟨A1, len1, cap1, rfl⟩ := okWide_slice Try.underlying48 (hval 1 48 v1 rfl rfl)
  have k1_ := h1
  have lt1 : ∀ x ∈ p1, x.block < W.heap.size := by obtain ⟨m, hm⟩ := k1_; exact DataW.trod_lt m _ _ _ hm
  obtain ⟨l1, B1, c1, ecs1, hc1, hr1⟩ : ∃ (l : List Int) (B : Option Addr) (c : Nat), (Value.cells (.slice A1 len1 cap1)).toList = [.slice B l.length c] ∧ l.length ≤ c ∧ Kd.C (Q.kdW .u8) W B l.length l := (by obtain ⟨fuel, hf⟩ := h1; obtain ⟨l, B, c, h1, h2, h3⟩ := (opens_slice Try.underlying48 (by kernel_rfl) (Q.opens_intW Try.underlying5)) hf; exact ⟨l, B, c, h1, h2, h3⟩)
  obtain ⟨rfl, rfl, rfl⟩ : A1 = B1 ∧ len1 = l1.length ∧ cap1 = c1 := by simpa [Value.cells] using ecs1
  obtain ⟨A2, len2, cap2, rfl⟩ := okWide_slice Try.underlying22 (hval 2 22 v2 rfl rfl)
  have k2_ := h2
  have lt2 : ∀ x ∈ p2, x.block < W.heap.size := by obtain ⟨m, hm⟩ := k2_; exact DataW.trod_lt m _ _ _ hm
  obtain ⟨l2, B2, c2, ecs2, hc2, hr2⟩ : ∃ (l : List S26) (B : Option Addr) (c : Nat), (Value.cells (.slice A2 len2 cap2)).toList = [.slice B l.length c] ∧ l.length ≤ c ∧ Kd.C k26 W B l.length l := (by obtain ⟨fuel, hf⟩ := h2; obtain ⟨l, B, c, h1, h2, h3⟩ := (opens_slice Try.underlying22 (by kernel_rfl) opens26) hf; exact ⟨l, B, c, h1, h2, h3⟩)
  obtain ⟨rfl, rfl, rfl⟩ : A2 = B2 ∧ len2 = l2.length ∧ cap2 = c2 := by simpa [Value.cells] using ecs2
  obtain ⟨k, hk⟩ := laws_FnSortedSame.pureB l0 l1 l2 hr0.2.1 hr1.2.1 hr2.2.1 (Q.kdW_range hr1)
  clear hA0 hval0 hsz0 hsz
  refine (laws_FnSortedSame.calls k _ _ l0 _ _ l1 _ _ l2 true W hr0 hc0 (Q.kdW_int hr1) hc1 hr2 hc2 hk).mono fun e W' he2 => ?_
  obtain ⟨he, bel0⟩ := he2
  have bel : Below W.heap.size W W' := bel0
  subst he
  exact ⟨_, rfl, _, _, _, [], _, [], hW', trodAll_mk1 (shut_bool Try.underlying4 _), (trodAll_cons_mk (Below.trod laidOut (by kernel_rfl) (of_decide_eq_true (by kernel_rfl)) k0_ bel lt0) (trodAll_cons_mk (Below.trod laidOut (by kernel_rfl) (of_decide_eq_true (by kernel_rfl)) k1_ bel lt1) (trodAll_cons_mk (Below.trod laidOut (by kernel_rfl) (of_decide_eq_true (by kernel_rfl)) k2_ bel lt2) trodAll_mk0))), rfl, bel.frame _, fun h => by cases h⟩
theorem over : Rows.fnSortedSameRow.holds Try.pinned (OpenSpec.ofChange Rows.fnSortedSameSpec) :=
  OpenClaim.holds_of_wide 11 Try.f11 rfl rfl rfl rfl rfl rfl rfl ⟨rfl, rfl, rfl, rfl, rfl⟩ rfl rfl rfl rfl rfl (by kernel_rfl) Try.func11 (by kernel_rfl)
    (of_decide_eq_true (by kernel_rfl)) (by unfold Func.isWrapper; first | (rw [if_pos (by decide +kernel)]; kernel_rfl) | (rw [if_neg (by decide +kernel)]; exact ⟨rfl, rfl⟩))
    (fun os started H enc _ => lifted os started H enc)
theorem proved : Rows.FnSortedSameSaid := over
#print axioms proved
end Go.Proofs.Ytikhlolhodgegaa.fnSortedSame
namespace Go.Proofs.Ytikhlolhodgegaa
/-- The statement, under a short name, for the claim. -/
theorem fnSortedSame_holds : Rows.FnSortedSameSaid := fnSortedSame.proved
end Go.Proofs.Ytikhlolhodgegaa
