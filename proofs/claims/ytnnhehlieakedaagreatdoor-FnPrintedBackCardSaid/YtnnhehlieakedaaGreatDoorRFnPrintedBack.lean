/- The law FnPrintedBack, for every input: it returns true, and its arguments read behind the call as they read before. No condition. -/
import Derived.Test.YtnnhehlieakedaaGreatDoorRows
import Derived.Test.YtnnhehlieakedaaGreatDoorQlawsFnPrintedBack
import Derived.Test.YtnnhehlieakedaaGreatDoorHOpens
import Derived.Test.YtnnhehlieakedaaGreatDoorUFnPrintedBack
import Derived.Test.YtnnhehlieakedaaGreatDoorHTabQR
import Derived.WalkKit
import Derived.ProofKit
import Derived.OpenShut
import Derived.ShutString
import Derived.ChangeOld
import Derived.Below
import Derived.SizedLaws
import Derived.Test.YtnnhehlieakedaaGreatDoorTie
import Derived.Test.YtnnhehlieakedaaGreatDoorCards
import Derived.LaidMore
import Derived.Lay
import Derived.SevenTiedAt
import Derived.Stop.Joined
namespace Go.Proofs.YtnnhehlieakedaaGreatDoor.fnPrintedBack
open Go.ChangeShapes Go.WideShapes Go.ChangeAt Go.RowKit
open Go.ChangeMaps (open_string shut_string)
open Go.Proofs.YtnnhehlieakedaaGreatDoorW.PrintWords Go.Proofs.YtnnhehlieakedaaGreatDoor.Q
theorem own : ownKnob Tryz.prog.godebug = none := by kernel_rfl
theorem laidOut : laidOutB Tryz.prog = true := by kernel_rfl
set_option maxRecDepth 100000 in
set_option linter.unusedVariables false in
theorem lifted (os : Os) (started : os.Started) (H : Type) (enc : TypeId × Value → H) :
    ReturnsInHanded {} Tryz.checked os 5 .any (fun w args => (Rows.fnPrintedBackSpec.pre enc Tryz.prog Tryz.f5 Rows.fnPrintedBackRow.domain false w args ∧ laidMetH Tryz.prog Rows.fnPrintedBackRow.laid w) ∧ sizedMet enc Tryz.prog Tryz.f5 (OpenSpec.ofChange Rows.fnPrintedBackSpec) false w args) (Rows.fnPrintedBackSpec.post enc Tryz.prog Tryz.f5 false true false false) := by
  refine returnsInHanded_of_change_and (C := Tryz.checked) (X := fun w _ => laidMetH Tryz.prog Rows.fnPrintedBackRow.laid w) (fun _ _ _ hh h => h.of_heap hh) own started (by kernel_rfl) Tryz.func5
    (ChangeSpec.witness_shaped (enc := enc) (C := Tryz.checked) (os := os) (X := fun w _ => laidMetH Tryz.prog Rows.fnPrintedBackRow.laid w) false (World.laidAll Tryz.prog os Rows.fnPrintedBackRow.laid) #[.slice none 0 0] 8 (World.laidAll_os _ _ _)
      (World.shaped_of_ZipB (by kernel_rfl) (by kernel_rfl)) (by kernel_rfl) (by kernel_rfl) (by kernel_rfl)
      (by rw [MakeChecks.laidMetH_plain _ _ _ (by kernel_rfl)]; exact laidMet_laidAll _ (by kernel_rfl) (by kernel_rfl))) ?_
  intro W base args ds gs before hval0 hW hcnd hsz0 hL _
  have hsz : (DataW.weightsEach Tryz.prog (Tryz.f5.params.toList ++ Rows.fnPrintedBackSpec.plain.varTypes Tryz.prog) (ds ++ gs)).all (· ≤ reachBytes) = true := hsz0
  have hval : ∀ (j : Nat) t v, Tryz.f5.params[j]? = some t → args[j]? = some v → Value.okWide Tryz.prog W .any base t v := hval0
  have hW' := hW
  obtain ⟨p, q, hA0, hV, rfl, hfz, hnd⟩ := hW
  have hA : DataW.TrodAll enc Tryz.prog W 0 (fun _ => true) true Tryz.f5.params.toList args.toList ds p := hA0
  rw [Tryz.params5] at hA hval hsz
  obtain ⟨v0, vs0, d0, ds0, p0, q0, hargs, rfl, rfl, h0, r0⟩ := trodAll_cons hA
  obtain ⟨rfl, rfl, rfl⟩ := trodAll_nil r0
  obtain rfl : args = #[v0] := by cases args; simp_all
  obtain ⟨rfl, rfl⟩ := trodVars_none hV
  obtain ⟨A0, len0, cap0, rfl⟩ := okWide_slice Tryz.underlying32 (hval 0 32 v0 rfl rfl)
  have k0_ := h0
  have lt0 : ∀ x ∈ p0, x.block < W.heap.size := by obtain ⟨m, hm⟩ := k0_; exact DataW.trod_lt m _ _ _ hm
  obtain ⟨l0, B0, c0, ecs0, hc0, hr0⟩ : ∃ (l : List S25) (B : Option Addr) (c : Nat), (Value.cells (.slice A0 len0 cap0)).toList = [.slice B l.length c] ∧ l.length ≤ c ∧ Kd.C k25 W B l.length l := (by obtain ⟨fuel, hf⟩ := h0; obtain ⟨l, B, c, h1, h2, h3⟩ := (opens_slice Tryz.underlying32 (by kernel_rfl) opens25) hf; exact ⟨l, B, c, h1, h2, h3⟩)
  obtain ⟨rfl, rfl, rfl⟩ : A0 = B0 ∧ len0 = l0.length ∧ cap0 = c0 := by simpa [Value.cells] using ecs0
  obtain ⟨k, hk⟩ := laws_FnPrintedBack.pure l0 hr0.2.1
  clear hA0 hval0 hsz0 hsz
  refine (laws_FnPrintedBack.calls k _ _ l0 true W (TBr.of_laid hL (by kernel_rfl) 19 0 2 4 5 6 7 8 9 10 11 12 13 1 17 15 18 16 (by kernel_rfl) (by kernel_rfl) (by kernel_rfl) (by kernel_rfl) (by kernel_rfl) (by kernel_rfl) (by kernel_rfl) (by kernel_rfl) (by kernel_rfl) (by kernel_rfl) (by kernel_rfl) (by kernel_rfl) (by kernel_rfl) (by kernel_rfl) (by kernel_rfl) (by kernel_rfl) (by kernel_rfl) (by kernel_rfl)) hr0 hc0 hk).mono fun e W' he2 => ?_
  obtain ⟨he, bel0⟩ := he2
  have bel : Below W.heap.size W W' := bel0
  subst he
  exact ⟨_, rfl, _, _, _, [], _, [], hW', trodAll_mk1 (shut_bool Tryz.underlying4 _), (trodAll_cons_mk (Below.trod laidOut (by kernel_rfl) (of_decide_eq_true (by kernel_rfl)) k0_ bel lt0) trodAll_mk0), rfl, bel.frame _, fun h => by cases h⟩
theorem over : Rows.fnPrintedBackRow.holds Tryz.pinned (OpenSpec.ofChange Rows.fnPrintedBackSpec) :=
  OpenClaim.holds_of_wide 5 Tryz.f5 rfl rfl rfl rfl rfl rfl rfl ⟨rfl, rfl, rfl, rfl, rfl⟩ rfl rfl rfl rfl rfl (by kernel_rfl) Tryz.func5 (by kernel_rfl)
    (of_decide_eq_true (by kernel_rfl)) (by unfold Func.isWrapper; first | (rw [if_pos (by decide +kernel)]; kernel_rfl) | (rw [if_neg (by decide +kernel)]; exact ⟨rfl, rfl⟩))
    (fun os started H enc _ => lifted os started H enc)
theorem said : Rows.FnPrintedBackSaid := over
theorem plain (f : FuncId) (fn : Func) (hf : Tryz.pinned.checked.prog.funcNamed "pub-clamour/laws.FnPrintedBack" = some f) (hfn : Tryz.pinned.checked.prog.funcs[f]? = some fn) :
    true = Tryz.pinned.checked.prog.looks [] ∧ ∀ (j : Nat) t, fn.params[j]? = some t → Tryz.pinned.checked.prog.wantsStandIn t = false := by
  obtain rfl : f = 5 := Option.some.inj ((show Tryz.prog.funcNamed "pub-clamour/laws.FnPrintedBack" = some 5 by kernel_rfl).symm.trans hf) |>.symm
  obtain rfl : fn = Tryz.f5 := (Option.some.inj (Tryz.func5.symm.trans hfn)).symm
  refine ⟨by kernel_rfl, fun j t ht => ?_⟩
  rw [Tryz.params5] at ht
  have hm : t ∈ [32] := by simpa using Array.mem_of_getElem? ht
  have hall : ([32].all fun u => !Tryz.prog.wantsStandIn u) = true := by kernel_rfl
  exact (show Tryz.prog.wantsStandIn t = false by simpa using List.all_eq_true.1 hall t hm)
/-- The card: the row, its listed variables tied to the program's text. -/
theorem proved : Rows.FnPrintedBackCardSaid :=
  Claim7.holds_tied_plain_at .later [] _ _ _ _ said (fun _ h => by cases h) (by kernel_rfl) (fun _ h => by cases h) fnPrintedBack_row_tie rfl ⟨rfl, rfl⟩ (by kernel_rfl) rfl plain (by kernel_rfl)
#print axioms proved
end Go.Proofs.YtnnhehlieakedaaGreatDoor.fnPrintedBack
namespace Go.Proofs.YtnnhehlieakedaaGreatDoor
/-- The statement, under a short name, for the claim. -/
theorem fnPrintedBack_holds : Rows.FnPrintedBackCardSaid := fnPrintedBack.proved
end Go.Proofs.YtnnhehlieakedaaGreatDoor
