-- Printed for this seat by wip/pp.py of this repo; nothing here is trusted: Lean checks it.
import Derived.Test.YtbcijcmmpbkkbaaQ0
import Derived.Test.YtbcijcmmpbkkbaaHPair
import Derived.Test.YtbcijcmmpbkkbaaQlawszzFits1
import Derived.Test.YtbcijcmmpbkkbaaQspecPairBefore
namespace Go.Proofs.Ytbcijcmmpbkkbaa.Q
open Go.RowKit Go.Proofs.YtbcijcmmpbkkbaaW.PrintWords Go.Proofs.YtbcijcmmpbkkbaaW.PrintLast Go.Proofs.YtbcijcmmpbkkbaaW.PrintMore
attribute [local go_sem] max2_int min2_int max_two min_two max_three min_three max_four min_four   -- for this text's walks alone
set_option linter.unusedVariables false
set_option linter.unusedSimpArgs false

/-! ### laws_FnPairBefore: function 3 -/
def laws_FnPairBefore.j0 : Nat → List (S26) → Int → Int → Bool → Option (Bool)
  | 0, _, _, _, _ => none
  | k + 1, x0, x1, x2, x39 => if x39 = true then (some true) else (if 0 ≤ x1 then (if x1 < (x0.length : Int) then (if 0 ≤ x2 then (if x2 < (x0.length : Int) then ((impl_PairBefore.f x0 x1 x2).bind fun t116 => (if (Op.bytesLess (((rd_T26 x0 x1).f0).toList) (((rd_T26 x0 x2).f0).toList)) = true then (if (t116 == true) = true then ((impl_PairBefore.f x0 x1 x2).bind fun t117 => ((spec_PairBefore.f ((rd_T26 x0 x1).f0) ((rd_T26 x0 x1).f1) ((rd_T26 x0 x2).f0) ((rd_T26 x0 x2).f1)).bind fun t118 => (some (t117 == t118)))) else (some false)) else (if ((rd_T26 x0 x1).f0).toList = ((rd_T26 x0 x2).f0).toList then (if (t116 == (Op.bytesLess (((rd_T26 x0 x1).f1).toList) (((rd_T26 x0 x2).f1).toList))) = true then ((impl_PairBefore.f x0 x1 x2).bind fun t119 => ((spec_PairBefore.f ((rd_T26 x0 x1).f0) ((rd_T26 x0 x1).f1) ((rd_T26 x0 x2).f0) ((rd_T26 x0 x2).f1)).bind fun t120 => (some (t119 == t120)))) else (some false)) else (if (t116 == false) = true then ((impl_PairBefore.f x0 x1 x2).bind fun t121 => ((spec_PairBefore.f ((rd_T26 x0 x1).f0) ((rd_T26 x0 x1).f1) ((rd_T26 x0 x2).f0) ((rd_T26 x0 x2).f1)).bind fun t122 => (some (t121 == t122)))) else (some false))))) else (none)) else (none)) else (none)) else (none))
def laws_FnPairBefore.f (k : Nat) (l0 : List (S26)) (a1 : Int) (a2 : Int) : Option (Bool) := (laws_zzFits1.f k l0).bind fun t107 => (if t107 = true then ((impl_PairBefore.f (([(⟨(⟨#[97]⟩ : ByteArray), (⟨#[]⟩ : ByteArray)⟩ : S26), (⟨(⟨#[98]⟩ : ByteArray), (⟨#[]⟩ : ByteArray)⟩ : S26)] : List (S26))) 0 1).bind fun t111 => (if t111 = true then (if a1 < 0 then (laws_FnPairBefore.j0 k l0 a1 a2 true) else (if a2 < 0 then (laws_FnPairBefore.j0 k l0 a1 a2 true) else (if a1 ≥ (l0.length : Int) then (laws_FnPairBefore.j0 k l0 a1 a2 true) else (if a2 ≥ (l0.length : Int) then (laws_FnPairBefore.j0 k l0 a1 a2 true) else (laws_FnPairBefore.j0 k l0 a1 a2 (decide ((l0.length : Int) > 10000))))))) else (some false))) else (some true))
theorem laws_FnPairBefore.mono_l : ∀ k, (∀ y0 y1 y2 y3, LeO (laws_FnPairBefore.j0 k y0 y1 y2 y3) (laws_FnPairBefore.j0 (k + 1) y0 y1 y2 y3))
  | 0 => fun _ _ _ _ r h => by simp [laws_FnPairBefore.j0] at h
  | k + 1 => by
    have ih0 := laws_FnPairBefore.mono_l k
    · intro y0 y1 y2 y3
      unfold laws_FnPairBefore.j0
      repeat' first
      | (with_reducible exact ih0 _ _ _ _)
      | (with_reducible exact laws_zzFits1.mono _ _)
      | (with_reducible exact LeO.refl _)
      | (with_reducible exact LeO.none _)
      | (with_reducible refine LeO.ite ?_ ?_)
      | (with_reducible refine LeO.bind ?_ (fun _ => ?_))
      | exact ih0 _ _ _ _
      | exact laws_zzFits1.mono _ _
      | exact LeO.none _
      | refine LeO.ite ?_ ?_
      | refine LeO.bind ?_ (fun _ => ?_)
theorem laws_FnPairBefore.mono : ∀ a0 a1 a2 k, LeO (laws_FnPairBefore.f k a0 a1 a2) (laws_FnPairBefore.f (k + 1) a0 a1 a2) := by
  intro a0 a1 a2 k
  have ih0 := laws_FnPairBefore.mono_l k
  unfold laws_FnPairBefore.f
  repeat' first
      | (with_reducible exact ih0 _ _ _ _)
      | (with_reducible exact laws_zzFits1.mono _ _)
      | (with_reducible exact LeO.refl _)
      | (with_reducible exact LeO.none _)
      | (with_reducible refine LeO.ite ?_ ?_)
      | (with_reducible refine LeO.bind ?_ (fun _ => ?_))
      | exact ih0 _ _ _ _
      | exact laws_zzFits1.mono _ _
      | exact LeO.none _
      | refine LeO.ite ?_ ?_
      | refine LeO.bind ?_ (fun _ => ?_)
def laws_FnPairBefore.T7 : Bool × List (List Nat × List Nat) := (true, [([], []), ([], []), ([0, 1], [0, 1]), ([2], [2]), ([], []), ([], []), ([4, 5], [4, 5]), ([6], [6]), ([], []), ([], []), ([8, 3, 0, 1, 2, 3, 8, 9], [3, 8]), ([9, 7, 10, 0, 1, 2, 3, 4, 5, 6, 7, 8, 9, 10], [7, 9])])
def laws_FnPairBefore.B7 : List Nat := [0, 0, 3, 7, 0, 0, 48, 112, 0, 0, 783, 2047]
theorem laws_FnPairBefore.tab7 : rtab .any (opsOf Try.f3 7) = laws_FnPairBefore.T7 := by kernel_rfl
theorem laws_FnPairBefore.bits7 : waitsOk laws_FnPairBefore.T7.2 laws_FnPairBefore.B7 = true := by kernel_rfl
def laws_FnPairBefore.T8 : Bool × List (List Nat × List Nat) := (true, [([], []), ([], []), ([], []), ([0, 1, 2], [0, 1, 2]), ([], []), ([4], [4]), ([], []), ([6], [6]), ([5, 7], [5, 7]), ([8, 3], [8]), ([9], [9]), ([10, 9], [9, 10]), ([9], [9]), ([12, 9], [9, 12]), ([11, 13, 9], [9, 11, 13]), ([14, 9, 9], [9, 14]), ([15], [15]), ([16, 15], [15, 16]), ([15], [15]), ([18, 15], [15, 18]), ([17, 19, 15], [15, 17, 19]), ([15, 20, 9], [9, 15, 20]), ([9, 21], [9, 21]), ([3, 22], [3, 22]), ([23, 15], [23]), ([24], [24]), ([24], [24]), ([24], [24]), ([25, 26, 27, 24, 24], [24, 25, 26, 27]), ([24], [24]), ([24], [24]), ([29, 30, 28, 24], [24, 29, 30]), ([28, 31, 24], [24, 28, 31]), ([24, 32], [24, 32]), ([33, 31, 0, 1, 2, 3, 4, 5, 6, 7, 8, 9, 10, 11, 12, 13, 14, 15, 16, 17, 18, 19, 20, 21, 22, 23, 24, 25, 26, 27, 28, 29, 30, 31, 32, 33], [33])])
def laws_FnPairBefore.B8 : List Nat := [0, 0, 0, 7, 0, 16, 0, 64, 240, 511, 1023, 2047, 1023, 5119, 16383, 32767, 65535, 131071, 65535, 327679, 1048575, 2097151, 4194303, 8388607, 16777215, 33554431, 33554431, 33554431, 268435455, 33554431, 33554431, 2147483647, 4294967295, 8589934591, 17179869183]
theorem laws_FnPairBefore.tab8 : rtab .any (opsOf Try.f3 8) = laws_FnPairBefore.T8 := by kernel_rfl
theorem laws_FnPairBefore.bits8 : waitsOk laws_FnPairBefore.T8.2 laws_FnPairBefore.B8 = true := by kernel_rfl
end Go.Proofs.Ytbcijcmmpbkkbaa.Q
