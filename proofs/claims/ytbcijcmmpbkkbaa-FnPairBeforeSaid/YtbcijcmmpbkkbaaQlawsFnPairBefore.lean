/- The law laws_FnPairBefore, of its three ways. -/
import Derived.Test.YtbcijcmmpbkkbaaQlawsFnPairBeforex1
import Derived.Test.YtbcijcmmpbkkbaaQlawsFnPairBeforex2
import Derived.Test.YtbcijcmmpbkkbaaQlawsFnPairBeforex3
import Derived.Test.YtbcijcmmpbkkbaaQ0
import Derived.Test.YtbcijcmmpbkkbaaHPair
import Derived.Test.YtbcijcmmpbkkbaaQlawszzFits1
import Derived.Test.YtbcijcmmpbkkbaaQspecPairBefore
namespace Go.Proofs.Ytbcijcmmpbkkbaa.Q
open Go.RowKit Go.Proofs.YtbcijcmmpbkkbaaW.PrintWords Go.Proofs.YtbcijcmmpbkkbaaW.PrintLast Go.Proofs.YtbcijcmmpbkkbaaW.PrintMore
attribute [local go_sem] max2_int min2_int max_two min_two max_three min_three max_four min_four   -- for this text's walks alone
set_option linter.unusedVariables false
set_option linter.unusedSimpArgs false
theorem laws_FnPairBefore.calls (k : Nat) (A0 : Option Addr) (c0 : Nat) (l0 : List (S26)) (a1 : Int) (a2 : Int) (r : Bool) (w : World) (hr0 : Kd.C k26 w A0 l0.length l0) (hc0 : l0.length ≤ c0) (h : laws_FnPairBefore.f k l0 a1 a2 = some r) :
    Calls Try.prog 3 #[.slice A0 l0.length c0, .int .i64 a1, .int .i64 a2] w fun e w' => e = .returned (.bool r) ∧ Below w.heap.size w w' := by
  by_cases c1 : (Op.bytesLess (((rd_T26 l0 a1).f0).toList) (((rd_T26 l0 a2).f0).toList)) = true
  · exact laws_FnPairBefore.calls1 k A0 c0 l0 a1 a2 r w hr0 hc0 c1 h
  · by_cases c2 : ((rd_T26 l0 a1).f0).toList = ((rd_T26 l0 a2).f0).toList
    · exact laws_FnPairBefore.calls2 k A0 c0 l0 a1 a2 r w hr0 hc0 ⟨c1, c2⟩ h
    · exact laws_FnPairBefore.calls3 k A0 c0 l0 a1 a2 r w hr0 hc0 ⟨c1, c2⟩ h
end Go.Proofs.Ytbcijcmmpbkkbaa.Q
