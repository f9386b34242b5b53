/- What a row's listed variable says of the table that math/bits.TrailingZeros64 reads. No condition. -/
import Derived.Test.YtkbaihcamimnjaaDoorHHex
import Derived.Shelf.Spec.TrailingZeros
set_option linter.unusedVariables false
set_option linter.unusedSimpArgs false
namespace Go.Proofs.YtkbaihcamimnjaaDoor.Q
open Go.RowKit Go.Lib
def tabZ : List Int := Lib.deBruijn64tab.map fun (n : Nat) => (n : Int)
theorem TBz.of_reads {w : World} (h : VarReads Tryd.prog w "math/bits.deBruijn64tab" (tabData .u8 tabZ)) : TBz w := by
  obtain ⟨g, t, cs, fuel, p, hg, hty, hvar, hd⟩ := h
  have hgn : Tryd.prog.globalNamed "math/bits.deBruijn64tab" = some 6 := by kernel_rfl
  have ht0 : (Tryd.prog.globalNamed "math/bits.deBruijn64tab").bind (fun g => (Tryd.prog.globals[g]?).map (·.type)) = some 118 := by kernel_rfl
  rw [hg] at ht0
  obtain rfl : t = 118 := Option.some.inj (hty.symm.trans ht0)
  have hcs := cells_of_tab Tryd.underlying118 Tryd.underlying5 (by kernel_rfl) (by kernel_rfl) hd
  have ht : TabIs Tryd.prog w "math/bits.deBruijn64tab" .u8 tabZ := by
    unfold TabIs
    rw [hvar, ← hcs]
  have hc := ht.cell hgn 15 (of_decide_eq_true (by kernel_rfl))
  have e : tabZ.getD 15 0 = 4 := by kernel_rfl
  rw [e] at hc
  exact hc
theorem TBz.of_laid {l : List (String × DataW Unit)} {w : World} (h : laidMetH Tryd.prog l w) (hp : (l.all fun x => x.2.handleName?.isNone) = true) (i : Nat) (hm : l[i]? = some ("math/bits.deBruijn64tab", tabData .u8 tabZ)) : TBz w := by
  rw [MakeChecks.laidMetH_plain _ _ _ hp] at h
  exact TBz.of_reads (Go.Lib.laidMet.reads h (List.mem_of_getElem? hm))
end Go.Proofs.YtkbaihcamimnjaaDoor.Q
