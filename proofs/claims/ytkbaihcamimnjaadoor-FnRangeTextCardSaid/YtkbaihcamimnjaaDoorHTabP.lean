/- What a row's listed variable says of the table of the powers of ten, and that it stays. No condition. -/
import Derived.Test.YtkbaihcamimnjaaDoorHKinds
import Derived.Lib.LaidU8
import Derived.Lib.AppendIntMem
import Derived.MakeChecks
set_option linter.unusedVariables false
set_option linter.unusedSimpArgs false
namespace Go.Proofs.YtkbaihcamimnjaaDoor.Q
open Go.RowKit Go.Lib
/-- The table of the powers of ten as the library's text lays it. -/
def TBp (w : World) : Prop := Lib.TabIs Tryd.prog w "internal/strconv.uint64pow10" .u64 Lib.pow10Tab
theorem TBp.below {w w' : World} (h : TBp w) (hb : Below w.heap.size w w') : TBp w' := tabBelow_of_tabIs h w' hb
theorem TBp.of_reads {w : World} (h : VarReads Tryd.prog w "internal/strconv.uint64pow10" (tabData .u64 pow10Tab)) : TBp w := by
  obtain ⟨g, t, cs, fuel, p, hg, hty, hvar, hd⟩ := h
  have ht0 : (Tryd.prog.globalNamed "internal/strconv.uint64pow10").bind (fun g => (Tryd.prog.globals[g]?).map (·.type)) = some 111 := by kernel_rfl
  rw [hg] at ht0
  obtain rfl : t = 111 := Option.some.inj (hty.symm.trans ht0)
  have hcs := cells_of_tab Tryd.underlying111 Tryd.underlying70 (by kernel_rfl) (by kernel_rfl) hd
  unfold TBp TabIs
  rw [hvar, ← hcs]
theorem TBp.of_laid {l : List (String × DataW Unit)} {w : World} (h : laidMetH Tryd.prog l w) (hp : (l.all fun x => x.2.handleName?.isNone) = true) (i : Nat) (hm : l[i]? = some ("internal/strconv.uint64pow10", tabData .u64 pow10Tab)) : TBp w := by
  rw [MakeChecks.laidMetH_plain _ _ _ hp] at h
  exact TBp.of_reads (Go.Lib.laidMet.reads h (List.mem_of_getElem? hm))
end Go.Proofs.YtkbaihcamimnjaaDoor.Q
