/- What a row's listed variables say of the two tables of unicode/utf8, and that they stay. No condition. -/
import Derived.Test.YtkbaihcamimnjaaDoorHKinds
import Derived.Lib.LaidU8T
import Derived.MakeChecks
set_option linter.unusedVariables false
set_option linter.unusedSimpArgs false
namespace Go.Proofs.YtkbaihcamimnjaaDoor.Q
open Go.RowKit Go.Lib Go.Shelf
/-- The two tables of unicode/utf8 as the library's text lays them. -/
def TBu (w : World) : Prop := Lib.Utf8Tabs 0 1 w
theorem TBu.below {w w' : World} (h : TBu w) (hb : Below w.heap.size w w') : TBu w' := by
  have k : ∀ a v, w.cell? a = some v → w'.cell? a = some v := fun a v h => (hb.cell (World.block_lt_of_cell? _ _ h)).trans h
  exact ⟨fun c hc => k _ _ (h.1 c hc), fun i hi => ⟨k _ _ (h.2 i hi).1, k _ _ (h.2 i hi).2⟩⟩
def renU : Ren where
  f := fun n => n
  t := fun n => if n = 5 then 5 else if n = 119 then 57 else if n = 138 then 59 else if n = 139 then 60 else n
  g := fun n => if n = 3 then 0 else if n = 4 then 1 else n
theorem TBu.of_laid {l : List (String × DataW Unit)} {w : World} (h : laidMetH Tryd.prog l w) (hp : (l.all fun x => x.2.handleName?.isNone) = true) (i j : Nat) (hm : l[i]? = some ("unicode/utf8.first", firstData)) (hn : l[j]? = some ("unicode/utf8.acceptRanges", acceptData)) : TBu w := by
  rw [MakeChecks.laidMetH_plain _ _ _ hp] at h
  exact utf8Tabs_of_readsT (P := Tryd.prog) (ρ := renU) ⟨by kernel_rfl, by kernel_rfl, by kernel_rfl, by kernel_rfl⟩ ⟨by kernel_rfl, by kernel_rfl, by kernel_rfl, by kernel_rfl, by kernel_rfl, by kernel_rfl, by kernel_rfl⟩
    (Go.Lib.laidMet.reads h (List.mem_of_getElem? hm)) (Go.Lib.laidMet.reads h (List.mem_of_getElem? hn))
end Go.Proofs.YtkbaihcamimnjaaDoor.Q
