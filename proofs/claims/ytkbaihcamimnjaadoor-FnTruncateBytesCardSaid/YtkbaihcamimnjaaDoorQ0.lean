-- Printed for this seat by wip/pp.py of this repo; nothing here is trusted: Lean checks it.
import Derived.Test.YtkbaihcamimnjaaDoorProg
import Derived.Below
import Derived.Deep.Draws
import Derived.Deep.AppendLies
import Derived.Maps.AppendAt
import Derived.OwnWalk
import Derived.Laws.BytesArg
import Derived.Laws.MakeOwn
import Derived.Laws.OwnMore
import Derived.Deep.OwnRows
import Derived.Tactics
import Derived.Lib.ConvBytes
import Derived.Laws.Slices
import Derived.WalkKit
import Derived.KernelRfl
import Derived.RowKit3
import Derived.Deep.LoopGhost
import Derived.Deep.QuietTactic
import Derived.BigQuiet
import Derived.WideLaws
import Derived.Deep.DeepCutAuto
import Derived.Deep.CutBlock
import Derived.Deep.RegionHeld3
import Derived.Laws.Rows
import Derived.Lib.AppendStr
import Derived.ArgAppend
import Derived.Laws.IdiomCopy
import Derived.OrdersHeld
import Derived.Laws.BitsLemmas
import Derived.RowKit
import Derived.Test.YtkbaihcamimnjaaDoorWWords
import Derived.Test.YtkbaihcamimnjaaDoorWLast
import Derived.Test.YtkbaihcamimnjaaDoorWTab
import Derived.Test.YtkbaihcamimnjaaDoorWFour
import Derived.Test.YtkbaihcamimnjaaDoorWQPut
import Derived.Test.YtkbaihcamimnjaaDoorWApart
import Derived.Test.YtkbaihcamimnjaaDoorWArr
import Derived.Test.YtkbaihcamimnjaaDoorWZeros
import Derived.Test.YtkbaihcamimnjaaDoorWFoot
import Derived.Test.YtkbaihcamimnjaaDoorWKept
import Derived.Test.YtkbaihcamimnjaaDoorWShare
import Derived.Test.YtkbaihcamimnjaaDoorWN
import Derived.Test.YtkbaihcamimnjaaDoorWFootNe
import Derived.Test.YtkbaihcamimnjaaDoorWAt
import Derived.Test.YtkbaihcamimnjaaDoorWEqStruct
import Derived.Test.YtkbaihcamimnjaaDoorWRepsOne
import Derived.Test.YtkbaihcamimnjaaDoorWInv
import Derived.Test.YtkbaihcamimnjaaDoorWInvWords
import Derived.Test.YtkbaihcamimnjaaDoorWGuard
import Derived.Test.YtkbaihcamimnjaaDoorWNEv
import Derived.Test.YtkbaihcamimnjaaDoorWMore
namespace Go.Proofs.YtkbaihcamimnjaaDoor.Q
open Go.RowKit Go.Proofs.YtkbaihcamimnjaaDoorW.PrintWords Go.Proofs.YtkbaihcamimnjaaDoorW.PrintLast Go.Proofs.YtkbaihcamimnjaaDoorW.PrintMore
attribute [local go_sem] max2_int min2_int max_two min_two max_three min_three max_four min_four   -- for this text's walks alone
set_option linter.unusedVariables false
set_option linter.unusedSimpArgs false



def errW : Option Int → Value
  | none => .nilIface
  | some c => .iface 0 (.int .i64 c)
theorem errW_none : errW none = .nilIface := rfl
theorem errW_some (c : Int) : errW (some c) = .iface 0 (.int .i64 c) := rfl

theorem info5 : (Tryd.prog.info? 5).map (fun i => (i.zero, i.size, i.bytes)) = some (some (.int .u8 0), 1, 1) := by kernel_rfl
-- the values' own types

theorem q_isEmpty (l : List UInt8) : l.isEmpty = !(l != []) := by cases l <;> rfl
theorem q_gt : ∀ (x y : List UInt8), (x == y) = false → Op.bytesLess x y = !Op.bytesLess y x
  | [], [], h => by simp at h
  | [], _ :: _, _ => by simp [Op.bytesLess]
  | _ :: _, [], _ => by simp [Op.bytesLess]
  | a :: x, b :: y, h => by
    have ih := q_gt x y
    simp only [Op.bytesLess]
    by_cases e : a = b
    · subst e
      have h2 : (x == y) = false := by simpa using h
      simp [ih h2]
    · have hn : a.toNat ≠ b.toNat := fun h => e (UInt8.toNat_inj.1 h)
      by_cases h1 : a < b
      · have h2 : ¬ b < a := fun h2 => by rw [UInt8.lt_iff_toNat_lt] at h1 h2; omega
        simp [h1, h2, Ne.symm e]
      · have h2 : b < a := by rw [UInt8.lt_iff_toNat_lt] at h1 ⊢; omega
        simp [h1, h2, e]
end Go.Proofs.YtkbaihcamimnjaaDoor.Q
