-- Printed for this seat by wip/pp.py of this repo; nothing here is trusted: Lean checks it.
import Derived.Test.YtnnhehlieakedaaGreatDoorProg
import Derived.Below
import Derived.Deep.Draws
import Derived.Deep.AppendLies
import Derived.Maps.AppendAt
import Derived.OwnWalk
import Derived.Laws.BytesArg
import Derived.Laws.MakeOwn
import Derived.Laws.OwnMore
import Derived.Deep.OwnRows
import Derived.Tactics
import Derived.Lib.ConvBytes
import Derived.Laws.Slices
import Derived.WalkKit
import Derived.KernelRfl
import Derived.RowKit3
import Derived.Deep.LoopGhost
import Derived.Deep.QuietTactic
import Derived.BigQuiet
import Derived.WideLaws
import Derived.Deep.DeepCutAuto
import Derived.Deep.CutBlock
import Derived.Deep.RegionHeld3
import Derived.Laws.Rows
import Derived.Lib.AppendStr
import Derived.ArgAppend
import Derived.Laws.IdiomCopy
import Derived.OrdersHeld
import Derived.Laws.BitsLemmas
import Derived.RowKit
import Derived.Test.YtnnhehlieakedaaGreatDoorWWords
import Derived.Test.YtnnhehlieakedaaGreatDoorWLast
import Derived.Test.YtnnhehlieakedaaGreatDoorWTab
import Derived.Test.YtnnhehlieakedaaGreatDoorWFour
import Derived.Test.YtnnhehlieakedaaGreatDoorWQPut
import Derived.Test.YtnnhehlieakedaaGreatDoorWApart
import Derived.Test.YtnnhehlieakedaaGreatDoorWArr
import Derived.Test.YtnnhehlieakedaaGreatDoorWZeros
import Derived.Test.YtnnhehlieakedaaGreatDoorWFoot
import Derived.Test.YtnnhehlieakedaaGreatDoorWKept
import Derived.Test.YtnnhehlieakedaaGreatDoorWShare
import Derived.Test.YtnnhehlieakedaaGreatDoorWN
import Derived.Test.YtnnhehlieakedaaGreatDoorWFootNe
import Derived.Test.YtnnhehlieakedaaGreatDoorWAt
import Derived.Test.YtnnhehlieakedaaGreatDoorWEqStruct
import Derived.Test.YtnnhehlieakedaaGreatDoorWRepsOne
import Derived.Test.YtnnhehlieakedaaGreatDoorWInv
import Derived.Test.YtnnhehlieakedaaGreatDoorWInvWords
import Derived.Test.YtnnhehlieakedaaGreatDoorWGuard
import Derived.Test.YtnnhehlieakedaaGreatDoorWNEv
import Derived.Test.YtnnhehlieakedaaGreatDoorWMore
namespace Go.Proofs.YtnnhehlieakedaaGreatDoor.Q
open Go.RowKit Go.Proofs.YtnnhehlieakedaaGreatDoorW.PrintWords Go.Proofs.YtnnhehlieakedaaGreatDoorW.PrintLast Go.Proofs.YtnnhehlieakedaaGreatDoorW.PrintMore
attribute [local go_sem] max2_int min2_int max_two min_two max_three min_three max_four min_four   -- for this text's walks alone
set_option linter.unusedVariables false
set_option linter.unusedSimpArgs false



def errW : Option Int → Value
  | none => .nilIface
  | some c => .iface 0 (.int .i64 c)
theorem errW_none : errW none = .nilIface := rfl
theorem errW_some (c : Int) : errW (some c) = .iface 0 (.int .i64 c) := rfl

theorem info5 : (Tryz.prog.info? 5).map (fun i => (i.zero, i.size, i.bytes)) = some (some (.int .u8 0), 1, 1) := by kernel_rfl
-- the values' own types
/-! #### struct type 25 -/
structure S25 where
  f0 : Int
  f1 : ByteArray
  f2 : ByteArray
def z25 : S25 := ⟨(0 : Int), (⟨#[]⟩ : ByteArray), (⟨#[]⟩ : ByteArray)⟩
def k25 : Kd S25 := Kd.iso (Kd.pair (Kd.int .i64) (Kd.pair Kd.string Kd.string)) (fun x : S25 => (x.f0, x.f1, x.f2))
theorem k25_open {w : World} {x : S25} {cs : List Value} (h : k25.K w x cs) : cs = [.int .i64 x.f0, .string x.f1, .string x.f2] := by
  obtain ⟨_, _, rfl, rfl, ⟨_, _, rfl, rfl, rfl⟩⟩ := h
  exact rfl
theorem k25_mkM (w : World) (base : Nat) (ok : Nat → Prop) (x : S25)  : k25.M w base ok x [.int .i64 x.f0, .string x.f1, .string x.f2] := ⟨[.int .i64 x.f0], [.string x.f1, .string x.f2], rfl, rfl, ⟨[.string x.f1], [.string x.f2], rfl, rfl, rfl⟩⟩
def rd_T25 (xs : List S25) (i : Int) : S25 := xs.getD i.toNat z25
theorem at_T25 {w : World} {A : Option Addr} {n : Nat} {xs : List S25} (h : Kd.C k25 w A n xs) (i : Int) (h0 : 0 ≤ i) (h1 : i < n) : ∃ ad , A = some ad ∧ w.cell? (ad.add (i.toNat * 3)) = some (.int .i64 (rd_T25 xs i).f0) ∧ w.cell? ⟨(ad.add (i.toNat * 3)).block, (ad.add (i.toNat * 3)).off + 1, none⟩ = some (.string (rd_T25 xs i).f1) ∧ w.cell? ⟨(ad.add (i.toNat * 3)).block, (ad.add (i.toNat * 3)).off + 2, none⟩ = some (.string (rd_T25 xs i).f2) := by
  obtain ⟨ad, c, e, _, hK, hc0⟩ := Kd.C_get h z25 i h0 h1
  have hc : ∀ j u, c[j]? = some u → w.cell? (ad.add (i.toNat * 3 + j)) = some u := hc0
  obtain rfl := k25_open hK
  exact ⟨ad, e, hc 0 _ rfl, by rw [← add_field _ _ 1 (by omega)]; exact hc 1 _ rfl, by rw [← add_field _ _ 2 (by omega)]; exact hc 2 _ rfl⟩

/-! #### struct type 61 -/
structure S61 where
  f0 : Int
  f1 : ByteArray
  f2 : Int
  f3 : Int
  f4 : Int
  f5 : Int
/-! #### struct type 28 -/
structure S28 where
  f0 : Int
  f1 : ByteArray
  f2 : ByteArray
/-! #### struct type 186 -/
structure S186 where
  f0 : Int
  f1 : Int
  f2 : Int
/-! #### struct type 189 -/
structure S189 where
  f0 : Int
  f1 : Int
  f2 : Int
/-! #### struct type 71 -/
structure S71 where
  f0 : ByteArray
  f1 : ByteArray
/-! #### struct type 47 -/
structure S47 where
  f0 : ByteArray
  f1 : ByteArray
theorem q_isEmpty (l : List UInt8) : l.isEmpty = !(l != []) := by cases l <;> rfl
theorem q_gt : ∀ (x y : List UInt8), (x == y) = false → Op.bytesLess x y = !Op.bytesLess y x
  | [], [], h => by simp at h
  | [], _ :: _, _ => by simp [Op.bytesLess]
  | _ :: _, [], _ => by simp [Op.bytesLess]
  | a :: x, b :: y, h => by
    have ih := q_gt x y
    simp only [Op.bytesLess]
    by_cases e : a = b
    · subst e
      have h2 : (x == y) = false := by simpa using h
      simp [ih h2]
    · have hn : a.toNat ≠ b.toNat := fun h => e (UInt8.toNat_inj.1 h)
      by_cases h1 : a < b
      · have h2 : ¬ b < a := fun h2 => by rw [UInt8.lt_iff_toNat_lt] at h1 h2; omega
        simp [h1, h2, Ne.symm e]
      · have h2 : b < a := by rw [UInt8.lt_iff_toNat_lt] at h1 ⊢; omega
        simp [h1, h2, e]
end Go.Proofs.YtnnhehlieakedaaGreatDoor.Q
