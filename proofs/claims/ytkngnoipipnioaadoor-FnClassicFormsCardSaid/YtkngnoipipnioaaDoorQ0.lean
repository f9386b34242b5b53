-- Printed for this seat by wip/pp.py of this repo; nothing here is trusted: Lean checks it.
import Derived.Test.YtkngnoipipnioaaDoorProg
import Derived.Below
import Derived.Deep.Draws
import Derived.Deep.AppendLies
import Derived.Maps.AppendAt
import Derived.OwnWalk
import Derived.Laws.BytesArg
import Derived.Laws.MakeOwn
import Derived.Laws.OwnMore
import Derived.Deep.OwnRows
import Derived.Tactics
import Derived.Lib.ConvBytes
import Derived.Laws.Slices
import Derived.WalkKit
import Derived.KernelRfl
import Derived.RowKit3
import Derived.Deep.LoopGhost
import Derived.Deep.QuietTactic
import Derived.BigQuiet
import Derived.WideLaws
import Derived.Deep.DeepCutAuto
import Derived.Deep.CutBlock
import Derived.Deep.RegionHeld3
import Derived.Laws.Rows
import Derived.Lib.AppendStr
import Derived.ArgAppend
import Derived.Laws.IdiomCopy
import Derived.OrdersHeld
import Derived.Laws.BitsLemmas
import Derived.RowKit
import Derived.Test.YtkngnoipipnioaaDoorWWords
import Derived.Test.YtkngnoipipnioaaDoorWLast
import Derived.Test.YtkngnoipipnioaaDoorWTab
import Derived.Test.YtkngnoipipnioaaDoorWFour
import Derived.Test.YtkngnoipipnioaaDoorWQPut
import Derived.Test.YtkngnoipipnioaaDoorWApart
import Derived.Test.YtkngnoipipnioaaDoorWArr
import Derived.Test.YtkngnoipipnioaaDoorWZeros
import Derived.Test.YtkngnoipipnioaaDoorWFoot
import Derived.Test.YtkngnoipipnioaaDoorWKept
import Derived.Test.YtkngnoipipnioaaDoorWShare
import Derived.Test.YtkngnoipipnioaaDoorWN
import Derived.Test.YtkngnoipipnioaaDoorWFootNe
import Derived.Test.YtkngnoipipnioaaDoorWAt
import Derived.Test.YtkngnoipipnioaaDoorWEqStruct
import Derived.Test.YtkngnoipipnioaaDoorWRepsOne
import Derived.Test.YtkngnoipipnioaaDoorWInv
import Derived.Test.YtkngnoipipnioaaDoorWInvWords
import Derived.Test.YtkngnoipipnioaaDoorWGuard
import Derived.Test.YtkngnoipipnioaaDoorWNEv
import Derived.Test.YtkngnoipipnioaaDoorWMore
namespace Go.Proofs.YtkngnoipipnioaaDoor.Q
open Go.RowKit Go.Proofs.YtkngnoipipnioaaDoorW.PrintWords Go.Proofs.YtkngnoipipnioaaDoorW.PrintLast Go.Proofs.YtkngnoipipnioaaDoorW.PrintMore
attribute [local go_sem] max2_int min2_int max_two min_two max_three min_three max_four min_four   -- for this text's walks alone
set_option linter.unusedVariables false
set_option linter.unusedSimpArgs false



def errW : Option Int → Value
  | none => .nilIface
  | some c => .iface 0 (.int .i64 c)
theorem errW_none : errW none = .nilIface := rfl
theorem errW_some (c : Int) : errW (some c) = .iface 0 (.int .i64 c) := rfl

theorem info5 : (Tryd.prog.info? 5).map (fun i => (i.zero, i.size, i.bytes)) = some (some (.int .u8 0), 1, 1) := by kernel_rfl
theorem info9 : (Tryd.prog.info? 9).map (fun i => (i.zero, i.size, i.bytes)) = some (some (.string ⟨#[]⟩), 1, 16) := by kernel_rfl
-- the values' own types
/-! #### struct type 27 -/
structure S27 where
  f0 : Int
  f1 : ByteArray
  f2 : ByteArray
def z27 : S27 := ⟨(0 : Int), (⟨#[]⟩ : ByteArray), (⟨#[]⟩ : ByteArray)⟩
def k27 : Kd S27 := Kd.iso (Kd.pair (Kd.int .i64) (Kd.pair Kd.string Kd.string)) (fun x : S27 => (x.f0, x.f1, x.f2))
theorem k27_open {w : World} {x : S27} {cs : List Value} (h : k27.K w x cs) : cs = [.int .i64 x.f0, .string x.f1, .string x.f2] := by
  obtain ⟨_, _, rfl, rfl, ⟨_, _, rfl, rfl, rfl⟩⟩ := h
  exact rfl
theorem k27_openM {w : World} {base : Nat} {ok : Nat → Prop} {x : S27} {cs : List Value} (h : k27.M w base ok x cs) : cs = [.int .i64 x.f0, .string x.f1, .string x.f2] := by
  obtain ⟨_, _, rfl, rfl, ⟨_, _, rfl, rfl, rfl⟩⟩ := h
  exact rfl
theorem k27_mk (w : World) (x : S27)  : k27.K w x [.int .i64 x.f0, .string x.f1, .string x.f2] := ⟨[.int .i64 x.f0], [.string x.f1, .string x.f2], rfl, rfl, ⟨[.string x.f1], [.string x.f2], rfl, rfl, rfl⟩⟩
theorem k27_mkM (w : World) (base : Nat) (ok : Nat → Prop) (x : S27)  : k27.M w base ok x [.int .i64 x.f0, .string x.f1, .string x.f2] := ⟨[.int .i64 x.f0], [.string x.f1, .string x.f2], rfl, rfl, ⟨[.string x.f1], [.string x.f2], rfl, rfl, rfl⟩⟩
def rd_T27 (xs : List S27) (i : Int) : S27 := xs.getD i.toNat z27
theorem at_T27 {w : World} {A : Option Addr} {n : Nat} {xs : List S27} (h : Kd.C k27 w A n xs) (i : Int) (h0 : 0 ≤ i) (h1 : i < n) : ∃ ad , A = some ad ∧ w.cell? (ad.add (i.toNat * 3)) = some (.int .i64 (rd_T27 xs i).f0) ∧ w.cell? ⟨(ad.add (i.toNat * 3)).block, (ad.add (i.toNat * 3)).off + 1, none⟩ = some (.string (rd_T27 xs i).f1) ∧ w.cell? ⟨(ad.add (i.toNat * 3)).block, (ad.add (i.toNat * 3)).off + 2, none⟩ = some (.string (rd_T27 xs i).f2) := by
  obtain ⟨ad, c, e, _, hK, hc0⟩ := Kd.C_get h z27 i h0 h1
  have hc : ∀ j u, c[j]? = some u → w.cell? (ad.add (i.toNat * 3 + j)) = some u := hc0
  obtain rfl := k27_open hK
  exact ⟨ad, e, hc 0 _ rfl, by rw [← add_field _ _ 1 (by omega)]; exact hc 1 _ rfl, by rw [← add_field _ _ 2 (by omega)]; exact hc 2 _ rfl⟩

/-! #### struct type 115 -/
structure S115 where
  f0 : Int
  f1 : Int
  f2 : Int
def z115 : S115 := ⟨(0 : Int), (0 : Int), (0 : Int)⟩
def k115 : Kd S115 := Kd.iso (Kd.pair (Kd.int .u16) (Kd.pair (Kd.int .u16) (Kd.int .u16))) (fun x : S115 => (x.f0, x.f1, x.f2))
theorem k115_open {w : World} {x : S115} {cs : List Value} (h : k115.K w x cs) : cs = [.int .u16 x.f0, .int .u16 x.f1, .int .u16 x.f2] := by
  obtain ⟨_, _, rfl, rfl, ⟨_, _, rfl, rfl, rfl⟩⟩ := h
  exact rfl
theorem k115_openM {w : World} {base : Nat} {ok : Nat → Prop} {x : S115} {cs : List Value} (h : k115.M w base ok x cs) : cs = [.int .u16 x.f0, .int .u16 x.f1, .int .u16 x.f2] := by
  obtain ⟨_, _, rfl, rfl, ⟨_, _, rfl, rfl, rfl⟩⟩ := h
  exact rfl
theorem k115_mk (w : World) (x : S115)  : k115.K w x [.int .u16 x.f0, .int .u16 x.f1, .int .u16 x.f2] := ⟨[.int .u16 x.f0], [.int .u16 x.f1, .int .u16 x.f2], rfl, rfl, ⟨[.int .u16 x.f1], [.int .u16 x.f2], rfl, rfl, rfl⟩⟩
theorem k115_mkM (w : World) (base : Nat) (ok : Nat → Prop) (x : S115)  : k115.M w base ok x [.int .u16 x.f0, .int .u16 x.f1, .int .u16 x.f2] := ⟨[.int .u16 x.f0], [.int .u16 x.f1, .int .u16 x.f2], rfl, rfl, ⟨[.int .u16 x.f1], [.int .u16 x.f2], rfl, rfl, rfl⟩⟩
def rd_T115 (xs : List S115) (i : Int) : S115 := xs.getD i.toNat z115
theorem at_T115 {w : World} {A : Option Addr} {n : Nat} {xs : List S115} (h : Kd.C k115 w A n xs) (i : Int) (h0 : 0 ≤ i) (h1 : i < n) : ∃ ad , A = some ad ∧ w.cell? (ad.add (i.toNat * 3)) = some (.int .u16 (rd_T115 xs i).f0) ∧ w.cell? ⟨(ad.add (i.toNat * 3)).block, (ad.add (i.toNat * 3)).off + 1, none⟩ = some (.int .u16 (rd_T115 xs i).f1) ∧ w.cell? ⟨(ad.add (i.toNat * 3)).block, (ad.add (i.toNat * 3)).off + 2, none⟩ = some (.int .u16 (rd_T115 xs i).f2) := by
  obtain ⟨ad, c, e, _, hK, hc0⟩ := Kd.C_get h z115 i h0 h1
  have hc : ∀ j u, c[j]? = some u → w.cell? (ad.add (i.toNat * 3 + j)) = some u := hc0
  obtain rfl := k115_open hK
  exact ⟨ad, e, hc 0 _ rfl, by rw [← add_field _ _ 1 (by omega)]; exact hc 1 _ rfl, by rw [← add_field _ _ 2 (by omega)]; exact hc 2 _ rfl⟩

/-! #### struct type 118 -/
structure S118 where
  f0 : Int
  f1 : Int
  f2 : Int
def z118 : S118 := ⟨(0 : Int), (0 : Int), (0 : Int)⟩
def k118 : Kd S118 := Kd.iso (Kd.pair (Kd.int .u32) (Kd.pair (Kd.int .u32) (Kd.int .u32))) (fun x : S118 => (x.f0, x.f1, x.f2))
theorem k118_open {w : World} {x : S118} {cs : List Value} (h : k118.K w x cs) : cs = [.int .u32 x.f0, .int .u32 x.f1, .int .u32 x.f2] := by
  obtain ⟨_, _, rfl, rfl, ⟨_, _, rfl, rfl, rfl⟩⟩ := h
  exact rfl
theorem k118_openM {w : World} {base : Nat} {ok : Nat → Prop} {x : S118} {cs : List Value} (h : k118.M w base ok x cs) : cs = [.int .u32 x.f0, .int .u32 x.f1, .int .u32 x.f2] := by
  obtain ⟨_, _, rfl, rfl, ⟨_, _, rfl, rfl, rfl⟩⟩ := h
  exact rfl
theorem k118_mk (w : World) (x : S118)  : k118.K w x [.int .u32 x.f0, .int .u32 x.f1, .int .u32 x.f2] := ⟨[.int .u32 x.f0], [.int .u32 x.f1, .int .u32 x.f2], rfl, rfl, ⟨[.int .u32 x.f1], [.int .u32 x.f2], rfl, rfl, rfl⟩⟩
theorem k118_mkM (w : World) (base : Nat) (ok : Nat → Prop) (x : S118)  : k118.M w base ok x [.int .u32 x.f0, .int .u32 x.f1, .int .u32 x.f2] := ⟨[.int .u32 x.f0], [.int .u32 x.f1, .int .u32 x.f2], rfl, rfl, ⟨[.int .u32 x.f1], [.int .u32 x.f2], rfl, rfl, rfl⟩⟩
def rd_T118 (xs : List S118) (i : Int) : S118 := xs.getD i.toNat z118
theorem at_T118 {w : World} {A : Option Addr} {n : Nat} {xs : List S118} (h : Kd.C k118 w A n xs) (i : Int) (h0 : 0 ≤ i) (h1 : i < n) : ∃ ad , A = some ad ∧ w.cell? (ad.add (i.toNat * 3)) = some (.int .u32 (rd_T118 xs i).f0) ∧ w.cell? ⟨(ad.add (i.toNat * 3)).block, (ad.add (i.toNat * 3)).off + 1, none⟩ = some (.int .u32 (rd_T118 xs i).f1) ∧ w.cell? ⟨(ad.add (i.toNat * 3)).block, (ad.add (i.toNat * 3)).off + 2, none⟩ = some (.int .u32 (rd_T118 xs i).f2) := by
  obtain ⟨ad, c, e, _, hK, hc0⟩ := Kd.C_get h z118 i h0 h1
  have hc : ∀ j u, c[j]? = some u → w.cell? (ad.add (i.toNat * 3 + j)) = some u := hc0
  obtain rfl := k118_open hK
  exact ⟨ad, e, hc 0 _ rfl, by rw [← add_field _ _ 1 (by omega)]; exact hc 1 _ rfl, by rw [← add_field _ _ 2 (by omega)]; exact hc 2 _ rfl⟩

def rd_L9 (xs : List (List S27)) (i : Int) : (List S27) := xs.getD i.toNat ([] : List S27)
theorem at_L9 {w : World} {A : Option Addr} {n : Nat} {xs : List (List S27)} (h : Kd.C (Kd.slice 27 k27) w A n xs) (i : Int) (h0 : 0 ≤ i) (h1 : i < n) : ∃ ad A0 c0, A = some ad ∧ w.cell? (ad.add i.toNat) = some (.slice A0 (rd_L9 xs i).length c0) ∧ (rd_L9 xs i).length ≤ c0 ∧ k27.C w A0 (rd_L9 xs i).length (rd_L9 xs i) := by
  obtain ⟨ad, c, e, _, hK, hc0⟩ := Kd.C_get h ([] : List S27) i h0 h1
  have hc : ∀ j u, c[j]? = some u → w.cell? (ad.add (i.toNat * 1 + j)) = some u := hc0
  obtain ⟨A0, c0, rfl, l0, g0⟩ := hK
  exact ⟨ad, A0, c0, e, by have hq := hc 0 _ rfl; rwa [Nat.mul_one, Nat.add_zero] at hq, l0, g0⟩

theorem q_isEmpty (l : List UInt8) : l.isEmpty = !(l != []) := by cases l <;> rfl
theorem q_gt : ∀ (x y : List UInt8), (x == y) = false → Op.bytesLess x y = !Op.bytesLess y x
  | [], [], h => by simp at h
  | [], _ :: _, _ => by simp [Op.bytesLess]
  | _ :: _, [], _ => by simp [Op.bytesLess]
  | a :: x, b :: y, h => by
    have ih := q_gt x y
    simp only [Op.bytesLess]
    by_cases e : a = b
    · subst e
      have h2 : (x == y) = false := by simpa using h
      simp [ih h2]
    · have hn : a.toNat ≠ b.toNat := fun h => e (UInt8.toNat_inj.1 h)
      by_cases h1 : a < b
      · have h2 : ¬ b < a := fun h2 => by rw [UInt8.lt_iff_toNat_lt] at h1 h2; omega
        simp [h1, h2, Ne.symm e]
      · have h2 : b < a := by rw [UInt8.lt_iff_toNat_lt] at h1 ⊢; omega
        simp [h1, h2, e]
end Go.Proofs.YtkngnoipipnioaaDoor.Q
