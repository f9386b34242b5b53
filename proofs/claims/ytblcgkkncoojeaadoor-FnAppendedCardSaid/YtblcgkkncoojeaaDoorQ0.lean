-- Printed for this seat by wip/pp.py of this repo; nothing here is trusted: Lean checks it.
import Derived.Test.YtblcgkkncoojeaaDoorProg
import Derived.Below
import Derived.Deep.Draws
import Derived.Deep.AppendLies
import Derived.Maps.AppendAt
import Derived.OwnWalk
import Derived.Laws.BytesArg
import Derived.Laws.MakeOwn
import Derived.Laws.OwnMore
import Derived.Deep.OwnRows
import Derived.Tactics
import Derived.Lib.ConvBytes
import Derived.Laws.Slices
import Derived.WalkKit
import Derived.KernelRfl
import Derived.RowKit3
import Derived.Deep.LoopGhost
import Derived.Deep.QuietTactic
import Derived.BigQuiet
import Derived.WideLaws
import Derived.Deep.DeepCutAuto
import Derived.Deep.CutBlock
import Derived.Deep.RegionHeld3
import Derived.Laws.Rows
import Derived.Lib.AppendStr
import Derived.ArgAppend
import Derived.Laws.IdiomCopy
import Derived.OrdersHeld
import Derived.Laws.BitsLemmas
import Derived.RowKit
import Derived.Test.YtblcgkkncoojeaaDoorWWords
import Derived.Test.YtblcgkkncoojeaaDoorWLast
import Derived.Test.YtblcgkkncoojeaaDoorWTab
import Derived.Test.YtblcgkkncoojeaaDoorWFour
import Derived.Test.YtblcgkkncoojeaaDoorWQPut
import Derived.Test.YtblcgkkncoojeaaDoorWApart
import Derived.Test.YtblcgkkncoojeaaDoorWArr
import Derived.Test.YtblcgkkncoojeaaDoorWZeros
import Derived.Test.YtblcgkkncoojeaaDoorWFoot
import Derived.Test.YtblcgkkncoojeaaDoorWKept
import Derived.Test.YtblcgkkncoojeaaDoorWShare
import Derived.Test.YtblcgkkncoojeaaDoorWN
import Derived.Test.YtblcgkkncoojeaaDoorWFootNe
import Derived.Test.YtblcgkkncoojeaaDoorWAt
import Derived.Test.YtblcgkkncoojeaaDoorWEqStruct
import Derived.Test.YtblcgkkncoojeaaDoorWRepsOne
import Derived.Test.YtblcgkkncoojeaaDoorWInv
import Derived.Test.YtblcgkkncoojeaaDoorWInvWords
import Derived.Test.YtblcgkkncoojeaaDoorWGuard
import Derived.Test.YtblcgkkncoojeaaDoorWNEv
import Derived.Test.YtblcgkkncoojeaaDoorWMore
namespace Go.Proofs.YtblcgkkncoojeaaDoor.Q
open Go.RowKit Go.Proofs.YtblcgkkncoojeaaDoorW.PrintWords Go.Proofs.YtblcgkkncoojeaaDoorW.PrintLast Go.Proofs.YtblcgkkncoojeaaDoorW.PrintMore
attribute [local go_sem] max2_int min2_int max_two min_two max_three min_three max_four min_four   -- for this text's walks alone
set_option linter.unusedVariables false
set_option linter.unusedSimpArgs false



def errW : Option Int → Value
  | none => .nilIface
  | some c => .iface 0 (.int .i64 c)
theorem errW_none : errW none = .nilIface := rfl
theorem errW_some (c : Int) : errW (some c) = .iface 0 (.int .i64 c) := rfl

theorem info38 : (Tryd.prog.info? 38).map (fun i => (i.zero, i.size, i.bytes)) = some (some (.agg #[(.int .i64 0), (.string ⟨#[]⟩), (.string ⟨#[]⟩)]), 3, 40) := by kernel_rfl
-- the values' own types
/-! #### struct type 38 -/
structure S38 where
  f0 : Int
  f1 : ByteArray
  f2 : ByteArray
def z38 : S38 := ⟨(0 : Int), (⟨#[]⟩ : ByteArray), (⟨#[]⟩ : ByteArray)⟩
def k38 : Kd S38 := Kd.iso (Kd.pair (Kd.int .i64) (Kd.pair Kd.string Kd.string)) (fun x : S38 => (x.f0, x.f1, x.f2))
theorem k38_open {w : World} {x : S38} {cs : List Value} (h : k38.K w x cs) : cs = [.int .i64 x.f0, .string x.f1, .string x.f2] := by
  obtain ⟨_, _, rfl, rfl, ⟨_, _, rfl, rfl, rfl⟩⟩ := h
  exact rfl
theorem k38_openM {w : World} {base : Nat} {ok : Nat → Prop} {x : S38} {cs : List Value} (h : k38.M w base ok x cs) : cs = [.int .i64 x.f0, .string x.f1, .string x.f2] := by
  obtain ⟨_, _, rfl, rfl, ⟨_, _, rfl, rfl, rfl⟩⟩ := h
  exact rfl
theorem k38_mk (w : World) (x : S38)  : k38.K w x [.int .i64 x.f0, .string x.f1, .string x.f2] := ⟨[.int .i64 x.f0], [.string x.f1, .string x.f2], rfl, rfl, ⟨[.string x.f1], [.string x.f2], rfl, rfl, rfl⟩⟩
theorem k38_mkM (w : World) (base : Nat) (ok : Nat → Prop) (x : S38)  : k38.M w base ok x [.int .i64 x.f0, .string x.f1, .string x.f2] := ⟨[.int .i64 x.f0], [.string x.f1, .string x.f2], rfl, rfl, ⟨[.string x.f1], [.string x.f2], rfl, rfl, rfl⟩⟩
def rd_T38 (xs : List S38) (i : Int) : S38 := xs.getD i.toNat z38
theorem at_T38 {w : World} {A : Option Addr} {n : Nat} {xs : List S38} (h : Kd.C k38 w A n xs) (i : Int) (h0 : 0 ≤ i) (h1 : i < n) : ∃ ad , A = some ad ∧ w.cell? (ad.add (i.toNat * 3)) = some (.int .i64 (rd_T38 xs i).f0) ∧ w.cell? ⟨(ad.add (i.toNat * 3)).block, (ad.add (i.toNat * 3)).off + 1, none⟩ = some (.string (rd_T38 xs i).f1) ∧ w.cell? ⟨(ad.add (i.toNat * 3)).block, (ad.add (i.toNat * 3)).off + 2, none⟩ = some (.string (rd_T38 xs i).f2) := by
  obtain ⟨ad, c, e, _, hK, hc0⟩ := Kd.C_get h z38 i h0 h1
  have hc : ∀ j u, c[j]? = some u → w.cell? (ad.add (i.toNat * 3 + j)) = some u := hc0
  obtain rfl := k38_open hK
  exact ⟨ad, e, hc 0 _ rfl, by rw [← add_field _ _ 1 (by omega)]; exact hc 1 _ rfl, by rw [← add_field _ _ 2 (by omega)]; exact hc 2 _ rfl⟩

def rd_L3 (xs : List (List S38)) (i : Int) : (List S38) := xs.getD i.toNat ([] : List S38)
theorem at_L3 {w : World} {A : Option Addr} {n : Nat} {xs : List (List S38)} (h : Kd.C (Kd.slice 38 k38) w A n xs) (i : Int) (h0 : 0 ≤ i) (h1 : i < n) : ∃ ad A0 c0, A = some ad ∧ w.cell? (ad.add i.toNat) = some (.slice A0 (rd_L3 xs i).length c0) ∧ (rd_L3 xs i).length ≤ c0 ∧ k38.C w A0 (rd_L3 xs i).length (rd_L3 xs i) := by
  obtain ⟨ad, c, e, _, hK, hc0⟩ := Kd.C_get h ([] : List S38) i h0 h1
  have hc : ∀ j u, c[j]? = some u → w.cell? (ad.add (i.toNat * 1 + j)) = some u := hc0
  obtain ⟨A0, c0, rfl, l0, g0⟩ := hK
  exact ⟨ad, A0, c0, e, by have hq := hc 0 _ rfl; rwa [Nat.mul_one, Nat.add_zero] at hq, l0, g0⟩

/-! #### struct type 121 -/
structure S121 where
  f0 : Int
  f1 : Int
  f2 : Int
def z121 : S121 := ⟨(0 : Int), (0 : Int), (0 : Int)⟩
def k121 : Kd S121 := Kd.iso (Kd.pair (Kd.int .u16) (Kd.pair (Kd.int .u16) (Kd.int .u16))) (fun x : S121 => (x.f0, x.f1, x.f2))
theorem k121_open {w : World} {x : S121} {cs : List Value} (h : k121.K w x cs) : cs = [.int .u16 x.f0, .int .u16 x.f1, .int .u16 x.f2] := by
  obtain ⟨_, _, rfl, rfl, ⟨_, _, rfl, rfl, rfl⟩⟩ := h
  exact rfl
theorem k121_openM {w : World} {base : Nat} {ok : Nat → Prop} {x : S121} {cs : List Value} (h : k121.M w base ok x cs) : cs = [.int .u16 x.f0, .int .u16 x.f1, .int .u16 x.f2] := by
  obtain ⟨_, _, rfl, rfl, ⟨_, _, rfl, rfl, rfl⟩⟩ := h
  exact rfl
theorem k121_mk (w : World) (x : S121)  : k121.K w x [.int .u16 x.f0, .int .u16 x.f1, .int .u16 x.f2] := ⟨[.int .u16 x.f0], [.int .u16 x.f1, .int .u16 x.f2], rfl, rfl, ⟨[.int .u16 x.f1], [.int .u16 x.f2], rfl, rfl, rfl⟩⟩
theorem k121_mkM (w : World) (base : Nat) (ok : Nat → Prop) (x : S121)  : k121.M w base ok x [.int .u16 x.f0, .int .u16 x.f1, .int .u16 x.f2] := ⟨[.int .u16 x.f0], [.int .u16 x.f1, .int .u16 x.f2], rfl, rfl, ⟨[.int .u16 x.f1], [.int .u16 x.f2], rfl, rfl, rfl⟩⟩
def rd_T121 (xs : List S121) (i : Int) : S121 := xs.getD i.toNat z121
theorem at_T121 {w : World} {A : Option Addr} {n : Nat} {xs : List S121} (h : Kd.C k121 w A n xs) (i : Int) (h0 : 0 ≤ i) (h1 : i < n) : ∃ ad , A = some ad ∧ w.cell? (ad.add (i.toNat * 3)) = some (.int .u16 (rd_T121 xs i).f0) ∧ w.cell? ⟨(ad.add (i.toNat * 3)).block, (ad.add (i.toNat * 3)).off + 1, none⟩ = some (.int .u16 (rd_T121 xs i).f1) ∧ w.cell? ⟨(ad.add (i.toNat * 3)).block, (ad.add (i.toNat * 3)).off + 2, none⟩ = some (.int .u16 (rd_T121 xs i).f2) := by
  obtain ⟨ad, c, e, _, hK, hc0⟩ := Kd.C_get h z121 i h0 h1
  have hc : ∀ j u, c[j]? = some u → w.cell? (ad.add (i.toNat * 3 + j)) = some u := hc0
  obtain rfl := k121_open hK
  exact ⟨ad, e, hc 0 _ rfl, by rw [← add_field _ _ 1 (by omega)]; exact hc 1 _ rfl, by rw [← add_field _ _ 2 (by omega)]; exact hc 2 _ rfl⟩

/-! #### struct type 124 -/
structure S124 where
  f0 : Int
  f1 : Int
  f2 : Int
def z124 : S124 := ⟨(0 : Int), (0 : Int), (0 : Int)⟩
def k124 : Kd S124 := Kd.iso (Kd.pair (Kd.int .u32) (Kd.pair (Kd.int .u32) (Kd.int .u32))) (fun x : S124 => (x.f0, x.f1, x.f2))
theorem k124_open {w : World} {x : S124} {cs : List Value} (h : k124.K w x cs) : cs = [.int .u32 x.f0, .int .u32 x.f1, .int .u32 x.f2] := by
  obtain ⟨_, _, rfl, rfl, ⟨_, _, rfl, rfl, rfl⟩⟩ := h
  exact rfl
theorem k124_openM {w : World} {base : Nat} {ok : Nat → Prop} {x : S124} {cs : List Value} (h : k124.M w base ok x cs) : cs = [.int .u32 x.f0, .int .u32 x.f1, .int .u32 x.f2] := by
  obtain ⟨_, _, rfl, rfl, ⟨_, _, rfl, rfl, rfl⟩⟩ := h
  exact rfl
theorem k124_mk (w : World) (x : S124)  : k124.K w x [.int .u32 x.f0, .int .u32 x.f1, .int .u32 x.f2] := ⟨[.int .u32 x.f0], [.int .u32 x.f1, .int .u32 x.f2], rfl, rfl, ⟨[.int .u32 x.f1], [.int .u32 x.f2], rfl, rfl, rfl⟩⟩
theorem k124_mkM (w : World) (base : Nat) (ok : Nat → Prop) (x : S124)  : k124.M w base ok x [.int .u32 x.f0, .int .u32 x.f1, .int .u32 x.f2] := ⟨[.int .u32 x.f0], [.int .u32 x.f1, .int .u32 x.f2], rfl, rfl, ⟨[.int .u32 x.f1], [.int .u32 x.f2], rfl, rfl, rfl⟩⟩
def rd_T124 (xs : List S124) (i : Int) : S124 := xs.getD i.toNat z124
theorem at_T124 {w : World} {A : Option Addr} {n : Nat} {xs : List S124} (h : Kd.C k124 w A n xs) (i : Int) (h0 : 0 ≤ i) (h1 : i < n) : ∃ ad , A = some ad ∧ w.cell? (ad.add (i.toNat * 3)) = some (.int .u32 (rd_T124 xs i).f0) ∧ w.cell? ⟨(ad.add (i.toNat * 3)).block, (ad.add (i.toNat * 3)).off + 1, none⟩ = some (.int .u32 (rd_T124 xs i).f1) ∧ w.cell? ⟨(ad.add (i.toNat * 3)).block, (ad.add (i.toNat * 3)).off + 2, none⟩ = some (.int .u32 (rd_T124 xs i).f2) := by
  obtain ⟨ad, c, e, _, hK, hc0⟩ := Kd.C_get h z124 i h0 h1
  have hc : ∀ j u, c[j]? = some u → w.cell? (ad.add (i.toNat * 3 + j)) = some u := hc0
  obtain rfl := k124_open hK
  exact ⟨ad, e, hc 0 _ rfl, by rw [← add_field _ _ 1 (by omega)]; exact hc 1 _ rfl, by rw [← add_field _ _ 2 (by omega)]; exact hc 2 _ rfl⟩

/-! #### struct type 28 -/
structure S28 where
  f0 : Int
  f1 : ByteArray
  f2 : Int
  f3 : Int
  f4 : Int
  f5 : Int
def z28 : S28 := ⟨(0 : Int), (⟨#[]⟩ : ByteArray), (0 : Int), (0 : Int), (0 : Int), (0 : Int)⟩
def k28 : Kd S28 := Kd.iso (Kd.pair (Kd.int .i64) (Kd.pair Kd.string (Kd.pair (Kd.int .i64) (Kd.pair (Kd.int .i64) (Kd.pair (Kd.int .i64) (Kd.int .i64)))))) (fun x : S28 => (x.f0, x.f1, x.f2, x.f3, x.f4, x.f5))
theorem k28_open {w : World} {x : S28} {cs : List Value} (h : k28.K w x cs) : cs = [.int .i64 x.f0, .string x.f1, .int .i64 x.f2, .int .i64 x.f3, .int .i64 x.f4, .int .i64 x.f5] := by
  obtain ⟨_, _, rfl, rfl, ⟨_, _, rfl, rfl, ⟨_, _, rfl, rfl, ⟨_, _, rfl, rfl, ⟨_, _, rfl, rfl, rfl⟩⟩⟩⟩⟩ := h
  exact rfl
theorem k28_openM {w : World} {base : Nat} {ok : Nat → Prop} {x : S28} {cs : List Value} (h : k28.M w base ok x cs) : cs = [.int .i64 x.f0, .string x.f1, .int .i64 x.f2, .int .i64 x.f3, .int .i64 x.f4, .int .i64 x.f5] := by
  obtain ⟨_, _, rfl, rfl, ⟨_, _, rfl, rfl, ⟨_, _, rfl, rfl, ⟨_, _, rfl, rfl, ⟨_, _, rfl, rfl, rfl⟩⟩⟩⟩⟩ := h
  exact rfl
theorem k28_mk (w : World) (x : S28)  : k28.K w x [.int .i64 x.f0, .string x.f1, .int .i64 x.f2, .int .i64 x.f3, .int .i64 x.f4, .int .i64 x.f5] := ⟨[.int .i64 x.f0], [.string x.f1, .int .i64 x.f2, .int .i64 x.f3, .int .i64 x.f4, .int .i64 x.f5], rfl, rfl, ⟨[.string x.f1], [.int .i64 x.f2, .int .i64 x.f3, .int .i64 x.f4, .int .i64 x.f5], rfl, rfl, ⟨[.int .i64 x.f2], [.int .i64 x.f3, .int .i64 x.f4, .int .i64 x.f5], rfl, rfl, ⟨[.int .i64 x.f3], [.int .i64 x.f4, .int .i64 x.f5], rfl, rfl, ⟨[.int .i64 x.f4], [.int .i64 x.f5], rfl, rfl, rfl⟩⟩⟩⟩⟩
theorem k28_mkM (w : World) (base : Nat) (ok : Nat → Prop) (x : S28)  : k28.M w base ok x [.int .i64 x.f0, .string x.f1, .int .i64 x.f2, .int .i64 x.f3, .int .i64 x.f4, .int .i64 x.f5] := ⟨[.int .i64 x.f0], [.string x.f1, .int .i64 x.f2, .int .i64 x.f3, .int .i64 x.f4, .int .i64 x.f5], rfl, rfl, ⟨[.string x.f1], [.int .i64 x.f2, .int .i64 x.f3, .int .i64 x.f4, .int .i64 x.f5], rfl, rfl, ⟨[.int .i64 x.f2], [.int .i64 x.f3, .int .i64 x.f4, .int .i64 x.f5], rfl, rfl, ⟨[.int .i64 x.f3], [.int .i64 x.f4, .int .i64 x.f5], rfl, rfl, ⟨[.int .i64 x.f4], [.int .i64 x.f5], rfl, rfl, rfl⟩⟩⟩⟩⟩
def rd_T28 (xs : List S28) (i : Int) : S28 := xs.getD i.toNat z28
theorem at_T28 {w : World} {A : Option Addr} {n : Nat} {xs : List S28} (h : Kd.C k28 w A n xs) (i : Int) (h0 : 0 ≤ i) (h1 : i < n) : ∃ ad , A = some ad ∧ w.cell? (ad.add (i.toNat * 6)) = some (.int .i64 (rd_T28 xs i).f0) ∧ w.cell? ⟨(ad.add (i.toNat * 6)).block, (ad.add (i.toNat * 6)).off + 1, none⟩ = some (.string (rd_T28 xs i).f1) ∧ w.cell? ⟨(ad.add (i.toNat * 6)).block, (ad.add (i.toNat * 6)).off + 2, none⟩ = some (.int .i64 (rd_T28 xs i).f2) ∧ w.cell? ⟨(ad.add (i.toNat * 6)).block, (ad.add (i.toNat * 6)).off + 3, none⟩ = some (.int .i64 (rd_T28 xs i).f3) ∧ w.cell? ⟨(ad.add (i.toNat * 6)).block, (ad.add (i.toNat * 6)).off + 4, none⟩ = some (.int .i64 (rd_T28 xs i).f4) ∧ w.cell? ⟨(ad.add (i.toNat * 6)).block, (ad.add (i.toNat * 6)).off + 5, none⟩ = some (.int .i64 (rd_T28 xs i).f5) := by
  obtain ⟨ad, c, e, _, hK, hc0⟩ := Kd.C_get h z28 i h0 h1
  have hc : ∀ j u, c[j]? = some u → w.cell? (ad.add (i.toNat * 6 + j)) = some u := hc0
  obtain rfl := k28_open hK
  exact ⟨ad, e, hc 0 _ rfl, by rw [← add_field _ _ 1 (by omega)]; exact hc 1 _ rfl, by rw [← add_field _ _ 2 (by omega)]; exact hc 2 _ rfl, by rw [← add_field _ _ 3 (by omega)]; exact hc 3 _ rfl, by rw [← add_field _ _ 4 (by omega)]; exact hc 4 _ rfl, by rw [← add_field _ _ 5 (by omega)]; exact hc 5 _ rfl⟩

def rd_L10 (xs : List (List S28)) (i : Int) : (List S28) := xs.getD i.toNat ([] : List S28)
theorem at_L10 {w : World} {A : Option Addr} {n : Nat} {xs : List (List S28)} (h : Kd.C (Kd.slice 28 k28) w A n xs) (i : Int) (h0 : 0 ≤ i) (h1 : i < n) : ∃ ad A0 c0, A = some ad ∧ w.cell? (ad.add i.toNat) = some (.slice A0 (rd_L10 xs i).length c0) ∧ (rd_L10 xs i).length ≤ c0 ∧ k28.C w A0 (rd_L10 xs i).length (rd_L10 xs i) := by
  obtain ⟨ad, c, e, _, hK, hc0⟩ := Kd.C_get h ([] : List S28) i h0 h1
  have hc : ∀ j u, c[j]? = some u → w.cell? (ad.add (i.toNat * 1 + j)) = some u := hc0
  obtain ⟨A0, c0, rfl, l0, g0⟩ := hK
  exact ⟨ad, A0, c0, e, by have hq := hc 0 _ rfl; rwa [Nat.mul_one, Nat.add_zero] at hq, l0, g0⟩

theorem q_isEmpty (l : List UInt8) : l.isEmpty = !(l != []) := by cases l <;> rfl
theorem q_gt : ∀ (x y : List UInt8), (x == y) = false → Op.bytesLess x y = !Op.bytesLess y x
  | [], [], h => by simp at h
  | [], _ :: _, _ => by simp [Op.bytesLess]
  | _ :: _, [], _ => by simp [Op.bytesLess]
  | a :: x, b :: y, h => by
    have ih := q_gt x y
    simp only [Op.bytesLess]
    by_cases e : a = b
    · subst e
      have h2 : (x == y) = false := by simpa using h
      simp [ih h2]
    · have hn : a.toNat ≠ b.toNat := fun h => e (UInt8.toNat_inj.1 h)
      by_cases h1 : a < b
      · have h2 : ¬ b < a := fun h2 => by rw [UInt8.lt_iff_toNat_lt] at h1 h2; omega
        simp [h1, h2, Ne.symm e]
      · have h2 : b < a := by rw [UInt8.lt_iff_toNat_lt] at h1 ⊢; omega
        simp [h1, h2, e]
end Go.Proofs.YtblcgkkncoojeaaDoor.Q
