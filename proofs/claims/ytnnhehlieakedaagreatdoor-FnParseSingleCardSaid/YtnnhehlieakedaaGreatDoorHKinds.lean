/- Kinds of values in memory for the hand-written contracts of this seat: pointers to structs that lie in blocks of their own; how an argument that can be read as data is laid open as a value of a kind. No condition. -/
import Derived.Test.YtnnhehlieakedaaGreatDoorQ0
import Derived.ChangeSame
import Derived.Deep.Strs
import Derived.Deep.Slices
import Derived.Lib.SmallJoins
set_option linter.unusedVariables false
set_option linter.unusedSimpArgs false
namespace Go.Proofs.YtnnhehlieakedaaGreatDoor.Q
open Go.RowKit Go.Proofs.YtnnhehlieakedaaGreatDoorW.PrintWords Go.Proofs.YtnnhehlieakedaaGreatDoorW.PrintLast Go.Proofs.YtnnhehlieakedaaGreatDoorW.PrintMore

/-- A pointer to the head of a block of type t whose cells are of kind d. -/
def ptrK {α : Type} (t : Nat) (d : Kd α) : Kd α where
  sz := 1
  E := t :: d.E
  K := fun w x cs => ∃ b c, cs = [.pointer (some ⟨b, 0, none⟩)] ∧ w.heap[b]? = some (.cells (List.toArray c) t (0, 0)) ∧ d.K w x c
  M := fun w base ok x cs => ∃ b c, cs = [.pointer (some ⟨b, 0, none⟩)] ∧ ok b ∧ base ≤ b ∧ w.heap[b]? = some (.cells (List.toArray c) t (0, 0)) ∧ d.M w base (fun k => ok k ∧ k ≠ b) x c
  K_len := by
    rintro w x cs ⟨b, c, rfl, _⟩
    rfl
  K_one := by
    rintro w x cs ⟨b, c, rfl, _⟩ u hu
    rw [List.mem_singleton.1 hu]
    rfl
  K_below := by
    rintro w w1 x cs hb ⟨b, c, rfl, hh, hk⟩
    exact ⟨b, c, rfl, blk_below hh hb, d.K_below hb hk⟩
  K_of_M := by
    rintro w base ok x cs ⟨b, c, rfl, _, _, hh, hm⟩
    exact ⟨b, c, rfl, hh, d.K_of_M hm⟩
  M_mono := by
    rintro w base ok ok' x cs hok ⟨b, c, rfl, h1, h2, hh, hm⟩
    exact ⟨b, c, rfl, hok b h1, h2, hh, d.M_mono (fun k hk => ⟨hok k hk.1, hk.2⟩) hm⟩
  M_bound := by
    rintro w base ok x cs ⟨b, c, rfl, h1, h2, hh, hm⟩
    refine ⟨b, c, rfl, ⟨h1, h2, blk_lt hh, t, List.mem_cons_self, _, hh⟩, h2, hh, d.M_mono ?_ (d.M_bound hm)⟩
    rintro k ⟨⟨a1, a2⟩, a3, a4, q, hq, hc⟩
    exact ⟨⟨a1, a3, a4, q, List.mem_cons_of_mem _ hq, hc⟩, a2⟩
  M_move := by
    rintro w w1 base ok x cs hm ⟨b, c, rfl, h1, h2, hh, hx⟩
    exact ⟨b, c, rfl, h1, h2, (hm b h1).trans hh, d.M_move (fun k hk => hm k hk.1) hx⟩
  M_lower := by
    rintro w base base' ok x cs hb ⟨b, c, rfl, h1, h2, hh, hx⟩
    exact ⟨b, c, rfl, h1, Nat.le_trans hb h2, hh, d.M_lower hb hx⟩

theorem at_ptr {α : Type} {t : Nat} {d : Kd α} {w : World} {A : Option Addr} {n : Nat} {xs : List α} (h : Kd.C (ptrK t d) w A n xs) (z : α) (i : Int) (h0 : 0 ≤ i) (h1 : i < n) :
    ∃ ad b c, A = some ad ∧ w.cell? (ad.add i.toNat) = some (.pointer (some ⟨b, 0, none⟩)) ∧ w.heap[b]? = some (.cells (List.toArray c) t (0, 0)) ∧ d.K w (xs.getD i.toNat z) c := by
  obtain ⟨ad, c, e, _, ⟨b, cc, rfl, hh, hk⟩, hc0⟩ := Kd.C_get h z i h0 h1
  refine ⟨ad, b, cc, e, ?_, hh, hk⟩
  have hq := hc0 0 _ rfl
  have e1 : i.toNat * (ptrK t d).sz + 0 = i.toNat := by show i.toNat * 1 + 0 = i.toNat; omega
  rwa [e1] at hq

section
variable {P : Program} {t : TypeId}
end
end Go.Proofs.YtnnhehlieakedaaGreatDoor.Q
