/- The law FnClassicForms by hand: the white space that it lays (a closure), the texts that it reads. Condition: the sizes that the law lets in; the library's tables of UTF-8 as it lays them. -/
import Derived.Test.YtkngnoipipnioaaDoorHClM
import Derived.Outline
import Derived.IntWalk
set_option linter.unusedVariables false
set_option linter.unusedSimpArgs false
namespace Go.Proofs.YtkngnoipipnioaaDoor.Q
open Go.RowKit Go.Lib Go.Proofs.YtkngnoipipnioaaDoorW.PrintWords Go.Proofs.YtkngnoipipnioaaDoorW.PrintLast Go.Proofs.YtkngnoipipnioaaDoorW.PrintMore
attribute [local go_sem] max2_int min2_int max_two min_two max_three min_three max_four min_four
def gap5 (n : Int) : ByteArray := if n = 0 then ⟨#[]⟩ else if n = 1 then ⟨#[32]⟩ else if n = 2 then ⟨#[9]⟩ else if n = 3 then ⟨#[32, 32]⟩ else ⟨#[10]⟩
/-- The white space at a place. -/
def gapS (l : List Int) (i : Nat) : ByteArray := if l.length = 0 then ⟨#[]⟩ else gap5 (rdOf 0 l ((i % l.length : Nat) : Int) % 5)
set_option maxRecDepth 100000 in
set_option maxHeartbeats 2000000 in
theorem gap_calls (gb : Nat) (A2 : Option Addr) (c2 : Nat) (l2 : List Int) (i : Nat) (hi : i ≤ 3) (w : World) (hc : w.cell? ⟨gb, 0, none⟩ = some (.slice A2 l2.length c2)) (hr2 : Kd.C (Kd.int .u8) w A2 l2.length l2) (_hc2 : l2.length ≤ c2) (hl2 : l2.length ≤ 2147483647) (hu8 : ∀ x ∈ l2, 0 ≤ x ∧ x ≤ 255) :
    Calls Tryd.prog 8 #[.int .i64 (i : Int), .pointer (some ⟨gb, 0, none⟩)] w fun e w' => e = .returned (.string (gapS l2 i)) ∧ Below w.heap.size w w' := by
  by_cases h0 : l2.length = 0
  · have hz : ((l2.length : Int) == 0) = true := by simp [h0]
    have e : gapS l2 i = ⟨#[]⟩ := by unfold gapS; rw [if_pos h0]
    rw [e]
    rw [h0] at hc
    clear hr2 hz e
    go_enter Tryd.func8, Tryd.ntmps8
    go_wp2
    go_ret
    exact ⟨rfl, by repeat (first | exact Below.refl _ _ | apply below_drew | apply pw_below_drewN)⟩
  · have hj : (i % l2.length : Nat) < l2.length := Nat.mod_lt _ (by omega)
    obtain ⟨ad, e1, hx0⟩ := Kd.at_int hr2 ((i % l2.length : Nat) : Int) (by omega) (by omega)
    have hrd : 0 ≤ rdOf 0 l2 ((i % l2.length : Nat) : Int) ∧ rdOf 0 l2 ((i % l2.length : Nat) : Int) ≤ 255 := by
      unfold rdOf
      rw [Int.toNat_natCast, List.getD_eq_getElem?_getD, List.getElem?_eq_getElem hj]
      exact hu8 _ (List.getElem_mem hj)
    have e : gapS l2 i = gap5 (rdOf 0 l2 ((i % l2.length : Nat) : Int) % 5) := by unfold gapS; rw [if_neg h0]
    rw [e]
    have hm : Int.tmod (i : Int) (l2.length : Int) = ((i % l2.length : Nat) : Int) := by rw [Int.tmod_eq_emod_of_nonneg (by omega)]; omega
    have hz : ((l2.length : Int) == 0) = false := by simp; exact List.ne_nil_of_length_pos (by omega)
    have hz2 : ((l2.length : Int) = 0) = False := eq_false (by omega)
    rw [Int.toNat_natCast] at hx0
    replace hx0 : w.cell? (ad.add (i % l2.length)) = some (.int .u8 (rdOf 0 l2 ((i % l2.length : Nat) : Int))) := hx0
    generalize rdOf 0 l2 ((i % l2.length : Nat) : Int) = u at *
    obtain ⟨u0, u1⟩ := hrd
    have hp : ((0 : Int) ≤ ((i % l2.length : Nat) : Int)) = True := eq_true (by omega)
    have hq : (((i % l2.length : Nat) : Int) < (l2.length : Int)) = True := eq_true (by omega)
    generalize hjj : i % l2.length = j at *
    have hu5 : u % 5 = 0 ∨ u % 5 = 1 ∨ u % 5 = 2 ∨ u % 5 = 3 ∨ u % 5 = 4 := by omega
    subst e1
    clear hr2 hu8 hj e
    rcases hu5 with h5 | h5 | h5 | h5 | h5
    all_goals
      have HU := Aside0.mk h5
      have ht5 : Int.tmod u 5 = u % 5 := Int.tmod_eq_emod_of_nonneg u0
      rw [h5] at ht5
      have hA : ∀ o : Obj, (w.alloc o).cell? ⟨gb, 0, none⟩ = some (.slice (some ad) l2.length c2) := fun o => ((below_alloc (Below.refl _ _) o : Below w.heap.size w (w.alloc o)).cell (World.block_lt_of_cell? _ _ hc)).trans hc
      have hB : ∀ o : Obj, (w.alloc o).cell? (ad.add j) = some (.int .u8 u) := fun o => ((below_alloc (Below.refl _ _) o : Below w.heap.size w (w.alloc o)).cell (World.block_lt_of_cell? _ _ hx0)).trans hx0
      have w1 : IntKind.i64.wrap u = u := IntWalk.i64_in _ (by omega)
      go_enter Tryd.func8, Tryd.ntmps8
      go_wp2
      go_region
      all_goals
        go_wp2
        go_ret
        exact ⟨by rw [HU.out]; rfl, by repeat (first | exact Below.refl _ _ | apply below_drew | apply pw_below_drewN | apply below_alloc)⟩
end Go.Proofs.YtkngnoipipnioaaDoor.Q
