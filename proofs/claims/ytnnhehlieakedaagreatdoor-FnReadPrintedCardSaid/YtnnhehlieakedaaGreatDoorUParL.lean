/- Plain words: what the parser's laws share. No condition. -/
import Derived.Test.YtnnhehlieakedaaGreatDoorUParGM
import Derived.Test.YtnnhehlieakedaaGreatDoorQlawseqMatchers
import Derived.Test.YtnnhehlieakedaaGreatDoorQlawshas
import Derived.Test.YtnnhehlieakedaaGreatDoorQlawsone
namespace Go.Proofs.YtnnhehlieakedaaGreatDoor.Q
open Go.RowKit Go.Lib Go.Proofs.YtnnhehlieakedaaGreatDoorW.PrintWords Go.Proofs.YtnnhehlieakedaaGreatDoorW.PrintLast Go.Proofs.YtnnhehlieakedaaGreatDoorW.PrintMore
theorem wrapQ (i : Nat) (h : i < 9223372036854775806) : wrap64 ((i : Int) + 1) = ((i + 1 : Nat) : Int) := by
  unfold wrap64
  omega
theorem has_l0 (a0 : ByteArray) (c : Int) (hs : a0.size ≤ 140737488351232) : ∀ (n i : Nat), i + n = a0.size → ∃ b, ∀ k, n + 1 ≤ k → laws_has.l0 k a0 c (i : Int) = some b
  | 0, i, h => ⟨false, fun k hk => by
    obtain ⟨k, rfl⟩ : ∃ j, k = j + 1 := ⟨k - 1, by omega⟩
    rw [laws_has.l0, if_neg (by omega)]⟩
  | n + 1, i, h => by
    obtain ⟨b, hb⟩ := has_l0 a0 c hs n (i + 1) (by omega)
    by_cases hc : bt a0 i = c
    · refine ⟨true, fun k hk => ?_⟩
      obtain ⟨k, rfl⟩ : ∃ j, k = j + 1 := ⟨k - 1, by omega⟩
      rw [laws_has.l0, if_pos (by omega), if_pos (by omega), if_pos hc]
    · refine ⟨b, fun k hk => ?_⟩
      obtain ⟨k, rfl⟩ : ∃ j, k = j + 1 := ⟨k - 1, by omega⟩
      rw [laws_has.l0, if_pos (by omega), if_pos (by omega), if_neg hc, wrapQ _ (by omega)]
      exact hb k (by omega)
theorem has_f (a0 : ByteArray) (c : Int) (hs : a0.size ≤ 140737488351232) : ∃ b, ∀ k, a0.size + 1 ≤ k → laws_has.f k a0 c = some b := has_l0 a0 c hs a0.size 0 (by omega)
set_option maxRecDepth 100000 in
theorem one_f : laws_one.f = some true := by kernel_rfl
theorem eqm_l0 (l : List S25) (hs : l.length ≤ 140737488351232) : ∀ (n i : Nat), i + n = l.length → ∀ k, n + 1 ≤ k → laws_eqMatchers.l0 k l l (l.length : Int) (i : Int) = some true
  | 0, i, h, k, hk => by
    obtain ⟨k, rfl⟩ : ∃ j, k = j + 1 := ⟨k - 1, by omega⟩
    rw [laws_eqMatchers.l0, if_neg (by omega)]
  | n + 1, i, h, k, hk => by
    obtain ⟨k, rfl⟩ : ∃ j, k = j + 1 := ⟨k - 1, by omega⟩
    rw [laws_eqMatchers.l0, if_pos (by omega), if_pos (by omega), if_pos (by omega), if_pos (by omega), if_neg (by simp), wrapQ _ (by omega)]
    exact eqm_l0 l hs n (i + 1) (by omega) k (by omega)
theorem eqm_f (l : List S25) (hs : l.length ≤ 140737488351232) (k : Nat) (hk : l.length + 1 ≤ k) : laws_eqMatchers.f k l l = some true := by
  rw [laws_eqMatchers.f, if_pos rfl]
  exact eqm_l0 l hs l.length 0 (by omega) k (by omega)
theorem pm_f (a0 : ByteArray) (h : a0.size ≤ 1000000000) : impl_ParseMatchers.f a0 = some (pmR a0) := if_pos h
theorem p1_f (a0 : ByteArray) (h : a0.size ≤ 1000000000) : impl_ParseMatcher.f a0 = some (p1R a0) := if_pos h
theorem parF_size {a0 : ByteArray} {l : List S25} (hs : a0.size ≤ 4294967296) (h : parF a0 = some l) : l.length ≤ a0.size := parF_len _ .ob ⟨[], false, lx0⟩ ⟨lx0_goodP a0 hs, rfl, Nat.zero_le _, fun e => by cases e⟩ h
end Go.Proofs.YtnnhehlieakedaaGreatDoor.Q
