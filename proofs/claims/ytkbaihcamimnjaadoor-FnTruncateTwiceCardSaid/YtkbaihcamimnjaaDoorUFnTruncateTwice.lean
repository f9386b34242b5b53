/- FnTruncateTwice in plain Lean. -/
import Derived.Test.YtkbaihcamimnjaaDoorUTrunc
import Derived.Test.YtkbaihcamimnjaaDoorQlawsFnTruncateTwice
set_option linter.unusedVariables false
set_option linter.unusedSimpArgs false
namespace Go.Proofs.YtkbaihcamimnjaaDoor.Q
open Go.RowKit Go.Proofs.YtkbaihcamimnjaaDoorW.PrintWords Go.Proofs.YtkbaihcamimnjaaDoorW.PrintLast Go.Proofs.YtkbaihcamimnjaaDoorW.PrintMore
theorem trunc_abc : impl_TruncateBytes.f ⟨#[97, 98, 99, 100, 101, 102]⟩ 5 = some (⟨#[97, 98, 226, 128, 166]⟩, true) := by
  have e : (⟨#[97, 98, 99, 100, 101, 102]⟩ : ByteArray) = encL [97, 98, 99, 100, 101, 102] := by rfl
  have ok : okL [97, 98, 99, 100, 101, 102] := fun c hc => by
    unfold okC
    have : c = 97 ∨ c = 98 ∨ c = 99 ∨ c = 100 ∨ c = 101 ∨ c = 102 := by simpa using hc
    omega
  have hr : runesI ⟨#[97, 98, 99, 100, 101, 102]⟩ 0 = [97, 98, 99, 100, 101, 102] := by rw [e]; exact runes_enc0 _ ok
  have := truncB_is ⟨#[97, 98, 99, 100, 101, 102]⟩ 5 (by decide) (by decide) (.inr (.inl (by rw [hr]; decide)))
  rw [show ((5 : Nat) : Int) = 5 from rfl] at this
  rw [this]
  unfold cutB
  rw [if_neg (by decide), if_neg (by decide), if_neg (by decide), hr, show 5 - 3 = 2 from rfl, fitK_stop (by decide)]
  rfl
theorem wsub (a b : Nat) (h : a ≤ 1048576) (hb : b ≤ 1048576) : wrap64 ((a : Int) - (b : Int)) = (a : Int) - (b : Int) := by unfold wrap64; omega
theorem laws_FnTruncateTwice.pure : ∀ (a0 : ByteArray) (a1 : Int) (a2 : Int), a0.size ≤ 140737488351232 → (Lit.int .i64 a1).wf = true → (Lit.int .i64 a2).wf = true → ∃ k, laws_FnTruncateTwice.f k a0 a1 a2 = some true := by
  intro s a1 a2 _ _ _
  obtain ⟨K, hK⟩ : ∃ K, K = 400000 := ⟨_, rfl⟩
  refine ⟨K + 5, ?_⟩
  unfold laws_FnTruncateTwice.f
  by_cases h1 : (s.size : Int) > 2147483647
  · rw [if_pos h1]
  rw [if_neg h1, trunc_abc]
  simp only [Option.bind_some]
  rw [if_pos (by first | trivial | rfl), if_neg (by first | decide | simp)]
  have hz : (((⟨#[97, 98, 226, 128, 166]⟩ : ByteArray).size : Int) == 0) = false := by decide
  rw [hz, laws_FnTruncateTwice.j0, if_neg (by decide)]
  have skip : laws_FnTruncateTwice.j1 (K + 4) s a1 a2 true = some true := by rw [laws_FnTruncateTwice.j1, if_pos rfl]
  have hlong : laws_long.f s = some (decide ((s.size : Int) > 65536)) := by unfold laws_long.f; rfl
  rw [hlong]
  simp only [Option.bind_some]
  by_cases h2 : (s.size : Int) > 65536
  · rw [if_pos (by simpa using h2)]; exact skip
  rw [if_neg (by simpa using h2)]
  by_cases h3 : a1 < 0
  · rw [if_pos h3]; exact skip
  rw [if_neg h3]
  by_cases h4 : a1 > 1048576
  · rw [if_pos h4]; exact skip
  rw [if_neg h4]
  by_cases h5 : a2 < 0
  · rw [if_pos h5]; exact skip
  rw [if_neg h5]
  by_cases h6 : a2 > a1
  · rw [if_pos h6]; exact skip
  rw [if_neg h6]
  have hv : utf8_ValidString.f s = some (Lib.validD s.data.toList) := by unfold utf8_ValidString.f; rw [if_pos (by omega)]
  rw [hv]
  simp only [Option.bind_some]
  cases Lib.validD s.data.toList
  · exact skip
  clear skip hlong hv hz
  obtain ⟨n, rfl⟩ : ∃ n : Nat, a1 = n := ⟨a1.toNat, by omega⟩
  obtain ⟨m, rfl⟩ : ∃ m : Nat, a2 = m := ⟨a2.toNat, by omega⟩
  have hs : s.size ≤ 65536 := by omega
  have hA := cutR_size s n hs
  have hX := cutR_fits (cutR s n).1 m
  have hXs : (cutR (cutR s n).1 m).1.size ≤ 300000 ∨ True := .inr trivial
  rw [Bool.not_true, laws_FnTruncateTwice.j1, if_neg (by decide), truncR_is s n (by omega) (by omega)]
  simp only [Option.bind_some]
  rw [truncR_is (cutR s n).1 n (by omega) (by omega), truncR_is (cutR s n).1 m (by omega) (by omega), cutR_again s n]
  simp only [Option.bind_some]
  rw [if_pos (by first | trivial | rfl), if_neg (by first | decide | simp)]
  have hXz : (cutR (cutR s n).1 m).1.size ≤ 390000 := by
    have hl : (runesI (cutR s n).1 0).length ≤ 65536 := by
      have h := cutR_len s n hs
      exact h
    exact cutR_size' _ m hA hl
  rw [runes_all _ (by omega) (K + 3) (by omega)]
  simp only [Option.bind_some]
  rw [decide_eq_false (by omega), laws_FnTruncateTwice.j2, if_neg (by decide), runes_all s (by omega) (K + 2) (by omega)]
  simp only [Option.bind_some]
  have w3 : wrap64 ((n : Int) - 3) = (n : Int) - 3 := wsub n 3 (by omega) (by decide)
  have w4 : wrap64 ((m : Int) - 3) = (m : Int) - 3 := wsub m 3 (by omega) (by decide)
  rw [w3, w4]
  clear w3 w4
  by_cases h7 : (((runesI s 0).length : Nat) : Int) < (n : Int) - 3
  · rw [if_pos h7]
  rw [if_neg h7, truncB_is s n (by omega) (by omega) (by omega)]
  simp only [Option.bind_some]
  have hC := cutB_fits s n
  have hCz : (cutB s n).1.size ≤ 390000 := cutB_size s n hs
  rw [runes_all _ (by omega) (K + 2) (by omega)]
  simp only [Option.bind_some]
  have skip : laws_FnTruncateTwice.j3 (K + 2) (n : Int) (m : Int) (cutB s n).1 true = some true := by rw [laws_FnTruncateTwice.j3, if_pos rfl]
  by_cases h8 : (((runesI (cutB s n).1 0).length : Nat) : Int) < (n : Int) - 3
  · rw [if_pos h8]; exact skip
  rw [if_neg h8]
  by_cases h9 : (((runesI (cutB s n).1 0).length : Nat) : Int) < (m : Int) - 3
  · rw [decide_eq_true h9]; exact skip
  rw [decide_eq_false h9, laws_FnTruncateTwice.j3, if_neg (by decide), truncB_is (cutB s n).1 n (by omega) (by omega) (by omega), truncB_is (cutB s n).1 m (by omega) (by omega) (by omega)]
  simp only [Option.bind_some]
  have hD : cutB (cutB s n).1 n = ((cutB s n).1, false) := cutB_of _ _ hC
  have hY := cutB_fits (cutB s n).1 m
  rw [hD, if_pos (by first | trivial | rfl), if_neg (by first | decide | simp), decide_eq_true (by omega)]
end Go.Proofs.YtkbaihcamimnjaaDoor.Q
