/- Truncation in plain Lean: what is cut fits. No condition. -/
import Derived.Test.YtkbaihcamimnjaaDoorURunes
set_option linter.unusedVariables false
set_option linter.unusedSimpArgs false
namespace Go.Proofs.YtkbaihcamimnjaaDoor.Q
open Go.RowKit Go.Proofs.YtkbaihcamimnjaaDoorW.PrintWords Go.Proofs.YtkbaihcamimnjaaDoorW.PrintLast Go.Proofs.YtkbaihcamimnjaaDoorW.PrintMore
theorem cutR_fits (s : ByteArray) (n : Nat) : (runesI (cutR s n).1 0).length ≤ n := by
  have ok := runesI_ok s s.size 0 (by omega)
  unfold cutR
  split
  · assumption
  · split
    · simp only
      rw [runes_enc0 _ (okL_take ok n), List.length_take]
      omega
    · simp only
      rw [mark_is, ← encL_append, runes_enc0 _ (okL_append (okL_take ok (n - 1)) ok_mark), List.length_append, List.length_take]
      simp
      omega
theorem cutR_of (t : ByteArray) (n : Nat) (h : (runesI t 0).length ≤ n) : cutR t n = (t, false) := by unfold cutR; rw [if_pos h]
theorem cutB_of (t : ByteArray) (n : Nat) (h : t.size ≤ n) : cutB t n = (t, false) := by unfold cutB; rw [if_pos h]
theorem cutR_again (s : ByteArray) (n : Nat) : cutR (cutR s n).1 n = ((cutR s n).1, false) := by
  exact cutR_of _ _ (cutR_fits s n)
theorem mark_size : mark.size = 3 := rfl
theorem cutR_size (s : ByteArray) (n : Nat) (hs : s.size ≤ 65536) : (cutR s n).1.size ≤ 300000 := by
  have hl := runesI_len s s.size 0 (by omega)
  unfold cutR
  split
  · simp only; omega
  · split
    · simp only
      have := encL_size ((runesI s 0).take n)
      rw [List.length_take] at this
      omega
    · simp only
      have := encL_size ((runesI s 0).take (n - 1))
      rw [List.length_take] at this
      rw [ByteArray.size_append, mark_size]
      omega
theorem cutR_len (s : ByteArray) (n : Nat) (hs : s.size ≤ 65536) : (runesI (cutR s n).1 0).length ≤ 65536 := by
  have ok := runesI_ok s s.size 0 (by omega)
  have hl := runesI_len s s.size 0 (by omega)
  have hf := cutR_fits s n
  unfold cutR at hf ⊢
  split at hf
  · rw [if_pos ‹_›]; simp only; omega
  · rw [if_neg ‹_›]
    split at hf
    · rw [if_pos ‹_›]; omega
    · rw [if_neg ‹_›]; omega
theorem cutR_size' (s : ByteArray) (m : Nat) (hs : s.size ≤ 300000) (hl : (runesI s 0).length ≤ 65536) : (cutR s m).1.size ≤ 390000 := by
  unfold cutR
  split
  · simp only; omega
  · split
    · simp only
      have := encL_size ((runesI s 0).take m)
      rw [List.length_take] at this
      omega
    · simp only
      have := encL_size ((runesI s 0).take (m - 1))
      rw [List.length_take] at this
      rw [ByteArray.size_append, mark_size]
      omega
theorem fitK_fits (r : List Nat) (t k : Nat) : (encL (r.take (fitK r t k))).size ≤ t := by
  induction k with
  | zero =>
    show (encL (r.take 0)).size ≤ t
    have := encL_size (r.take 0)
    rw [List.take_zero] at this ⊢
    have : (encL []).size = 0 := rfl
    omega
  | succ k ih =>
    unfold fitK
    split
    · assumption
    · exact ih
theorem cutB_fits (s : ByteArray) (n : Nat) : (cutB s n).1.size ≤ n := by
  unfold cutB
  split
  · assumption
  · split
    · simp only; rw [mark_size]; omega
    · split
      · simp only
        have := Lib.repeatL_length [46] n
        show (Lib.repeatL [46] n).toArray.size ≤ n
        rw [List.size_toArray, this]
        simp
      · simp only
        have := fitK_fits (runesI s 0) (n - 3) (n - 3)
        rw [ByteArray.size_append, mark_size]
        omega
theorem cutB_size (s : ByteArray) (n : Nat) (hs : s.size ≤ 65536) : (cutB s n).1.size ≤ 390000 := by
  by_cases h : s.size ≤ n
  · have : cutB s n = (s, false) := by unfold cutB; rw [if_pos h]
    rw [this]
    simp only; omega
  · have := cutB_fits s n
    omega
theorem cutB_valid (s : ByteArray) (n : Nat) (hv : Lib.validD s.data.toList = true) : Lib.validD (cutB s n).1.data.toList = true := by
  have ok := runesI_ok s s.size 0 (by omega)
  unfold cutB
  split
  · exact hv
  · split
    · simp only; rw [mark_is]; exact valid_encL _ ok_mark
    · split
      · rename_i h1 h2 h3
        rcases (by omega : n = 0 ∨ n = 1 ∨ n = 2) with rfl | rfl | rfl <;> decide
      · simp only
        rw [mark_is, ← encL_append]
        exact valid_encL _ (okL_append (okL_take ok _) ok_mark)
theorem truncB_is (s : ByteArray) (n : Nat) (hs : s.size ≤ 1000000) (hn : n ≤ 1048576) (h : n ≤ 3 ∨ n - 3 ≤ (runesI s 0).length ∨ s.size ≤ n) : impl_TruncateBytes.f s (n : Int) = some (cutB s n) := by
  unfold impl_TruncateBytes.f
  rw [if_pos ⟨hs, by omega, by omega, by omega⟩, Int.toNat_natCast]
theorem truncR_is (s : ByteArray) (n : Nat) (hs : s.size ≤ 1000000) (hn : n ≤ 1048576) : impl_TruncateRunes.f s (n : Int) = some (cutR s n) := by
  unfold impl_TruncateRunes.f
  rw [if_pos ⟨hs, by omega, by omega⟩, Int.toNat_natCast]
end Go.Proofs.YtkbaihcamimnjaaDoor.Q
