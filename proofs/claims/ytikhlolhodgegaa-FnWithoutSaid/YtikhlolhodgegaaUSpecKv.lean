/- The documentation's SortedPairs and Without as filters of the sorted list of a set. No condition beyond the lengths named. -/
import Derived.Test.YtikhlolhodgegaaULoops
import Derived.Test.YtikhlolhodgegaaUPairs
import Derived.Test.YtikhlolhodgegaaHWithout
import Derived.Test.YtikhlolhodgegaaQspecWithout
set_option linter.unusedVariables false
set_option linter.unusedSimpArgs false
namespace Go.Proofs.Ytikhlolhodgegaa.Q
open Go.RowKit Go.Proofs.YtikhlolhodgegaaW.PrintWords Go.Proofs.YtikhlolhodgegaaW.PrintLast Go.Proofs.YtikhlolhodgegaaW.PrintMore
theorem rdW_natSP (l : List S59) (n : Nat) (h : n < l.length) : rd_T59 l (n : Int) = l[n] := by simp [rd_T59, List.getD_eq_getElem?_getD, List.getElem?_eq_getElem h]
theorem isAN_iff (q : S59) : q.f0.toList = ([97, 108, 101, 114, 116, 110, 97, 109, 101] : List UInt8) ↔ isAN q = true := by
  rw [toL]
  simp [isAN, nm, lAN]
theorem specSorted_from (l : List S59) (hl : l.length < 1000000000) (d : Nat) : ∀ (n k : Nat) (F R : List S59), n + d = l.length → d < k → F.length + R.length ≤ n →
    spec_SortedPairs.l0 k l F R (l.length : Int) n = some ((F ++ (l.drop n).filter isAN) ++ (R ++ (l.drop n).filter (fun q => !isAN q))) := by
  induction d with
  | zero =>
    intro n k F R hn hk hF
    obtain ⟨k, rfl⟩ : ∃ m, k = m + 1 := ⟨k - 1, by omega⟩
    simp only [spec_SortedPairs.l0]
    rw [if_neg (by omega), if_pos (by omega), List.drop_of_length_le (by omega)]
    simp
  | succ d ih =>
    intro n k F R hn hk hF
    obtain ⟨k, rfl⟩ : ∃ m, k = m + 1 := ⟨k - 1, by omega⟩
    have hlt : n < l.length := by omega
    simp only [spec_SortedPairs.l0]
    rw [if_pos (by omega), if_pos (by omega), if_pos (by omega), rdW_natSP l n hlt, wrapN n (by omega)]
    have hd := List.drop_eq_getElem_cons hlt
    cases h : isAN l[n]
    · rw [if_neg (fun e => by rw [(isAN_iff _).1 e] at h; cases h), if_pos (by omega), ih (n + 1) k _ _ (by omega) (by omega) (by simp; omega), hd]
      generalize l.drop (n + 1) = T
      generalize l[n] = a at *
      simp [h]
    · rw [if_pos ((isAN_iff _).2 h), if_pos (by omega), ih (n + 1) k _ _ (by omega) (by omega) (by simp; omega), hd]
      generalize l.drop (n + 1) = T
      generalize l[n] = a at *
      simp [h]
theorem specSorted_is (l : List S59) (hl : l.length < 1000000000) (k : Nat) (hk : l.length < k) : spec_SortedPairs.f k l = some (kvOrd (setGo l [])) := by
  have hlen := Sset_len l []
  simp at hlen
  unfold spec_SortedPairs.f
  have e : spec_Set.f l = some (setGo l []) := if_pos (by omega)
  rw [e]
  simp only [Option.bind_some]
  have := specSorted_from (setGo l []) (by omega) (setGo l []).length 0 k [] [] (by omega) (by omega) (by simp)
  simpa [kvOrd] using this
theorem specW_inner (x1 : List ByteArray) (hm : x1.length < 1000000000) (x5 x6 : List S59) (n : Nat) (h5 : n < x5.length) (h6 : x6.length < 1000000000) (x13 : Int) (d : Nat) : ∀ (i k : Nat) (b : Bool), i + d = x1.length →
    spec_Without.l1 (k + d + 1) x1 x5 x6 n b x13 n (x1.length : Int) i = if (b || (x1.drop i).any (fun s => s.data.toList == nm x5[n])) = true then spec_Without.l0 k x1 x5 x6 x13 (wrap64 ((n : Int) + 1)) else spec_Without.l0 k x1 x5 (x6 ++ [x5[n]]) x13 (wrap64 ((n : Int) + 1)) := by
  induction d with
  | zero =>
    intro i k b hi
    have hd : x1.drop i = [] := List.drop_of_length_le (by omega)
    rw [Nat.add_zero, hd]
    simp only [spec_Without.l1]
    rw [if_neg (by omega)]
    cases b
    · rw [if_neg (by simp), if_pos (by omega), if_pos (by omega), if_pos (by omega), rdW_natSP x5 n h5]
      rfl
    · rfl
  | succ d ih =>
    intro i k b hi
    have hlt : i < x1.length := by omega
    rw [List.drop_eq_getElem_cons hlt, List.any_cons]
    have e : k + (d + 1) + 1 = (k + d + 1) + 1 := by omega
    rw [e, spec_Without.l1]
    rw [if_pos (by omega), wrapN i (by omega)]
    cases b
    · rw [if_neg (by simp), if_pos (by omega), if_pos (by omega), if_pos (by omega), if_pos (by omega), ih (i + 1) k _ (by omega), rdS_nat x1 i hlt, rdW_natSP x5 n h5, Bool.false_or, toL, toL]
      rfl
    · rw [if_pos rfl, ih (i + 1) k _ (by omega), Bool.true_or, Bool.true_or]
theorem specW_outer (x1 : List ByteArray) (hm : x1.length < 1000000000) (x5 : List S59) (h5 : x5.length < 1000000000) (d : Nat) : ∀ (n e : Nat) (x6 : List S59), n + d = x5.length → x6.length ≤ n →
    spec_Without.l0 (d * (x1.length + 2) + 1 + e) x1 x5 x6 (x5.length : Int) n = some (x6 ++ (x5.drop n).filter (keepN x1)) := by
  induction d with
  | zero =>
    intro n e x6 hn h6
    rw [show 0 * (x1.length + 2) + 1 + e = e + 1 by omega]
    simp only [spec_Without.l0]
    rw [if_neg (by omega), List.drop_of_length_le (by omega)]
    simp
  | succ d ih =>
    intro n e x6 hn h6
    have hlt : n < x5.length := by omega
    rw [show (d + 1) * (x1.length + 2) + 1 + e = ((d * (x1.length + 2) + 1 + e) + x1.length + 1) + 1 by rw [Nat.add_mul]; omega]
    simp only [spec_Without.l0]
    have hin := specW_inner x1 hm x5 x6 n hlt (by omega) (x5.length : Int) x1.length 0 (d * (x1.length + 2) + 1 + e) false (by omega)
    rw [List.drop_zero, Bool.false_or, wrapN n (by omega)] at hin
    rw [if_pos (by omega)]
    refine Eq.trans hin ?_
    have hd := List.drop_eq_getElem_cons hlt
    cases h : x1.any (fun s => s.data.toList == nm x5[n])
    · rw [if_neg (by simp), ih (n + 1) e _ (by omega) (by simp; omega), hd]
      have hk : keepN x1 x5[n] = true := by unfold keepN gone; rw [h]; rfl
      generalize x5.drop (n + 1) = T
      generalize x5[n] = a at *
      simp [hk]
    · rw [if_pos rfl, ih (n + 1) e _ (by omega) (by omega), hd]
      have hk : keepN x1 x5[n] = false := by unfold keepN gone; rw [h]; rfl
      generalize x5.drop (n + 1) = T
      generalize x5[n] = a at *
      simp [hk]
theorem specWithout_is (l : List S59) (hl : l.length < 1000000000) (x1 : List ByteArray) (hm : x1.length < 1000000000) (k : Nat) (hk : l.length * (x1.length + 2) + 1 + l.length ≤ k) : spec_Without.f k l x1 = some ((kvOrd (setGo l [])).filter (keepN x1)) := by
  have hlen := Sset_len l []
  simp at hlen
  have hko := kvOrd_len (setGo l [])
  have hmul : (kvOrd (setGo l [])).length * (x1.length + 2) ≤ l.length * (x1.length + 2) := Nat.mul_le_mul_right _ (by omega)
  have hpos : l.length ≤ l.length * (x1.length + 2) := Nat.le_mul_of_pos_right _ (by omega)
  unfold spec_Without.f
  rw [specSorted_is l hl k (by omega)]
  simp only [Option.bind_some]
  obtain ⟨e, rfl⟩ : ∃ e, k = (kvOrd (setGo l [])).length * (x1.length + 2) + 1 + e := ⟨k - ((kvOrd (setGo l [])).length * (x1.length + 2) + 1), by omega⟩
  have := specW_outer x1 hm (kvOrd (setGo l [])) (by omega) (kvOrd (setGo l [])).length 0 e [] (by omega) (by simp)
  simpa using this
theorem kvOrd_perm (X : List S59) : (kvOrd X).Perm X := by
  unfold kvOrd
  exact List.filter_append_perm isAN X
theorem setGo_kvOrd (X : List S59) (hX : SortedP X) (p : S59 → Bool) : setGo ((kvOrd X).filter p) [] = X.filter p :=
  setGo_perm ((kvOrd_perm X).filter p) (List.Pairwise.filter _ hX)
end Go.Proofs.Ytikhlolhodgegaa.Q
