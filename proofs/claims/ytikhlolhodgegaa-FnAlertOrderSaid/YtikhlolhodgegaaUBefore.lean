/- The laws' own order of sets and the documentation's, as one comparison of sorted lists. No condition beyond the lengths named. -/
import Derived.Test.YtikhlolhodgegaaUBase
import Derived.Test.YtikhlolhodgegaaHSetBefore
import Derived.Test.YtikhlolhodgegaaQlawslesser
import Derived.Test.YtikhlolhodgegaaQspecSetBefore
set_option linter.unusedVariables false
set_option linter.unusedSimpArgs false
namespace Go.Proofs.Ytikhlolhodgegaa.Q
open Go.RowKit Go.Proofs.YtikhlolhodgegaaW.PrintWords Go.Proofs.YtikhlolhodgegaaW.PrintLast Go.Proofs.YtikhlolhodgegaaW.PrintMore
theorem rdB_natSP (l : List S59) (n : Nat) (h : n < l.length) : rd_T59 l (n : Int) = l[n] := by simp [rd_T59, List.getD_eq_getElem?_getD, List.getElem?_eq_getElem h]
theorem befP_eq {X Y : List S59} (h : X.length = Y.length) : befP X Y = lessL X Y := by unfold befP; rw [if_neg (by omega), if_neg (by omega)]
theorem befP_ne {X Y : List S59} (h : X.length ≠ Y.length) : befP X Y = decide (X.length < Y.length) := by
  unfold befP
  by_cases h1 : X.length < Y.length
  · rw [if_pos h1, decide_eq_true h1]
  · rw [if_neg h1, if_pos (by omega), decide_eq_false h1]
theorem lesser_from (X Y : List S59) (he : X.length = Y.length) (hl : X.length ≤ 1000000000) (d : Nat) : ∀ (n k : Nat), n + d = X.length → d < k → laws_lesser.l0 k X Y (X.length : Int) n = some (lessL (X.drop n) (Y.drop n)) := by
  induction d with
  | zero =>
    intro n k hn hk
    obtain ⟨k, rfl⟩ : ∃ m, k = m + 1 := ⟨k - 1, by omega⟩
    rw [laws_lesser.l0, if_neg (by omega), List.drop_of_length_le (by omega)]
    rfl
  | succ d ih =>
    intro n k hn hk
    obtain ⟨k, rfl⟩ : ∃ m, k = m + 1 := ⟨k - 1, by omega⟩
    have hx : n < X.length := by omega
    have hy : n < Y.length := by omega
    rw [laws_lesser.l0, if_pos (by omega), if_pos (by omega), if_pos (by omega), if_pos (by omega), rdB_natSP X n hx, rdB_natSP Y n hy, wrapN n (by omega), ih (n + 1) k (by omega) (by omega), List.drop_eq_getElem_cons hx, List.drop_eq_getElem_cons hy, lessL]
    split
    · split
      · rfl
      · rfl
    · rfl
theorem lesser_is (a b : List S26) (ha : a.length ≤ 1000000000) (hb : b.length ≤ 1000000000) (k : Nat) (hk : a.length + b.length + 2 < k) : laws_lesser.f k a b = some (befP (setGo (a.map conv) []) (setGo (b.map conv) [])) := by
  have la := Sset_len (a.map conv) []
  have lb := Sset_len (b.map conv) []
  simp at la lb
  have ea : spec_Set.f (a.map conv) = some (setGo (a.map conv) []) := if_pos (by simp; omega)
  have eb : spec_Set.f (b.map conv) = some (setGo (b.map conv) []) := if_pos (by simp; omega)
  unfold laws_lesser.f
  rw [pairs_is a (by omega) k (by omega), pairs_is b (by omega) k (by omega)]
  simp only [Option.bind_some]
  rw [ea, eb]
  simp only [Option.bind_some]
  by_cases h : (setGo (a.map conv) []).length = (setGo (b.map conv) []).length
  · rw [if_pos (by omega), befP_eq h]
    have := lesser_from _ _ h (by omega) (setGo (a.map conv) []).length 0 k (by omega) (by omega)
    rw [List.drop_zero, List.drop_zero] at this
    exact this
  · rw [if_neg (by omega), befP_ne h]
    congr 1
    refine Bool.eq_iff_iff.2 ?_
    simp
theorem specHas_is (X : List S59) (hl : X.length ≤ 1000000000) (s : ByteArray) (k : Nat) (hk : X.length < k) : spec_Has.f k X s = some ((X.find? (atN s.data.toList)).isSome) := by
  have key : ∀ (d n k : Nat), n + d = X.length → d < k → spec_Has.l0 k X s (X.length : Int) n = some (((X.drop n).find? (atN s.data.toList)).isSome) := by
    intro d
    induction d with
    | zero =>
      intro n k hn hk
      obtain ⟨k, rfl⟩ : ∃ m, k = m + 1 := ⟨k - 1, by omega⟩
      rw [spec_Has.l0, if_neg (by omega), List.drop_of_length_le (by omega)]
      rfl
    | succ d ih =>
      intro n k hn hk
      obtain ⟨k, rfl⟩ : ∃ m, k = m + 1 := ⟨k - 1, by omega⟩
      have hx : n < X.length := by omega
      rw [spec_Has.l0, if_pos (by omega), if_pos (by omega), if_pos (by omega), rdB_natSP X n hx, wrapN n (by omega), ih (n + 1) k (by omega) (by omega), List.drop_eq_getElem_cons hx]
      by_cases h : X[n].f0.toList = s.toList
      · have h2 : atN s.data.toList X[n] = true := by rw [toL, toL] at h; simpa [atN, nm] using h
        rw [if_pos h, List.find?_cons_of_pos h2]
        rfl
      · have h2 : ¬ atN s.data.toList X[n] = true := by rw [toL, toL] at h; simpa [atN, nm] using h
        rw [if_neg h, List.find?_cons_of_neg h2]
  have := key X.length 0 k (by omega) hk
  rw [List.drop_zero] at this
  exact this
def valStep (s : ByteArray) (v : ByteArray) (q : S59) : ByteArray := if q.f0.toList = s.toList then q.f1 else v
theorem specValue_is (X : List S59) (hl : X.length ≤ 1000000000) (s : ByteArray) (k : Nat) (hk : X.length < k) : spec_Value.f k X s = some (X.foldl (valStep s) ⟨#[]⟩) := by
  unfold spec_Value.f
  refine fold_loop X (valStep s) (fun k v x => spec_Value.l0 k X s v (X.length : Int) x) ?_ ?_ k _ hk
  · intro k v
    show spec_Value.l0 (k + 1) X s v _ _ = _
    rw [spec_Value.l0, if_neg (by omega)]
  · intro k v n h
    show spec_Value.l0 (k + 1) X s v _ _ = _
    rw [spec_Value.l0, if_pos (by omega), if_pos (by omega), if_pos (by omega), rdB_natSP X n h, wrapN n (by omega)]
    unfold valStep
    by_cases hs : X[n].f0.toList = s.toList
    · rw [if_pos hs, if_pos hs]
    · rw [if_neg hs, if_neg hs]
theorem val_last (s : ByteArray) : ∀ (X : List S59) (v : ByteArray), X.foldl (valStep s) v = ((lastP X s.data.toList).map (fun q => q.f1)).getD v
  | [], v => rfl
  | p :: X, v => by
    have e : lastP (p :: X) s.data.toList = (lastP X s.data.toList).or (if nm p = s.data.toList then some p else none) := by
      rw [← List.singleton_append, lastP_app, ← List.nil_append [p], lastP_snoc]
      rfl
    rw [List.foldl_cons, val_last s X, e]
    cases hx : lastP X s.data.toList with
    | some q => rfl
    | none =>
      unfold valStep
      rw [toL, toL]
      by_cases h : nm p = s.data.toList
      · have h' : p.f0.data.toList = s.data.toList := h
        rw [if_pos h', if_pos h]; rfl
      · have h' : ¬ p.f0.data.toList = s.data.toList := h
        rw [if_neg h', if_neg h]; rfl
theorem val_found {X : List S59} (hX : SortedP X) {s : ByteArray} {q : S59} (h : X.find? (atN s.data.toList) = some q) : X.foldl (valStep s) ⟨#[]⟩ = q.f1 := by
  have hq := List.mem_of_find?_eq_some h
  have hn : nm q = s.data.toList := by simpa [atN] using List.find?_some h
  rw [val_last, ← hn, (lastP_sorted hX q).2 hq]
  rfl
theorem names_iff (l : List S59) (n : List UInt8) : n ∈ (setGo l []).map nm ↔ (lastP l n).isSome = true := by
  rw [List.mem_map]
  constructor
  · rintro ⟨q, hq, rfl⟩
    rw [(mem_setGo_iff l q).1 hq]
    rfl
  · intro h
    obtain ⟨q, hq⟩ := Option.isSome_iff_exists.1 h
    have hn := lastP_nm hq
    exact ⟨q, (mem_setGo_iff l q).2 (by rw [hn]; exact hq), hn⟩
theorem specBef_from (X Y Z : List S59) (hX : SortedP X) (hY : SortedP Y) (B : Nat) (hx : X.length ≤ B) (hy : Y.length ≤ B) (hB : B ≤ 1000000000) (hz : Z.length ≤ 1000000000) (d : Nat) : ∀ (n k : Nat), n + d = Z.length → d + B + 2 < k →
    spec_SetBefore.l0 k X Y Z (Z.length : Int) n = some ((((Z.drop n).map nm).findSome? (stepN X Y)).getD false) := by
  induction d with
  | zero =>
    intro n k hn hk
    obtain ⟨k, rfl⟩ : ∃ m, k = m + 1 := ⟨k - 1, by omega⟩
    rw [spec_SetBefore.l0, if_neg (by omega), List.drop_of_length_le (by omega)]
    rfl
  | succ d ih =>
    intro n k hn hk
    obtain ⟨k, rfl⟩ : ∃ m, k = m + 1 := ⟨k - 1, by omega⟩
    have hzn : n < Z.length := by omega
    rw [spec_SetBefore.l0, if_pos (by omega), if_pos (by omega), if_pos (by omega), rdB_natSP Z n hzn, wrapN n (by omega), ih (n + 1) k (by omega) (by omega), specHas_is X (by omega) _ k (by omega), List.drop_eq_getElem_cons hzn, List.map_cons, List.findSome?_cons]
    simp only [Option.bind_some]
    rw [specHas_is Y (by omega) _ k (by omega)]
    unfold stepN
    have hnm : Z[n].f0.data.toList = nm Z[n] := rfl
    cases h1 : X.find? (atN (nm Z[n])) with
    | none =>
      rw [hnm, h1]
      rfl
    | some p =>
      cases h2 : Y.find? (atN (nm Z[n])) with
      | none =>
        rw [hnm, h1, h2]
        rfl
      | some q =>
        rw [specValue_is X (by omega) _ k (by omega), specValue_is Y (by omega) _ k (by omega), val_found hX h1, val_found hY h2, hnm, h1, h2]
        simp only [Option.bind_some, Option.isSome_some, if_true]
        unfold stepV
        by_cases hv : p.f1.toList = q.f1.toList
        · rw [if_pos hv, if_pos hv]
        · rw [if_neg hv, if_neg hv]
          rfl
theorem specBef_is (A B : List S59) (ha : A.length ≤ 100000000) (hb : B.length ≤ 100000000) (k : Nat) (hk : A.length + B.length + (A.length + B.length) + 2 < k) : spec_SetBefore.f k A B = some (befP (setGo A []) (setGo B [])) := by
  have la := Sset_len A []
  have lb := Sset_len B []
  have lab := Sset_len (A ++ B) []
  simp at la lb lab
  have ea : spec_Set.f A = some (setGo A []) := if_pos (by omega)
  have eb : spec_Set.f B = some (setGo B []) := if_pos (by omega)
  have eab : spec_Set.f (A ++ B) = some (setGo (A ++ B) []) := if_pos (by simp; omega)
  unfold spec_SetBefore.f
  rw [ea, eb]
  simp only [Option.bind_some]
  by_cases h : (setGo A []).length = (setGo B []).length
  · rw [if_pos (by omega), befP_eq h]
    simp only [List.nil_append, List.length_nil]
    rw [if_pos (by omega), if_pos (by omega), eab]
    simp only [Option.bind_some]
    have hf := specBef_from (setGo A []) (setGo B []) (setGo (A ++ B) []) (setGo_sorted A) (setGo_sorted B) (A.length + B.length) (by omega) (by omega) (by omega) (by omega) (setGo (A ++ B) []).length 0 k (by omega) (by omega)
    rw [List.drop_zero] at hf
    refine Eq.trans hf ?_
    congr 1
    refine less_fs _ _ _ h (setGo_sorted A) (setGo_sorted B) (fun n _ => rfl) _ ?_ (fun n => ?_)
    · rw [List.pairwise_map]
      exact (setGo_sorted (A ++ B)).imp (fun h => List.le_of_lt h)
    · rw [names_iff, names_iff, names_iff, lastP_app]
      cases lastP A n <;> cases lastP B n <;> simp
  · rw [if_neg (by omega), befP_ne h]
    congr 1
    refine Bool.eq_iff_iff.2 ?_
    simp
end Go.Proofs.Ytikhlolhodgegaa.Q
