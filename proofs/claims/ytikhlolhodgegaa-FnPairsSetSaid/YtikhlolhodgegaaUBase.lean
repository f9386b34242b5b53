/- Loops that make a list out of a list, element by element, and the comparison of lists of texts. No condition. Loops that ask each element of a list: what they tell; the statement's own checks of sizes and of matchers' types. No condition. The pairs of the program as pairs of the documentation: the loop of laws.pairs. No condition. -/
import Derived.Test.YtikhlolhodgegaaQ0
import Derived.Test.YtikhlolhodgegaaQlawszzFits1
import Derived.Test.YtikhlolhodgegaaQlawspairs
import Derived.Test.YtikhlolhodgegaaHSet1
set_option linter.unusedVariables false
set_option linter.unusedSimpArgs false
namespace Go.Proofs.Ytikhlolhodgegaa.Q
open Go.RowKit Go.Proofs.YtikhlolhodgegaaW.PrintWords Go.Proofs.YtikhlolhodgegaaW.PrintLast Go.Proofs.YtikhlolhodgegaaW.PrintMore
theorem wrapN (n : Nat) (h : n < 9223372036854775807) : wrap64 ((n : Int) + 1) = ((n + 1 : Nat) : Int) := by unfold wrap64; omega
theorem map_loop_from {α β : Type} (l : List α) (g : α → β) (F : Nat → List β → Int → Option (List β)) (hend : ∀ k X, F (k + 1) X (l.length : Int) = some X)
    (hstep : ∀ k X n (h : n < l.length), X.length = n → F (k + 1) X (n : Int) = F k (X ++ [g l[n]]) ((n + 1 : Nat) : Int)) (d : Nat) : ∀ (n k : Nat) (X : List β), n + d = l.length → d < k → X.length = n → F k X (n : Int) = some (X ++ (l.drop n).map g) := by
  induction d with
  | zero =>
    intro n k X hn hk hX
    obtain ⟨k, rfl⟩ : ∃ m, k = m + 1 := ⟨k - 1, by omega⟩
    obtain rfl : n = l.length := by omega
    rw [hend, List.drop_length]
    simp
  | succ d ih =>
    intro n k X hn hk hX
    obtain ⟨k, rfl⟩ : ∃ m, k = m + 1 := ⟨k - 1, by omega⟩
    have hlt : n < l.length := by omega
    rw [hstep k X n hlt hX, ih (n + 1) k _ (by omega) (by omega) (by simp [hX]), List.drop_eq_getElem_cons hlt, List.map_cons, List.append_assoc]
    rfl
theorem map_loop {α β : Type} (l : List α) (g : α → β) (F : Nat → List β → Int → Option (List β)) (hend : ∀ k X, F (k + 1) X (l.length : Int) = some X)
    (hstep : ∀ k X n (h : n < l.length), X.length = n → F (k + 1) X (n : Int) = F k (X ++ [g l[n]]) ((n + 1 : Nat) : Int)) (k : Nat) (hk : l.length < k) : F k [] 0 = some (l.map g) := by
  have := map_loop_from l g F hend hstep l.length 0 k [] (by omega) hk rfl
  simpa using this
/-- A loop that keeps some elements. -/
theorem flat_loop_from {α β : Type} (l : List α) (g : α → List β) (F : Nat → List β → Int → Option (List β)) (hend : ∀ k X, F (k + 1) X (l.length : Int) = some X)
    (hstep : ∀ k X n (h : n < l.length), X.length ≤ n → F (k + 1) X (n : Int) = F k (X ++ g l[n]) ((n + 1 : Nat) : Int)) (hg : ∀ a, (g a).length ≤ 1) (d : Nat) : ∀ (n k : Nat) (X : List β), n + d = l.length → d < k → X.length ≤ n → F k X (n : Int) = some (X ++ (l.drop n).flatMap g) := by
  induction d with
  | zero =>
    intro n k X hn hk hX
    obtain ⟨k, rfl⟩ : ∃ m, k = m + 1 := ⟨k - 1, by omega⟩
    obtain rfl : n = l.length := by omega
    rw [hend, List.drop_length]
    simp
  | succ d ih =>
    intro n k X hn hk hX
    obtain ⟨k, rfl⟩ : ∃ m, k = m + 1 := ⟨k - 1, by omega⟩
    have hlt : n < l.length := by omega
    have := hg l[n]
    rw [hstep k X n hlt hX, ih (n + 1) k _ (by omega) (by omega) (by simp; omega), List.drop_eq_getElem_cons hlt, List.flatMap_cons, List.append_assoc]
theorem flat_loop {α β : Type} (l : List α) (g : α → List β) (F : Nat → List β → Int → Option (List β)) (hend : ∀ k X, F (k + 1) X (l.length : Int) = some X)
    (hstep : ∀ k X n (h : n < l.length), X.length ≤ n → F (k + 1) X (n : Int) = F k (X ++ g l[n]) ((n + 1 : Nat) : Int)) (hg : ∀ a, (g a).length ≤ 1) (k : Nat) (hk : l.length < k) : F k [] 0 = some (l.flatMap g) := by
  have := flat_loop_from l g F hend hstep hg l.length 0 k [] (by omega) hk (by simp)
  simpa using this
theorem flat_filter {α : Type} (l : List α) (p : α → Bool) : l.flatMap (fun a => if p a = true then [a] else []) = l.filter p := by
  induction l with
  | nil => rfl
  | cons a l ih => cases h : p a <;> simp [h, ih]
/-- A loop that asks something of every element up to one that says no. -/
theorem fold_loop_from {α σ : Type} (l : List α) (g : σ → α → σ) (F : Nat → σ → Int → Option σ) (hend : ∀ k X, F (k + 1) X (l.length : Int) = some X)
    (hstep : ∀ k X n (h : n < l.length), F (k + 1) X (n : Int) = F k (g X l[n]) ((n + 1 : Nat) : Int)) (d : Nat) : ∀ (n k : Nat) (X : σ), n + d = l.length → d < k → F k X (n : Int) = some ((l.drop n).foldl g X) := by
  induction d with
  | zero =>
    intro n k X hn hk
    obtain ⟨k, rfl⟩ : ∃ m, k = m + 1 := ⟨k - 1, by omega⟩
    obtain rfl : n = l.length := by omega
    rw [hend, List.drop_length]
    rfl
  | succ d ih =>
    intro n k X hn hk
    obtain ⟨k, rfl⟩ : ∃ m, k = m + 1 := ⟨k - 1, by omega⟩
    have hlt : n < l.length := by omega
    rw [hstep k X n hlt, ih (n + 1) k _ (by omega) (by omega), List.drop_eq_getElem_cons hlt]
    rfl
theorem fold_loop {α σ : Type} (l : List α) (g : σ → α → σ) (F : Nat → σ → Int → Option σ) (hend : ∀ k X, F (k + 1) X (l.length : Int) = some X)
    (hstep : ∀ k X n (h : n < l.length), F (k + 1) X (n : Int) = F k (g X l[n]) ((n + 1 : Nat) : Int)) (k : Nat) (X : σ) (hk : l.length < k) : F k X 0 = some (l.foldl g X) := by
  have := fold_loop_from l g F hend hstep l.length 0 k X (by omega) hk
  simpa using this
theorem rdS_nat (l : List ByteArray) (n : Nat) (h : n < l.length) : rdOf ByteArray.empty l (n : Int) = l[n] := by simp [rdOf, List.getD_eq_getElem?_getD, List.getElem?_eq_getElem h]
end Go.Proofs.Ytikhlolhodgegaa.Q
namespace Go.Proofs.Ytikhlolhodgegaa.Q
open Go.RowKit Go.Proofs.YtikhlolhodgegaaW.PrintWords Go.Proofs.YtikhlolhodgegaaW.PrintLast Go.Proofs.YtikhlolhodgegaaW.PrintMore
theorem wrap_step {n : Nat} {m : Nat} (h : n < m) (hm : m ≤ 9223372036854775807) : wrap64 ((n : Int) + 1) = ((n + 1 : Nat) : Int) := by unfold wrap64; omega
theorem all_from {α : Type} (l : List α) (hl : l.length ≤ 9223372036854775807) (P : α → Bool) (e : Bool) (L : Nat → Int → Option Bool)
    (hend : ∀ k, L (k + 1) (l.length : Int) = some e)
    (hgo : ∀ k (n : Nat) (h : n < l.length), L (k + 1) (n : Int) = if P l[n] = true then L k (wrap64 ((n : Int) + 1)) else some false)
    (d : Nat) : ∀ (n k : Nat), n + d = l.length → d < k → L k (n : Int) = some ((l.drop n).all P && e) := by
  induction d with
  | zero =>
    intro n k hn hk
    obtain ⟨k, rfl⟩ : ∃ m, k = m + 1 := ⟨k - 1, by omega⟩
    have en : n = l.length := by omega
    subst en
    rw [hend, List.drop_length]; rfl
  | succ d ih =>
    intro n k hn hk
    obtain ⟨k, rfl⟩ : ∃ m, k = m + 1 := ⟨k - 1, by omega⟩
    rw [hgo k n (by omega), List.drop_eq_getElem_cons (show n < l.length by omega), List.all_cons]
    cases hp : P l[n]
    · simp
    · rw [if_pos rfl, wrap_step (m := l.length) (by omega) hl, ih (n + 1) k (by omega) (by omega)]
      simp
theorem all_loop {α : Type} (l : List α) (hl : l.length ≤ 9223372036854775807) (P : α → Bool) (e : Bool) (L : Nat → Int → Option Bool)
    (hend : ∀ k, L (k + 1) (l.length : Int) = some e)
    (hgo : ∀ k (n : Nat) (h : n < l.length), L (k + 1) (n : Int) = if P l[n] = true then L k (wrap64 ((n : Int) + 1)) else some false)
    (k : Nat) (hk : l.length < k) : L k 0 = some (l.all P && e) := by
  have := all_from l hl P e L hend hgo l.length 0 k (by omega) hk
  simpa using this
theorem rd_nat26 (l : List S26) (n : Nat) (h : n < l.length) : rd_T26 l (n : Int) = l[n] := by simp [rd_T26, List.getD_eq_getElem?_getD, List.getElem?_eq_getElem h]
def fitsP (p : S26) : Bool := decide (p.f0.size ≤ 2147483647) && decide (p.f1.size ≤ 2147483647)
def fitsPs (l : List S26) : Bool := decide (l.length ≤ 2147483647) && l.all fitsP
theorem fits2_is (a b : ByteArray) : laws_zzFits2.f a b = some (decide (a.size ≤ 2147483647) && decide (b.size ≤ 2147483647)) := by
  unfold laws_zzFits2.f
  repeat' split
  all_goals (congr 1; refine Bool.eq_iff_iff.2 ?_; simp; try omega)
theorem fits1_is (l : List S26) (k : Nat) (hk : l.length < k) : laws_zzFits1.f k l = some (fitsPs l) := by
  unfold laws_zzFits1.f fitsPs
  split
  · rw [decide_eq_false (by omega)]; rfl
  · rw [decide_eq_true (by omega), Bool.true_and]
    have := all_loop l (by omega) fitsP true (fun k x => laws_zzFits1.l0 k l (l.length : Int) x) ?_ ?_ k hk
    · simpa using this
    · intro k
      simp only [laws_zzFits1.l0]
      rw [if_neg (by omega)]
    · intro k n h
      simp only [laws_zzFits1.l0]
      rw [if_pos (by omega), if_pos (by omega), if_pos (by omega), rd_nat26 l n h, fits2_is]
      rfl
end Go.Proofs.Ytikhlolhodgegaa.Q
namespace Go.Proofs.Ytikhlolhodgegaa.Q
open Go.RowKit Go.Proofs.YtikhlolhodgegaaW.PrintWords Go.Proofs.YtikhlolhodgegaaW.PrintLast Go.Proofs.YtikhlolhodgegaaW.PrintMore
theorem pairs_from (l : List S26) (hl : l.length < 4398046511104) (d : Nat) : ∀ (n k : Nat) (X : List S59), n + d = l.length → d < k → X.length = n →
    laws_pairs.l0 k X l (l.length : Int) n = some (X ++ (l.drop n).map conv) := by
  induction d with
  | zero =>
    intro n k X hn hk hX
    obtain ⟨k, rfl⟩ : ∃ m, k = m + 1 := ⟨k - 1, by omega⟩
    simp only [laws_pairs.l0]
    rw [if_neg (by omega), List.drop_of_length_le (by omega)]
    simp
  | succ d ih =>
    intro n k X hn hk hX
    obtain ⟨k, rfl⟩ : ∃ m, k = m + 1 := ⟨k - 1, by omega⟩
    have hlt : n < l.length := by omega
    simp only [laws_pairs.l0]
    have e1 : rd_T26 l (n : Int) = l[n] := by simp [rd_T26, List.getD_eq_getElem?_getD, List.getElem?_eq_getElem hlt]
    have e2 : wrap64 ((n : Int) + 1) = ((n + 1 : Nat) : Int) := by unfold wrap64; omega
    rw [if_pos (by omega), if_pos (by omega), if_pos (by omega), if_pos (by omega), e1, e2, ih (n + 1) k _ (by omega) (by omega) (by simp [hX]), List.drop_eq_getElem_cons hlt, List.map_cons, List.append_assoc]
    rfl
theorem pairs_is (l : List S26) (hl : l.length < 4398046511104) (k : Nat) (hk : l.length < k) : laws_pairs.f k l = some (l.map conv) := by
  unfold laws_pairs.f
  have := pairs_from l hl l.length 0 k [] (by omega) hk rfl
  simpa using this
end Go.Proofs.Ytikhlolhodgegaa.Q
