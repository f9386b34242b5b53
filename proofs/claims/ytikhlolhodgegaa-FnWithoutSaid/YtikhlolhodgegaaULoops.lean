/- Loops that make a list out of a list, element by element, and the comparison of lists of texts. No condition. -/
import Derived.Test.YtikhlolhodgegaaQ0
set_option linter.unusedVariables false
set_option linter.unusedSimpArgs false
namespace Go.Proofs.Ytikhlolhodgegaa.Q
open Go.RowKit Go.Proofs.YtikhlolhodgegaaW.PrintWords Go.Proofs.YtikhlolhodgegaaW.PrintLast Go.Proofs.YtikhlolhodgegaaW.PrintMore
theorem wrapN (n : Nat) (h : n < 9223372036854775807) : wrap64 ((n : Int) + 1) = ((n + 1 : Nat) : Int) := by unfold wrap64; omega
theorem map_loop_from {α β : Type} (l : List α) (g : α → β) (F : Nat → List β → Int → Option (List β)) (hend : ∀ k X, F (k + 1) X (l.length : Int) = some X)
    (hstep : ∀ k X n (h : n < l.length), X.length = n → F (k + 1) X (n : Int) = F k (X ++ [g l[n]]) ((n + 1 : Nat) : Int)) (d : Nat) : ∀ (n k : Nat) (X : List β), n + d = l.length → d < k → X.length = n → F k X (n : Int) = some (X ++ (l.drop n).map g) := by
  induction d with
  | zero =>
    intro n k X hn hk hX
    obtain ⟨k, rfl⟩ : ∃ m, k = m + 1 := ⟨k - 1, by omega⟩
    obtain rfl : n = l.length := by omega
    rw [hend, List.drop_length]
    simp
  | succ d ih =>
    intro n k X hn hk hX
    obtain ⟨k, rfl⟩ : ∃ m, k = m + 1 := ⟨k - 1, by omega⟩
    have hlt : n < l.length := by omega
    rw [hstep k X n hlt hX, ih (n + 1) k _ (by omega) (by omega) (by simp [hX]), List.drop_eq_getElem_cons hlt, List.map_cons, List.append_assoc]
    rfl
theorem map_loop {α β : Type} (l : List α) (g : α → β) (F : Nat → List β → Int → Option (List β)) (hend : ∀ k X, F (k + 1) X (l.length : Int) = some X)
    (hstep : ∀ k X n (h : n < l.length), X.length = n → F (k + 1) X (n : Int) = F k (X ++ [g l[n]]) ((n + 1 : Nat) : Int)) (k : Nat) (hk : l.length < k) : F k [] 0 = some (l.map g) := by
  have := map_loop_from l g F hend hstep l.length 0 k [] (by omega) hk rfl
  simpa using this
/-- A loop that keeps some elements. -/
theorem flat_loop_from {α β : Type} (l : List α) (g : α → List β) (F : Nat → List β → Int → Option (List β)) (hend : ∀ k X, F (k + 1) X (l.length : Int) = some X)
    (hstep : ∀ k X n (h : n < l.length), X.length ≤ n → F (k + 1) X (n : Int) = F k (X ++ g l[n]) ((n + 1 : Nat) : Int)) (hg : ∀ a, (g a).length ≤ 1) (d : Nat) : ∀ (n k : Nat) (X : List β), n + d = l.length → d < k → X.length ≤ n → F k X (n : Int) = some (X ++ (l.drop n).flatMap g) := by
  induction d with
  | zero =>
    intro n k X hn hk hX
    obtain ⟨k, rfl⟩ : ∃ m, k = m + 1 := ⟨k - 1, by omega⟩
    obtain rfl : n = l.length := by omega
    rw [hend, List.drop_length]
    simp
  | succ d ih =>
    intro n k X hn hk hX
    obtain ⟨k, rfl⟩ : ∃ m, k = m + 1 := ⟨k - 1, by omega⟩
    have hlt : n < l.length := by omega
    have := hg l[n]
    rw [hstep k X n hlt hX, ih (n + 1) k _ (by omega) (by omega) (by simp; omega), List.drop_eq_getElem_cons hlt, List.flatMap_cons, List.append_assoc]
theorem flat_loop {α β : Type} (l : List α) (g : α → List β) (F : Nat → List β → Int → Option (List β)) (hend : ∀ k X, F (k + 1) X (l.length : Int) = some X)
    (hstep : ∀ k X n (h : n < l.length), X.length ≤ n → F (k + 1) X (n : Int) = F k (X ++ g l[n]) ((n + 1 : Nat) : Int)) (hg : ∀ a, (g a).length ≤ 1) (k : Nat) (hk : l.length < k) : F k [] 0 = some (l.flatMap g) := by
  have := flat_loop_from l g F hend hstep hg l.length 0 k [] (by omega) hk (by simp)
  simpa using this
theorem flat_filter {α : Type} (l : List α) (p : α → Bool) : l.flatMap (fun a => if p a = true then [a] else []) = l.filter p := by
  induction l with
  | nil => rfl
  | cons a l ih => cases h : p a <;> simp [h, ih]
/-- A loop that asks something of every element up to one that says no. -/
theorem fold_loop_from {α σ : Type} (l : List α) (g : σ → α → σ) (F : Nat → σ → Int → Option σ) (hend : ∀ k X, F (k + 1) X (l.length : Int) = some X)
    (hstep : ∀ k X n (h : n < l.length), F (k + 1) X (n : Int) = F k (g X l[n]) ((n + 1 : Nat) : Int)) (d : Nat) : ∀ (n k : Nat) (X : σ), n + d = l.length → d < k → F k X (n : Int) = some ((l.drop n).foldl g X) := by
  induction d with
  | zero =>
    intro n k X hn hk
    obtain ⟨k, rfl⟩ : ∃ m, k = m + 1 := ⟨k - 1, by omega⟩
    obtain rfl : n = l.length := by omega
    rw [hend, List.drop_length]
    rfl
  | succ d ih =>
    intro n k X hn hk
    obtain ⟨k, rfl⟩ : ∃ m, k = m + 1 := ⟨k - 1, by omega⟩
    have hlt : n < l.length := by omega
    rw [hstep k X n hlt, ih (n + 1) k _ (by omega) (by omega), List.drop_eq_getElem_cons hlt]
    rfl
theorem fold_loop {α σ : Type} (l : List α) (g : σ → α → σ) (F : Nat → σ → Int → Option σ) (hend : ∀ k X, F (k + 1) X (l.length : Int) = some X)
    (hstep : ∀ k X n (h : n < l.length), F (k + 1) X (n : Int) = F k (g X l[n]) ((n + 1 : Nat) : Int)) (k : Nat) (X : σ) (hk : l.length < k) : F k X 0 = some (l.foldl g X) := by
  have := fold_loop_from l g F hend hstep l.length 0 k X (by omega) hk
  simpa using this
theorem rdS_nat (l : List ByteArray) (n : Nat) (h : n < l.length) : rdOf ByteArray.empty l (n : Int) = l[n] := by simp [rdOf, List.getD_eq_getElem?_getD, List.getElem?_eq_getElem h]
end Go.Proofs.Ytikhlolhodgegaa.Q
