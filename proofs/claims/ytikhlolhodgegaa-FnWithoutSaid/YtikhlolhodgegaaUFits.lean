/- Loops that ask each element of a list: what they tell; the statement's own checks of sizes and of matchers' types. No condition. -/
import Derived.Test.YtikhlolhodgegaaQ0
import Derived.Test.YtikhlolhodgegaaQlawszzFits1
set_option linter.unusedVariables false
set_option linter.unusedSimpArgs false
namespace Go.Proofs.Ytikhlolhodgegaa.Q
open Go.RowKit Go.Proofs.YtikhlolhodgegaaW.PrintWords Go.Proofs.YtikhlolhodgegaaW.PrintLast Go.Proofs.YtikhlolhodgegaaW.PrintMore
theorem wrap_step {n : Nat} {m : Nat} (h : n < m) (hm : m ≤ 9223372036854775807) : wrap64 ((n : Int) + 1) = ((n + 1 : Nat) : Int) := by unfold wrap64; omega
theorem all_from {α : Type} (l : List α) (hl : l.length ≤ 9223372036854775807) (P : α → Bool) (e : Bool) (L : Nat → Int → Option Bool)
    (hend : ∀ k, L (k + 1) (l.length : Int) = some e)
    (hgo : ∀ k (n : Nat) (h : n < l.length), L (k + 1) (n : Int) = if P l[n] = true then L k (wrap64 ((n : Int) + 1)) else some false)
    (d : Nat) : ∀ (n k : Nat), n + d = l.length → d < k → L k (n : Int) = some ((l.drop n).all P && e) := by
  induction d with
  | zero =>
    intro n k hn hk
    obtain ⟨k, rfl⟩ : ∃ m, k = m + 1 := ⟨k - 1, by omega⟩
    have en : n = l.length := by omega
    subst en
    rw [hend, List.drop_length]; rfl
  | succ d ih =>
    intro n k hn hk
    obtain ⟨k, rfl⟩ : ∃ m, k = m + 1 := ⟨k - 1, by omega⟩
    rw [hgo k n (by omega), List.drop_eq_getElem_cons (show n < l.length by omega), List.all_cons]
    cases hp : P l[n]
    · simp
    · rw [if_pos rfl, wrap_step (m := l.length) (by omega) hl, ih (n + 1) k (by omega) (by omega)]
      simp
theorem all_loop {α : Type} (l : List α) (hl : l.length ≤ 9223372036854775807) (P : α → Bool) (e : Bool) (L : Nat → Int → Option Bool)
    (hend : ∀ k, L (k + 1) (l.length : Int) = some e)
    (hgo : ∀ k (n : Nat) (h : n < l.length), L (k + 1) (n : Int) = if P l[n] = true then L k (wrap64 ((n : Int) + 1)) else some false)
    (k : Nat) (hk : l.length < k) : L k 0 = some (l.all P && e) := by
  have := all_from l hl P e L hend hgo l.length 0 k (by omega) hk
  simpa using this
theorem rd_nat26 (l : List S26) (n : Nat) (h : n < l.length) : rd_T26 l (n : Int) = l[n] := by simp [rd_T26, List.getD_eq_getElem?_getD, List.getElem?_eq_getElem h]
def fitsP (p : S26) : Bool := decide (p.f0.size ≤ 2147483647) && decide (p.f1.size ≤ 2147483647)
def fitsPs (l : List S26) : Bool := decide (l.length ≤ 2147483647) && l.all fitsP
theorem fits2_is (a b : ByteArray) : laws_zzFits2.f a b = some (decide (a.size ≤ 2147483647) && decide (b.size ≤ 2147483647)) := by
  unfold laws_zzFits2.f
  repeat' split
  all_goals (congr 1; refine Bool.eq_iff_iff.2 ?_; simp; try omega)
theorem fits1_is (l : List S26) (k : Nat) (hk : l.length < k) : laws_zzFits1.f k l = some (fitsPs l) := by
  unfold laws_zzFits1.f fitsPs
  split
  · rw [decide_eq_false (by omega)]; rfl
  · rw [decide_eq_true (by omega), Bool.true_and]
    have := all_loop l (by omega) fitsP true (fun k x => laws_zzFits1.l0 k l (l.length : Int) x) ?_ ?_ k hk
    · simpa using this
    · intro k
      simp only [laws_zzFits1.l0]
      rw [if_neg (by omega)]
    · intro k n h
      simp only [laws_zzFits1.l0]
      rw [if_pos (by omega), if_pos (by omega), if_pos (by omega), rd_nat26 l n h, fits2_is]
      rfl
end Go.Proofs.Ytikhlolhodgegaa.Q
