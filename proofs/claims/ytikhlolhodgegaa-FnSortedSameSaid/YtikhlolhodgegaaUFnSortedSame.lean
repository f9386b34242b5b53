/- The law FnSortedSame over the functions that the program comes to, for every input: a list in any other order is sorted to the same. Condition: the turns are bytes. -/
import Derived.Test.YtikhlolhodgegaaUBase
import Derived.Test.YtikhlolhodgegaaUFitsM
import Derived.Test.YtikhlolhodgegaaQlawsFnSortedSame
set_option linter.unusedVariables false
set_option linter.unusedSimpArgs false
namespace Go.Proofs.Ytikhlolhodgegaa.Q
open Go.RowKit Go.Proofs.YtikhlolhodgegaaW.PrintWords Go.Proofs.YtikhlolhodgegaaW.PrintLast Go.Proofs.YtikhlolhodgegaaW.PrintMore
theorem eqm_l0S (l : List S52) (hs : l.length ≤ 140737488351232) : ∀ (n i : Nat), i + n = l.length → ∀ k, n + 1 ≤ k → laws_eqMatchers.l0 k l l (l.length : Int) (i : Int) = some true
  | 0, i, h, k, hk => by
    obtain ⟨k, rfl⟩ : ∃ j, k = j + 1 := ⟨k - 1, by omega⟩
    rw [laws_eqMatchers.l0, if_neg (by omega)]
  | n + 1, i, h, k, hk => by
    obtain ⟨k, rfl⟩ : ∃ j, k = j + 1 := ⟨k - 1, by omega⟩
    rw [laws_eqMatchers.l0, if_pos (by omega), if_pos (by omega), if_pos (by omega), if_pos (by omega), if_neg (by simp), wrapN i (by omega)]
    exact eqm_l0S l hs n (i + 1) (by omega) k (by omega)
theorem eqm_fS (l : List S52) (hs : l.length ≤ 140737488351232) (k : Nat) (hk : l.length + 1 ≤ k) : laws_eqMatchers.f k l l = some true := by
  rw [laws_eqMatchers.f, if_pos rfl]
  exact eqm_l0S l hs l.length 0 (by omega) k (by omega)
theorem sorted_fS (l : List S52) (h : l.length ≤ 10000000) : impl_Sorted.f l = some (srtM l) := if_pos h
theorem srtM_mem {l : List S52} {m : S52} (h : m ∈ srtM l) : m ∈ l := (List.mergeSort_perm l leM).mem_iff.1 h
theorem matchS (l : List S52) (D : DataW Unit) : matchAllD (srtM l) D = matchAllD l D := (List.mergeSort_perm l leM).all_eq
/-- What the law says at its end of a list in some order. -/
theorem sorted_end (x0 : List S52) (x2 : List S26) (x7 : List S52) (hp : x7.Perm x0) (h0 : x0.length ≤ 300) (h2 : x2.length ≤ 1000) (hs : shortPairs x2) (hm : ∀ m ∈ x0, plainM m) (k : Nat) (hk : 400 ≤ k) :
    ((impl_Sorted.f x0).bind fun t303 => ((impl_Sorted.f x7).bind fun t306 => ((laws_eqMatchers.f k t306 t303).bind fun t309 => (if t309 = true then ((impl_Sorted.f t303).bind fun t310 => ((laws_eqMatchers.f k t310 t303).bind fun t313 => (if t313 = true then ((impl_MatchAll.f t303 x2).bind fun t314 => ((impl_MatchAll.f x0 x2).bind fun t315 => (some (t314 == t315)))) else (some false)))) else (some false))))) = some true := by
  have hl7 : x7.length = x0.length := hp.length_eq
  have hls := srtM_len x0
  have e1 : impl_MatchAll.f (srtM x0) x2 = some (matchAllD (srtM x0) (mset x2)) := if_pos ⟨by omega, by omega, hs, fun m h => hm m (srtM_mem h)⟩
  have e2 : impl_MatchAll.f x0 x2 = some (matchAllD x0 (mset x2)) := if_pos ⟨by omega, by omega, hs, hm⟩
  rw [sorted_fS x0 (by omega), Option.bind_some, sorted_fS x7 (by omega), Option.bind_some, srtM_perm hp, eqm_fS (srtM x0) (by omega) k (by omega), Option.bind_some, if_pos rfl, sorted_fS (srtM x0) (by omega), Option.bind_some, srtM_idem, eqm_fS (srtM x0) (by omega) k (by omega), Option.bind_some, if_pos rfl, e1, Option.bind_some, e2, Option.bind_some, matchS]
  simp
theorem tmod_in (a n : Int) (ha : 0 ≤ a) (hn : 0 < n) : 0 ≤ Int.tmod a n ∧ Int.tmod a n < n := ⟨Int.tmod_nonneg _ ha, Int.tmod_lt_of_pos _ hn⟩
theorem swap_perm (l : List S52) (a b : Int) (ha : 0 ≤ a ∧ a < l.length) (hb : 0 ≤ b ∧ b < l.length) :
    ((l.set a.toNat (rd_T52 l b)).set b.toNat (rd_T52 l a)).Perm l := by
  have ea : a.toNat < l.length := by omega
  have eb : b.toNat < l.length := by omega
  have ra : rd_T52 l a = l[a.toNat] := by simp [rd_T52, List.getD_eq_getElem?_getD, List.getElem?_eq_getElem ea]
  have rb : rd_T52 l b = l[b.toNat] := by simp [rd_T52, List.getD_eq_getElem?_getD, List.getElem?_eq_getElem eb]
  rw [ra, rb]
  exact List.set_set_perm ea eb
theorem turns_loop (x0 : List S52) (x2 : List S26) (ts : List Int) (ht : ts.length ≤ 2147483647) (hb : ∀ x ∈ ts, 0 ≤ x ∧ x ≤ 255) (h0 : x0.length ≤ 300) (h2 : x2.length ≤ 1000) (hs : shortPairs x2) (hm : ∀ m ∈ x0, plainM m) :
    ∀ (d i k : Nat) (x7 : List S52), i + d = ts.length → x7.Perm x0 → d + 401 ≤ k → laws_FnSortedSame.l0 k x0 x2 x7 ts (ts.length : Int) (i : Int) = some true := by
  intro d
  induction d with
  | zero =>
    intro i k x7 hi hp hk
    obtain ⟨k, rfl⟩ : ∃ j, k = j + 1 := ⟨k - 1, by omega⟩
    rw [laws_FnSortedSame.l0, if_neg (by omega)]
    exact sorted_end x0 x2 x7 hp h0 h2 hs hm k (by omega)
  | succ d ih =>
    intro i k x7 hi hp hk
    obtain ⟨k, rfl⟩ : ∃ j, k = j + 1 := ⟨k - 1, by omega⟩
    have hlt : (i : Int) < (ts.length : Int) := by omega
    have hlt' : i < ts.length := by omega
    have hl7 : x7.length = x0.length := hp.length_eq
    have hrd : rd ts (i : Int) = ts[i] := by simp [rd, List.getD_eq_getElem?_getD, List.getElem?_eq_getElem hlt']
    have hrb := hb ts[i] (List.getElem_mem hlt')
    rw [← hrd] at hrb
    have hw : wrap64 (rd ts (i : Int)) = rd ts (i : Int) := by
      generalize rd ts (i : Int) = z at hrb ⊢
      unfold wrap64
      omega
    rw [laws_FnSortedSame.l0, if_pos hlt, if_pos (Int.natCast_nonneg i), if_pos hlt, hw, wrapN i (by omega)]
    generalize rd ts (i : Int) = z at hrb ⊢
    by_cases hz : (x7.length : Int) > 0
    · have hn0 : ¬ (x7.length : Int) = 0 := by omega
      have a1 := tmod_in z (x7.length : Int) hrb.1 hz
      have b1 := tmod_in (i : Int) (x7.length : Int) (Int.natCast_nonneg i) hz
      rw [if_pos hz, if_neg hn0, if_pos a1.1, if_pos a1.2, if_pos b1.1, if_pos b1.2]
      exact ih (i + 1) k _ (by omega) ((swap_perm x7 _ _ b1 a1).trans hp) (by omega)
    · rw [if_neg hz]
      exact ih (i + 1) k x7 (by omega) hp (by omega)
theorem laws_FnSortedSame.pureB : ∀ (l0 : List S52) (l1 : List Int) (l2 : List S26), l0.length ≤ 9223372036854775807 → l1.length ≤ 9223372036854775807 → l2.length ≤ 9223372036854775807 → (∀ x ∈ l1, 0 ≤ x ∧ x ≤ 255) → ∃ k, laws_FnSortedSame.f k l0 l1 l2 = some true := by
  intro l0 l1 l2 h0 h1 h2 hb
  refine ⟨l0.length + l1.length + l2.length + 1000, ?_⟩
  generalize hK : l0.length + l1.length + l2.length + 1000 = K
  have jt : ∀ k, laws_FnSortedSame.j0 (k + 1) l0 l1 l2 true = some true := fun k => by rw [laws_FnSortedSame.j0, if_pos rfl]
  have jt1 : ∀ k, laws_FnSortedSame.j1 (k + 1) l0 l1 l2 true = some true := fun k => by rw [laws_FnSortedSame.j1, if_pos rfl]
  obtain ⟨K, rfl⟩ : ∃ j, K = j + 1 := ⟨K - 1, by omega⟩
  unfold laws_FnSortedSame.f
  rw [fits3_is l0 _ (by omega), Option.bind_some]
  cases f3 : fitsMs l0
  · exact jt K
  rw [if_pos rfl]
  by_cases ht : (l1.length : Int) > 2147483647
  · rw [if_pos ht]
    exact jt K
  rw [if_neg ht, fits1_is l2 _ (by omega), Option.bind_some]
  cases f1 : fitsPs l2
  · exact jt K
  have hs : shortPairs l2 := fun p hp => by
    unfold fitsPs at f1
    simp only [Bool.and_eq_true] at f1
    have := List.all_eq_true.1 f1.2 p hp
    unfold fitsP at this
    simp at this
    omega
  show laws_FnSortedSame.j0 (K + 1) l0 l1 l2 false = some true
  rw [laws_FnSortedSame.j0, if_neg (by decide)]
  have e1 : srtM [(⟨0, (⟨#[97]⟩ : ByteArray), (⟨#[]⟩ : ByteArray)⟩ : S52)] = [(⟨0, (⟨#[97]⟩ : ByteArray), (⟨#[]⟩ : ByteArray)⟩ : S52)] := by simp [srtM]
  rw [sorted_fS _ (by decide), Option.bind_some, e1, if_pos (by decide)]
  obtain ⟨K, rfl⟩ : ∃ j, K = j + 1 := ⟨K - 1, by omega⟩
  have et : laws_typed.f (K + 1) l0 = some (l0.all typeM && decide (l0.length ≤ 10000) && decide ((l0.length : Int) ≤ 2000)) := by
    unfold laws_typed.f
    rw [values_is l0 h0 _ (by omega), Option.bind_some]
    cases l0.all typeM && decide (l0.length ≤ 10000) <;> rfl
  rw [et, Option.bind_some]
  cases hty : (l0.all typeM && decide (l0.length ≤ 10000) && decide ((l0.length : Int) ≤ 2000))
  · rw [if_neg (by decide)]
    exact jt1 K
  rw [if_pos rfl]
  by_cases h300 : (l0.length : Int) > 300
  · rw [if_pos h300]
    exact jt1 K
  rw [if_neg h300]
  by_cases h1000 : (l2.length : Int) > 1000
  · rw [decide_eq_true h1000]
    exact jt1 K
  rw [decide_eq_false h1000, laws_FnSortedSame.j1, if_neg (by decide), Option.bind_some, if_pos (by simp; omega), List.nil_append]
  have hm : ∀ m ∈ l0, plainM m := fun m hm => by
    simp only [Bool.and_eq_true] at hty
    have a := List.all_eq_true.1 hty.1.1 m hm
    unfold fitsMs at f3
    simp only [Bool.and_eq_true] at f3
    have b := List.all_eq_true.1 f3.2 m hm
    unfold typeM at a
    unfold fitsM at b
    simp at a b
    exact ⟨a, by omega⟩
  exact turns_loop l0 l2 l1 (by omega) hb (by omega) (by omega) hs hm l1.length 0 K l0 (by omega) (List.Perm.refl _) (by omega)
end Go.Proofs.Ytikhlolhodgegaa.Q
