/- The list of a set is its own set. No condition. -/
import Derived.Test.YtikhlolhodgegaaHSetMerge
set_option linter.unusedVariables false
set_option linter.unusedSimpArgs false
namespace Go.Proofs.Ytikhlolhodgegaa.Q
open Go.RowKit
theorem sorted_inj {X : List S59} (h : SortedP X) : ∀ {p q : S59}, p ∈ X → q ∈ X → nm p = nm q → p = q := by
  induction X with
  | nil => intro p q hp; simp at hp
  | cons a X ih =>
    have h' := List.pairwise_cons.1 h
    intro p q hp hq e
    rcases List.mem_cons.1 hp with hp | hp <;> rcases List.mem_cons.1 hq with hq | hq
    · rw [hp, hq]
    · have := h'.1 q hq
      rw [← hp, e] at this
      exact absurd this (List.lt_irrefl _)
    · have := h'.1 p hp
      rw [← hq, e] at this
      exact absurd this (List.lt_irrefl _)
    · exact ih h'.2 hp hq e
theorem lastP_sorted {X : List S59} (h : SortedP X) (q : S59) : lastP X (nm q) = some q ↔ q ∈ X := by
  constructor
  · intro hl
    exact List.mem_reverse.1 (List.mem_of_find?_eq_some hl)
  · intro hq
    cases hm : lastP X (nm q) with
    | none =>
      have := List.find?_eq_none.1 hm q (List.mem_reverse.2 hq)
      simp at this
    | some m => rw [sorted_inj h (List.mem_reverse.1 (List.mem_of_find?_eq_some hm)) hq (lastP_nm hm)]
theorem setGo_idem (X : List S59) (h : SortedP X) : setGo X [] = X :=
  sorted_ext (setGo_sorted X) h (fun q => by rw [mem_setGo_iff, lastP_sorted h])
theorem conv_unconv (X : List S59) : (X.map unconv).map conv = X := by
  rw [List.map_map]
  exact (List.map_congr_left (fun q _ => rfl)).trans (List.map_id X)
theorem merged_set (a b : List S26) : setGo ((mergedL a b).map conv) [] = setGo ((a ++ b).map conv) [] := by
  unfold mergedL
  rw [conv_unconv, setGo_idem _ (setGo_sorted _)]
end Go.Proofs.Ytikhlolhodgegaa.Q
