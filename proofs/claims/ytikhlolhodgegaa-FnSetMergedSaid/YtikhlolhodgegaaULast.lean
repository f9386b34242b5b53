/- A set of labels is told by the last label of each name. No condition. -/
import Derived.Test.YtikhlolhodgegaaUMset
set_option linter.unusedVariables false
set_option linter.unusedSimpArgs false
namespace Go.Proofs.Ytikhlolhodgegaa.Q
open Go.RowKit
def lastP (l : List S59) (n : List UInt8) : Option S59 := l.reverse.find? (fun q => nm q == n)
theorem lastP_snoc (l : List S59) (p : S59) (n : List UInt8) : lastP (l ++ [p]) n = if nm p = n then some p else lastP l n := by
  unfold lastP
  rw [List.reverse_append]
  show List.find? _ (p :: l.reverse) = _
  rw [List.find?_cons]
  by_cases h : nm p = n
  · rw [if_pos h, beq_iff_eq.2 h]
  · rw [if_neg h, beq_eq_false_iff_ne.2 h]
theorem lastP_app (l r : List S59) (n : List UInt8) : lastP (l ++ r) n = (lastP r n).or (lastP l n) := by
  unfold lastP
  rw [List.reverse_append, List.find?_append]
theorem mem_insF (p q : S59) (X : List S59) : q ∈ insF p X ↔ q = p ∨ q ∈ X := by
  unfold insF
  simp only [List.mem_append, List.mem_filter, List.mem_singleton]
  constructor
  · rintro ((⟨h, _⟩ | h) | ⟨h, _⟩)
    · exact .inr h
    · exact .inl h
    · exact .inr h
  · rintro (h | h)
    · exact .inl (.inr h)
    · cases hl : ltP q p
      · exact .inr ⟨h, by simp⟩
      · exact .inl (.inl ⟨h, rfl⟩)
theorem mem_fold (q : S59) : ∀ l : List S59, q ∈ l.reverse.foldl putP [] ↔ lastP l.reverse (nm q) = some q
  | [] => by simp [lastP]
  | p :: l => by
    rw [List.reverse_cons, List.foldl_append, List.foldl_cons, List.foldl_nil, lastP_snoc]
    unfold putP
    rw [mem_insF, List.mem_filter, neP_iff]
    by_cases h : nm p = nm q
    · rw [if_pos h]
      constructor
      · rintro (h1 | ⟨_, h1⟩)
        · rw [h1]
        · exact absurd h.symm h1
      · intro h1; exact .inl (Option.some.inj h1).symm
    · rw [if_neg h, ← mem_fold q l]
      constructor
      · rintro (h1 | ⟨h1, _⟩)
        · exact absurd (by rw [h1]) h
        · exact h1
      · intro h1; exact .inr ⟨h1, fun e => h e.symm⟩
theorem mem_setGo_iff (l : List S59) (q : S59) : q ∈ setGo l [] ↔ lastP l (nm q) = some q := by
  rw [setGo_is]
  have := mem_fold q l.reverse
  rwa [List.reverse_reverse] at this
theorem sorted_nodup {X : List S59} (h : SortedP X) : X.Nodup := List.Pairwise.imp (fun hab e => by rw [e] at hab; exact List.lt_irrefl _ hab) h
theorem sorted_ext {X Y : List S59} (hX : SortedP X) (hY : SortedP Y) (h : ∀ q, q ∈ X ↔ q ∈ Y) : X = Y :=
  List.Perm.eq_of_pairwise (le := fun a b => nm a < nm b) (fun a b _ _ h1 h2 => absurd (lt_trS h1 h2) (List.lt_irrefl _)) hX hY ((List.perm_ext_iff_of_nodup (sorted_nodup hX) (sorted_nodup hY)).2 h)
theorem setGo_ext {l r : List S59} (h : ∀ n, lastP l n = lastP r n) : setGo l [] = setGo r [] :=
  sorted_ext (setGo_sorted l) (setGo_sorted r) (fun q => by rw [mem_setGo_iff, mem_setGo_iff, h])
theorem lastP_nm {l : List S59} {n : List UInt8} {q : S59} (h : lastP l n = some q) : nm q = n := by
  have := List.find?_some h
  simpa using this
end Go.Proofs.Ytikhlolhodgegaa.Q
