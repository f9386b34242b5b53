/- A set collected out of a map in any order is the set of the pairs that made the map. No condition. -/
import Derived.Test.YtikhlolhodgegaaULast
import Derived.Test.YtikhlolhodgegaaHMerge
set_option linter.unusedVariables false
set_option linter.unusedSimpArgs false
namespace Go.Proofs.Ytikhlolhodgegaa.Q
open Go.RowKit
theorem nm_pairAt (D : DataW Unit) (k : List UInt8) : nm (conv (pairAt D k)) = k := by simp [nm, conv, pairAt, byB]
theorem byB_nm (q : S59) : byB (nm q) = q.f0 := ba_eq q.f0
theorem conv_pairAt (a : List S26) (q : S59) (h : q ∈ setGo (a.map conv) []) : conv (pairAt (mset a) (nm q)) = q := by
  unfold pairAt conv
  simp only [byB_nm]
  rw [val_is a q h]
theorem lastP_keys (a : List S26) (ks : List (List UInt8)) (hp : ks.Perm (strKeys (mset a))) (n : List UInt8) : lastP ((ks.map (pairAt (mset a))).map conv) n = lastP (a.map conv) n := by
  have hk : ∀ k, k ∈ ks ↔ ∃ q ∈ setGo (a.map conv) [], nm q = k := fun k => by rw [hp.mem_iff, keys_is, List.mem_map]
  cases hl : lastP (a.map conv) n with
  | some q =>
    have hn := lastP_nm hl
    have hq : q ∈ setGo (a.map conv) [] := (mem_setGo_iff _ _).2 (by rw [hn]; exact hl)
    have hmem : conv (pairAt (mset a) n) ∈ (ks.map (pairAt (mset a))).map conv := List.mem_map_of_mem (List.mem_map_of_mem ((hk n).2 ⟨q, hq, hn⟩))
    cases hm : lastP ((ks.map (pairAt (mset a))).map conv) n with
    | none =>
      have := List.find?_eq_none.1 hm (conv (pairAt (mset a) n)) (List.mem_reverse.2 hmem)
      rw [nm_pairAt] at this
      simp at this
    | some m =>
      have hmn := lastP_nm hm
      have hmm := List.mem_reverse.1 (List.mem_of_find?_eq_some hm)
      obtain ⟨p, hp1, rfl⟩ := List.mem_map.1 hmm
      obtain ⟨k, _, rfl⟩ := List.mem_map.1 hp1
      rw [nm_pairAt] at hmn
      rw [hmn, ← hn, conv_pairAt a q hq]
  | none =>
    refine List.find?_eq_none.2 fun m hm => ?_
    obtain ⟨p, hp1, rfl⟩ := List.mem_map.1 (List.mem_reverse.1 hm)
    obtain ⟨k, hk1, rfl⟩ := List.mem_map.1 hp1
    rw [nm_pairAt]
    intro e
    have e' : k = n := by simpa using e
    obtain ⟨q, hq, hqn⟩ := (hk k).1 hk1
    have := (mem_setGo_iff _ _).1 hq
    rw [hqn, e', hl] at this
    cases this
/-- The merged set's list, whatever the orders. -/
theorem merged_is (a b : List S26) (k1 k2 : List (List UInt8)) (h1 : k1.Perm (strKeys (mset a))) (h2 : k2.Perm (strKeys (mset b))) :
    setGo ((k1.map (pairAt (mset a)) ++ k2.map (pairAt (mset b))).map conv) [] = setGo ((a ++ b).map conv) [] :=
  setGo_ext fun n => by rw [List.map_append, List.map_append, lastP_app, lastP_app, lastP_keys a k1 h1, lastP_keys b k2 h2]
def unconv (q : S59) : S26 := ⟨q.f0, q.f1⟩
theorem srtL_sorted (S : List S59) (h : SortedP S) : srtL (S.map nm) = S.map nm := by
  unfold srtL
  refine List.mergeSort_of_pairwise ?_
  rw [List.pairwise_map]
  exact List.Pairwise.imp (fun hab => by simp only [decide_eq_true_eq]; exact List.le_of_lt hab) h
/-- What sortedSet returns of the map that pairs make. -/
theorem sortedSet_is (l : List S26) (ks : List (List UInt8)) (h : ks.Perm (strKeys (mset l))) : (srt ks).map (pairOf (mset l)) = (setGo (l.map conv) []).map unconv := by
  have e : srtL ks = srtL (strKeys (mset l)) := mergeSort_of_perm h
  unfold srt
  rw [e, keys_is, srtL_sorted _ (setGo_sorted _), List.map_map, List.map_map]
  refine List.map_congr_left fun q hq => ?_
  show pairOf (mset l) (byB (nm q)) = unconv q
  unfold pairOf unconv
  rw [byB_nm, val_is l q hq]
end Go.Proofs.Ytikhlolhodgegaa.Q
