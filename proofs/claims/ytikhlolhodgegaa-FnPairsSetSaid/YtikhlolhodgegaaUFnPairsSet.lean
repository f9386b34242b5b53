/- The law FnPairsSet over the functions that the program comes to, for every input: each name of a set stands once among its labels, with the value that came last. No condition. -/
import Derived.Test.YtikhlolhodgegaaHPairsSetC
set_option linter.unusedVariables false
set_option linter.unusedSimpArgs false
namespace Go.Proofs.Ytikhlolhodgegaa.Q
open Go.RowKit Go.Proofs.YtikhlolhodgegaaW.PrintWords Go.Proofs.YtikhlolhodgegaaW.PrintLast Go.Proofs.YtikhlolhodgegaaW.PrintMore
theorem rdSP_nat (l : List S59) (n : Nat) (h : n < l.length) : rd_T59 l (n : Int) = l[n] := by simp [rd_T59, List.getD_eq_getElem?_getD, List.getElem?_eq_getElem h]
theorem has_fromP (l : List S59) (hl : l.length ≤ 1000000) (nme : ByteArray) : ∀ (d n k : Nat), n + d = l.length → d < k → (∃ q ∈ l.drop n, q.f0.toList = nme.toList) → spec_Has.l0 k l nme (l.length : Int) (n : Int) = some true
  | 0, n, k, hn, hk, h => by
    obtain ⟨q, hq, _⟩ := h
    rw [List.drop_of_length_le (by omega)] at hq
    cases hq
  | d + 1, n, k, hn, hk, h => by
    obtain ⟨k, rfl⟩ : ∃ m, k = m + 1 := ⟨k - 1, by omega⟩
    have hlt : n < l.length := by omega
    rw [spec_Has.l0, if_pos (by omega), if_pos (by omega), if_pos (by omega), rdSP_nat l n hlt]
    by_cases hc : l[n].f0.toList = nme.toList
    · rw [if_pos hc]
    · rw [if_neg hc, wrapN n (by omega)]
      refine has_fromP l hl nme d (n + 1) k (by omega) (by omega) ?_
      obtain ⟨q, hq, he⟩ := h
      rw [List.drop_eq_getElem_cons hlt] at hq
      rcases List.mem_cons.1 hq with e | hq
      · rw [e] at he; exact absurd he hc
      · exact ⟨q, hq, he⟩
theorem has_isP (l : List S59) (hl : l.length ≤ 1000000) (nme : ByteArray) (k : Nat) (hk : l.length < k) (h : ∃ q ∈ l, q.f0.toList = nme.toList) : spec_Has.f k l nme = some true :=
  has_fromP l hl nme l.length 0 k (by omega) hk (by simpa using h)
def valQ : Option S59 → ByteArray → ByteArray
  | some q, _ => q.f1
  | none, v => v
theorem nm_iff (q : S59) (nme : ByteArray) : (nm q == nme.data.toList) = decide (q.f0.toList = nme.toList) := by
  unfold nm
  rw [ByteArray.toList_eq, ByteArray.toList_eq]
  by_cases h : q.f0.data.toList = nme.data.toList
  · rw [h]; simp
  · rw [decide_eq_false h]; exact beq_eq_false_iff_ne.2 h
theorem lastP_cons (a : S59) (l : List S59) (n : List UInt8) : lastP (a :: l) n = (lastP l n).or (if nm a = n then some a else none) := by
  have h : a :: l = [a] ++ l := rfl
  rw [h, lastP_app]
  congr 1
  unfold lastP
  by_cases e : nm a = n
  · simp [e]
  · simp [e]
theorem value_fromP (l : List S59) (hl : l.length ≤ 1000000) (nme : ByteArray) : ∀ (d n k : Nat) (v : ByteArray), n + d = l.length → d < k → spec_Value.l0 k l nme v (l.length : Int) (n : Int) = some (valQ (lastP (l.drop n) nme.data.toList) v)
  | 0, n, k, v, hn, hk => by
    obtain ⟨k, rfl⟩ : ∃ m, k = m + 1 := ⟨k - 1, by omega⟩
    rw [spec_Value.l0, if_neg (by omega), List.drop_of_length_le (by omega)]
    rfl
  | d + 1, n, k, v, hn, hk => by
    obtain ⟨k, rfl⟩ : ∃ m, k = m + 1 := ⟨k - 1, by omega⟩
    have hlt : n < l.length := by omega
    have ih := fun v => value_fromP l hl nme d (n + 1) k v (by omega) (by omega)
    have hn1 := nm_iff l[n] nme
    rw [spec_Value.l0, if_pos (by omega), if_pos (by omega), if_pos (by omega), rdSP_nat l n hlt, wrapN n (by omega), ih, ih, List.drop_eq_getElem_cons hlt, lastP_cons]
    by_cases hc : l[n].f0.toList = nme.toList
    · rw [decide_eq_true hc] at hn1
      rw [if_pos hc, if_pos (beq_iff_eq.1 hn1)]
      cases lastP (l.drop (n + 1)) nme.data.toList <;> rfl
    · rw [decide_eq_false hc] at hn1
      rw [if_neg hc, if_neg (beq_eq_false_iff_ne.1 hn1)]
      cases lastP (l.drop (n + 1)) nme.data.toList <;> rfl
theorem value_isP (l : List S59) (hl : l.length ≤ 1000000) (nme : ByteArray) (k : Nat) (hk : l.length < k) (q : S59) (h : lastP l nme.data.toList = some q) : spec_Value.f k l nme = some q.f1 := by
  unfold spec_Value.f
  have := value_fromP l hl nme l.length 0 k ⟨#[]⟩ (by omega) hk
  rw [List.drop_zero, h] at this
  exact this
theorem kvOrd_permP (X : List S59) : (kvOrd X).Perm X := by
  unfold kvOrd
  exact List.filter_append_perm isAN X
theorem kv_mem {l : List S26} {p : S26} (h : p ∈ kvO l) : lastP (l.map conv) p.f0.data.toList = some (conv p) := by
  unfold kvO at h
  obtain ⟨q, hq, rfl⟩ := List.mem_map.1 h
  have hs := (kvOrd_permP (setGo (l.map conv) [])).mem_iff.1 hq
  exact (mem_setGo_iff _ _).1 hs
theorem kv_apart (l : List S26) : (kvO l).Pairwise (fun a b => a.f0.data.toList ≠ b.f0.data.toList) := by
  unfold kvO
  rw [List.pairwise_map]
  have h1 : (setGo (l.map conv) []).Pairwise (fun a b => nm a ≠ nm b) := List.Pairwise.imp (fun {a b} hab => show nm a ≠ nm b from fun e => by
    have hab : nm a < nm b := hab
    rw [e] at hab
    exact List.lt_irrefl _ hab) (setGo_sorted (l.map conv))
  exact (List.Perm.pairwise_iff (fun {a b} h e => h e.symm) (kvOrd_permP (setGo (l.map conv) []))).2 h1
theorem kv_back {l : List S26} {p : S26} (h : p ∈ l) : ∃ q ∈ (kvO l).map conv, q.f0.data.toList = p.f0.data.toList := by
  have hex : ∃ q, lastP (l.map conv) (nm (conv p)) = some q := by
    unfold lastP
    have : ((l.map conv).reverse.find? (fun q => nm q == nm (conv p))).isSome = true := by
      rw [List.find?_isSome]
      exact ⟨conv p, List.mem_reverse.2 (List.mem_map.2 ⟨p, h, rfl⟩), by simp⟩
    exact Option.isSome_iff_exists.1 this
  obtain ⟨q, hq⟩ := hex
  have hn := lastP_nm hq
  have hs : q ∈ setGo (l.map conv) [] := (mem_setGo_iff _ _).2 (by rw [hn]; exact hq)
  have hk := (kvOrd_permP (setGo (l.map conv) [])).mem_iff.2 hs
  refine ⟨q, ?_, hn⟩
  unfold kvO
  rw [conv_unconv]
  exact hk
theorem sp_one : impl_SortedPairs.f oneAB = some (kvO oneAB) := if_pos ⟨by decide, fun p hp => by
  obtain rfl := List.mem_singleton.1 hp
  exact ⟨by decide, by decide⟩⟩
theorem kv_one : (kvO oneAB).length = 1 := by
  unfold kvO
  rw [List.length_map, kvOrd_len]
  have h1 : (setGo (oneAB.map conv) []).length ≤ 1 := by have := Sset_len (oneAB.map conv) []; simpa [oneAB] using this
  have h2 : setGo (oneAB.map conv) [] ≠ [] := fun e => by
    have := (mem_setGo_iff (oneAB.map conv) (conv ⟨⟨#[97]⟩, ⟨#[98]⟩⟩)).2 (by simp [oneAB, lastP])
    rw [e] at this
    cases this
  cases hc : setGo (oneAB.map conv) [] with
  | nil => exact absurd hc h2
  | cons a t => rw [hc] at h1; simp at h1 ⊢; exact h1
theorem laws_FnPairsSet.pure : ∀ (l0 : List S26), l0.length ≤ 9223372036854775807 → laws_FnPairsSet.f l0 = some true := by
  intro l0 _
  unfold laws_FnPairsSet.f
  by_cases hb : fitsPs l0 = false ∨ 300 < l0.length
  · rw [if_pos ⟨hb, _, sp_one, kv_one⟩]
  · rw [if_neg (fun h => hb h.1)]
    have hf : fitsPs l0 = true := by
      cases h : fitsPs l0
      · exact absurd (Or.inl h) hb
      · rfl
    have hl : l0.length ≤ 300 := by
      rcases Nat.lt_or_ge 300 l0.length with h | h
      · exact absurd (Or.inr h) hb
      · exact h
    have hs : shortPairs l0 := fun p hp => by
      unfold fitsPs at hf
      simp only [Bool.and_eq_true] at hf
      have := List.all_eq_true.1 hf.2 p hp
      unfold fitsP at this
      simp at this
      omega
    have hkl := kvO_len l0
    have hm : ∀ (s : List S26) (i : Int), 0 ≤ i → i < s.length → ∃ h : i.toNat < s.length, rd_T26 s i = s[i.toNat] := fun s i h0 h1 => ⟨by omega, by
      have h : i.toNat < s.length := by omega
      simp [rd_T26, List.getD_eq_getElem?_getD, List.getElem?_eq_getElem h]⟩
    refine if_pos ⟨1000, kvO l0, kvO oneAB, l0.map conv, (kvO l0).map conv, ?_⟩
    refine ⟨by rw [fits1_is l0 _ (by omega), hf], sp_one, kv_one, by unfold laws_much.f; rw [decide_eq_false (by omega)], if_pos ⟨by omega, hs⟩, pairs_is l0 (by omega) _ (by omega), pairs_is (kvO l0) (by omega) _ (by omega), ?_, ?_, ?_, ?_, ⟨by omega, hl⟩⟩
    · intro i h0 h1
      obtain ⟨h, e⟩ := hm (kvO l0) i h0 h1
      rw [e]
      have := kv_mem (List.getElem_mem h)
      have h3 := List.mem_of_find?_eq_some this
      exact has_isP _ (by rw [List.length_map]; omega) _ _ (by rw [List.length_map]; omega) ⟨_, List.mem_reverse.1 h3, rfl⟩
    · intro i h0 h1
      obtain ⟨h, e⟩ := hm (kvO l0) i h0 h1
      rw [e]
      exact value_isP _ (by rw [List.length_map]; omega) _ _ (by rw [List.length_map]; omega) _ (kv_mem (List.getElem_mem h))
    · intro i j h0 h1 h2
      obtain ⟨hi, ei⟩ := hm (kvO l0) i (by omega) h2
      obtain ⟨hj, ej⟩ := hm (kvO l0) j h0 (by omega)
      rw [ei, ej]
      have := (List.pairwise_iff_getElem.1 (kv_apart l0)) j.toNat i.toNat hj hi (by omega)
      rw [ByteArray.toList_eq, ByteArray.toList_eq]
      exact beq_eq_false_iff_ne.2 this
    · intro i h0 h1
      obtain ⟨h, e⟩ := hm l0 i h0 h1
      rw [e]
      obtain ⟨q, hq, he⟩ := kv_back (List.getElem_mem h)
      exact has_isP _ (by rw [List.length_map]; omega) _ _ (by rw [List.length_map]; omega) ⟨q, hq, by rw [ByteArray.toList_eq, ByteArray.toList_eq]; exact he⟩
end Go.Proofs.Ytikhlolhodgegaa.Q
