/- The fast fingerprint of a set of labels is the documentation's: the law FnFastPrintSays over the functions that the program comes to, for every input. No condition. -/
import Derived.Test.YtbcijcmmpbkkbaaUFits
import Derived.Test.YtbcijcmmpbkkbaaUPairs
import Derived.Test.YtbcijcmmpbkkbaaQlawsFnFastPrintSays
namespace Go.Proofs.Ytbcijcmmpbkkbaa.Q
open Go.RowKit Go.Proofs.YtbcijcmmpbkkbaaW.PrintWords Go.Proofs.YtbcijcmmpbkkbaaW.PrintLast Go.Proofs.YtbcijcmmpbkkbaaW.PrintMore
theorem rd_nat28 (l : List S28) (n : Nat) (h : n < l.length) : rd_T28 l (n : Int) = l[n] := by simp [rd_T28, List.getD_eq_getElem?_getD, List.getElem?_eq_getElem h]
def hashQ (q : S28) : Int := fnvS (fnvB (fnvS 14695981039346656037 q.f0) 255) q.f1
theorem says_from (S : List S28) (K : Nat) (hK : K ≤ 9223372036854775807) (hl : S.length ≤ 9223372036854775807) (hs : ∀ q ∈ S, q.f0.size < K ∧ q.f1.size < K) (d : Nat) : ∀ (n k : Nat) (r : Int), n + d = S.length → d + K + 1 < k →
    spec_SetFastPrint.l0 k S r (S.length : Int) n = some ((S.drop n).foldl (fun r q => Go.bits .xor .u64 r (hashQ q)) r) := by
  induction d with
  | zero =>
    intro n k r hn hk
    obtain ⟨k, rfl⟩ : ∃ m, k = m + 1 := ⟨k - 1, by omega⟩
    simp only [spec_SetFastPrint.l0]
    rw [if_neg (by omega), List.drop_of_length_le (by omega)]
    rfl
  | succ d ih =>
    intro n k r hn hk
    obtain ⟨k, rfl⟩ : ∃ m, k = m + 1 := ⟨k - 1, by omega⟩
    have hlt : n < S.length := by omega
    have hq := hs _ (List.getElem_mem hlt)
    have e2 : wrap64 ((n : Int) + 1) = ((n + 1 : Nat) : Int) := by unfold wrap64; omega
    simp only [spec_SetFastPrint.l0]
    have e3 : (⟨#[255]⟩ : ByteArray).size = 1 := rfl
    rw [if_pos (by omega), if_pos (by omega), if_pos (by omega), rd_nat28 S n hlt, fnv_is k _ _ (by omega) (by omega)]
    simp only [Option.bind_some]
    rw [fnv_is k _ _ (by rw [e3]; omega) (by rw [e3]; omega), fnv_sep]
    simp only [Option.bind_some]
    rw [fnv_is k _ _ (by omega) (by omega)]
    simp only [Option.bind_some]
    rw [e2, ih (n + 1) k _ (by omega) (by omega), List.drop_eq_getElem_cons hlt]
    rfl
theorem fast_sum (l : List S26) : fastX (mset l) (strKeys (mset l)) = (setGo (l.map conv) []).foldl (fun r q => Go.bits .xor .u64 r (hashQ q)) 0 := by
  rw [keys_is]
  unfold fastX
  rw [List.foldl_map]
  have : ∀ (X : List S28) (r : Int), (∀ q ∈ X, q ∈ setGo (l.map conv) []) → X.foldl (fun r q => Go.bits .xor .u64 r (fastH (mset l) (nm q))) r = X.foldl (fun r q => Go.bits .xor .u64 r (hashQ q)) r := by
    intro X
    induction X with
    | nil => intros; rfl
    | cons a X ih =>
      intro r h
      have e : fastH (mset l) (nm a) = hashQ a := by
        unfold fastH hashQ
        have e0 : ofL (nm a) = a.f0 := ba_eq a.f0
        rw [e0, val_is l a (h a (by simp))]
      rw [List.foldl_cons, List.foldl_cons, e]
      exact ih _ (fun q hq => h q (by simp [hq]))
  exact this _ 0 (fun q hq => hq)
theorem fast_is {l : List S26} (hl : l.length ≤ 10000000000) (hs : shortPairs l) : impl_SetFastPrint.f l = some (if (setGo (l.map conv) []).length = 0 then 14695981039346656037 else (setGo (l.map conv) []).foldl (fun r q => Go.bits .xor .u64 r (hashQ q)) 0) := by
  unfold impl_SetFastPrint.f
  rw [if_pos ⟨hl, hs⟩]
  unfold fastV
  rw [size_is, fast_sum]
theorem shortOf {l : List S26} (h : fitsPs l = true) : shortPairs l := by
  simp [fitsPs, fitsP] at h
  intro p hp
  have := h.2 p hp
  omega
theorem fast_nil : impl_SetFastPrint.f ([] : List S26) = some 14695981039346656037 := fast_is (by simp) (by simp [shortPairs])
theorem fast_one : ∃ r, impl_SetFastPrint.f ([⟨⟨#[97]⟩, ⟨#[]⟩⟩] : List S26) = some r ∧ ¬ r = 14695981039346656037 := by
  refine ⟨_, fast_is (by simp) (by intro p hp; rw [List.mem_singleton.1 hp]; decide), ?_⟩
  have e : setGo (([⟨⟨#[97]⟩, ⟨#[]⟩⟩] : List S26).map conv) [] = [⟨⟨#[97]⟩, ⟨#[]⟩⟩] := rfl
  rw [e]
  decide
theorem laws_FnFastPrintSays.pure : ∀ (l0 : List S26), l0.length ≤ 9223372036854775807 → ∃ k, laws_FnFastPrintSays.f k l0 = some true := by
  intro l hl
  refine ⟨l.length + 2147483648 + 2147483648, ?_⟩
  unfold laws_FnFastPrintSays.f
  rw [fits1_is l _ (by omega)]
  simp only [Option.bind_some]
  cases hf : fitsPs l
  · rw [if_neg (by simp)]
  · rw [if_pos rfl, fast_nil]
    obtain ⟨r1, e1, n1⟩ := fast_one
    rw [e1]
    simp only [Option.bind_some]
    rw [if_neg n1]
    unfold laws_much.f
    simp only [Option.bind_some]
    have hsz : ∀ q ∈ setGo (l.map conv) [], q.f0.size < 2147483648 ∧ q.f1.size < 2147483648 := by
      intro q hq
      rcases mem_setGo _ _ _ hq with h | h
      · obtain ⟨p, hp, rfl⟩ := List.mem_map.1 h
        simp [fitsPs, fitsP] at hf
        have := hf.2 p hp
        simp only [conv]
        omega
      · simp at h
    by_cases hm : (l.length : Int) > 300
    · rw [if_pos (decide_eq_true hm)]
    · rw [if_neg (by simpa using hm), fast_is (by omega) (shortOf hf), pairs_is l (by omega) _ (by omega)]
      simp only [Option.bind_some]
      unfold spec_SetFastPrint.f
      have hlen : (l.map conv).length ≤ 10000000000 := by simp; omega
      rw [show spec_Set.f (l.map conv) = some (setGo (l.map conv) []) from if_pos hlen]
      simp only [Option.bind_some]
      by_cases hz : (setGo (l.map conv) []).length = 0
      · rw [if_pos hz, if_pos (by omega)]
        simp
      · rw [if_neg hz, if_neg (by omega)]
        have := says_from (setGo (l.map conv) []) 2147483648 (by omega) (by
            have := Sset_len (l.map conv) []
            simp at this; omega) hsz (setGo (l.map conv) []).length 0 (l.length + 2147483648 + 2147483648) 0 (by omega) (by
            have := Sset_len (l.map conv) []
            simp at this; omega)
        simp only [Int.natCast_zero, Int.cast_ofNat_Int, List.drop_zero] at this
        rw [this]
        simp
end Go.Proofs.Ytbcijcmmpbkkbaa.Q
