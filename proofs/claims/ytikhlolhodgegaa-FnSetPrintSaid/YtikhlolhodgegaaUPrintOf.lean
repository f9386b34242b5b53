/- The laws' own fingerprint and the documentation's, as one fold over the labels. No condition beyond the sizes named. -/
import Derived.Test.YtikhlolhodgegaaULoops
import Derived.Test.YtikhlolhodgegaaUPairs
import Derived.Test.YtikhlolhodgegaaHPrints
import Derived.Test.YtikhlolhodgegaaQlawsprintOf
import Derived.Test.YtikhlolhodgegaaQspecSetPrint
set_option linter.unusedVariables false
set_option linter.unusedSimpArgs false
namespace Go.Proofs.Ytikhlolhodgegaa.Q
open Go.RowKit Go.Proofs.YtikhlolhodgegaaW.PrintWords Go.Proofs.YtikhlolhodgegaaW.PrintLast Go.Proofs.YtikhlolhodgegaaW.PrintMore
def stepQ (h : Int) (q : S59) : Int := fnvB (fnvS (fnvB (fnvS h q.f0) 255) q.f1) 255
def printQ (X : List S59) : Int := X.foldl stepQ 14695981039346656037
theorem printV_is (X : List S59) : printV (X.map unconv) = printQ X := by
  unfold printV printQ
  rw [List.foldl_map]
  rfl
theorem rdP_natSP (l : List S59) (n : Nat) (h : n < l.length) : rd_T59 l (n : Int) = l[n] := by simp [rd_T59, List.getD_eq_getElem?_getD, List.getElem?_eq_getElem h]
theorem hashed_from (s : ByteArray) (hs : s.size ≤ 9223372036854775807) (d : Nat) : ∀ (n k : Nat) (h : Int), n + d = s.size → d < k → laws_hashed.l0 k h s n = some (fnvL h (s.data.toList.drop n)) := by
  induction d with
  | zero =>
    intro n k h hn hk
    obtain ⟨k, rfl⟩ : ∃ m, k = m + 1 := ⟨k - 1, by omega⟩
    simp only [laws_hashed.l0]
    rw [if_neg (by omega), List.drop_of_length_le (by simp; omega)]
    rfl
  | succ d ih =>
    intro n k h hn hk
    obtain ⟨k, rfl⟩ : ∃ m, k = m + 1 := ⟨k - 1, by omega⟩
    simp only [laws_hashed.l0]
    rw [if_pos (by omega), if_pos (by omega), wrapN n (by omega), ih (n + 1) k _ (by omega) (by omega), bt_list s n (by omega), bt_nat' s n (by omega)]
    rfl
theorem hashed_is (k : Nat) (h : Int) (s : ByteArray) (hs : s.size ≤ 9223372036854775807) (hk : s.size < k) : laws_hashed.f k h s = some (fnvS h s) := by
  have := hashed_from s hs s.size 0 k h (by omega) hk
  simpa [laws_hashed.f, fnvS] using this
theorem sep_size : (⟨#[255]⟩ : ByteArray).size = 1 := rfl
theorem printOf_from (X : List S59) (B : Nat) (hX : X.length ≤ 1000000000) (hB : B ≤ 4611686018427387904) (hs : ∀ q ∈ X, q.f0.size ≤ B ∧ q.f1.size ≤ B) (d : Nat) : ∀ (n k : Nat) (h : Int), n + d = X.length → d + B + 2 < k →
    laws_printOf.l0 k h X (X.length : Int) n = some ((X.drop n).foldl stepQ h) := by
  induction d with
  | zero =>
    intro n k h hn hk
    obtain ⟨k, rfl⟩ : ∃ m, k = m + 1 := ⟨k - 1, by omega⟩
    simp only [laws_printOf.l0]
    rw [if_neg (by omega), List.drop_of_length_le (by omega)]
    rfl
  | succ d ih =>
    intro n k h hn hk
    obtain ⟨k, rfl⟩ : ∃ m, k = m + 1 := ⟨k - 1, by omega⟩
    have hlt : n < X.length := by omega
    have hq := hs X[n] (List.getElem_mem hlt)
    have e := sep_size
    rw [laws_printOf.l0, if_pos (by omega), if_pos (by omega), if_pos (by omega), rdP_natSP X n hlt, hashed_is k _ _ (by omega) (by omega)]
    simp only [Option.bind_some]
    rw [hashed_is k _ _ (by omega) (by omega), fnv_sep]
    simp only [Option.bind_some]
    rw [hashed_is k _ _ (by omega) (by omega)]
    simp only [Option.bind_some]
    rw [hashed_is k _ _ (by omega) (by omega), fnv_sep]
    simp only [Option.bind_some]
    rw [wrapN n (by omega), ih (n + 1) k _ (by omega) (by omega), List.drop_eq_getElem_cons hlt]
    rfl
theorem specPrint_from (X : List S59) (B : Nat) (hX : X.length ≤ 1000000000) (hB : B ≤ 4611686018427387904) (hs : ∀ q ∈ X, q.f0.size ≤ B ∧ q.f1.size ≤ B) (d : Nat) : ∀ (n k : Nat) (h : Int), n + d = X.length → d + B + 2 < k →
    spec_SetPrint.l0 k h X (X.length : Int) n = some ((X.drop n).foldl stepQ h) := by
  induction d with
  | zero =>
    intro n k h hn hk
    obtain ⟨k, rfl⟩ : ∃ m, k = m + 1 := ⟨k - 1, by omega⟩
    simp only [spec_SetPrint.l0]
    rw [if_neg (by omega), List.drop_of_length_le (by omega)]
    rfl
  | succ d ih =>
    intro n k h hn hk
    obtain ⟨k, rfl⟩ : ∃ m, k = m + 1 := ⟨k - 1, by omega⟩
    have hlt : n < X.length := by omega
    have hq := hs X[n] (List.getElem_mem hlt)
    have e := sep_size
    rw [spec_SetPrint.l0, if_pos (by omega), if_pos (by omega), if_pos (by omega), rdP_natSP X n hlt, spec_summed.f, fnv_is k _ _ (by omega) (by omega)]
    simp only [Option.bind_some]
    rw [fnv_is k _ _ (by omega) (by omega), fnv_sep]
    simp only [Option.bind_some]
    rw [fnv_is k _ _ (by omega) (by omega)]
    simp only [Option.bind_some]
    rw [fnv_is k _ _ (by omega) (by omega), fnv_sep]
    simp only [Option.bind_some]
    rw [wrapN n (by omega), ih (n + 1) k _ (by omega) (by omega), List.drop_eq_getElem_cons hlt]
    rfl
theorem set_mem {l : List S59} {q : S59} (h : q ∈ setGo l []) : q ∈ l := List.mem_reverse.1 (List.mem_of_find?_eq_some ((mem_setGo_iff _ _).1 h))
theorem printOf_is (l : List S26) (B : Nat) (hl : l.length ≤ 1000000000) (hB : B ≤ 4611686018427387904) (hs : ∀ p ∈ l, p.f0.size ≤ B ∧ p.f1.size ≤ B) (k : Nat) (hk : l.length + B + 2 < k) : laws_printOf.f k l = some (printQ (setGo (l.map conv) [])) := by
  have hlen := Sset_len (l.map conv) []
  simp at hlen
  have hsX : ∀ q ∈ setGo (l.map conv) [], q.f0.size ≤ B ∧ q.f1.size ≤ B := fun q hq => by
    obtain ⟨p, hp, rfl⟩ := List.mem_map.1 (set_mem hq)
    exact hs p hp
  have e : spec_Set.f (l.map conv) = some (setGo (l.map conv) []) := if_pos (by simp; omega)
  unfold laws_printOf.f
  rw [pairs_is l (by omega) k (by omega)]
  simp only [Option.bind_some]
  rw [e]
  simp only [Option.bind_some]
  have := printOf_from (setGo (l.map conv) []) B (by omega) hB hsX (setGo (l.map conv) []).length 0 k 14695981039346656037 (by omega) (by omega)
  rw [List.drop_zero] at this
  exact this
theorem specPrint_is (l : List S59) (B : Nat) (hl : l.length ≤ 1000000000) (hB : B ≤ 4611686018427387904) (hs : ∀ p ∈ l, p.f0.size ≤ B ∧ p.f1.size ≤ B) (k : Nat) (hk : l.length + B + 2 < k) : spec_SetPrint.f k l = some (printQ (setGo l [])) := by
  have hlen := Sset_len l []
  simp at hlen
  have e : spec_Set.f l = some (setGo l []) := if_pos (by omega)
  unfold spec_SetPrint.f
  rw [e]
  simp only [Option.bind_some]
  have := specPrint_from (setGo l []) B (by omega) hB (fun q hq => hs q (set_mem hq)) (setGo l []).length 0 k 14695981039346656037 (by omega) (by omega)
  rw [List.drop_zero] at this
  exact this
end Go.Proofs.Ytikhlolhodgegaa.Q
