/- What impl.Escape returns: a name by none, underscores, dots and values, at every text of at most 1000000 bytes. Condition: one cell of the table that math/bits.TrailingZeros64 reads. -/
import Derived.Test.YtkbaihcamimnjaaDoorHLegM
import Derived.Test.YtkbaihcamimnjaaDoorHHex
import Derived.Test.YtkbaihcamimnjaaDoorHBldR
import Derived.Test.YtkbaihcamimnjaaDoorHBldS
import Derived.Test.YtkbaihcamimnjaaDoorHSBuild
import Derived.Test.YtkbaihcamimnjaaDoorQutf8ValidRune
set_option linter.unusedVariables false
set_option linter.unusedSimpArgs false
namespace Go.Proofs.YtkbaihcamimnjaaDoor.Q
open Go.RowKit Go.Lib Go.Proofs.YtkbaihcamimnjaaDoorW.PrintWords Go.Proofs.YtkbaihcamimnjaaDoorW.PrintLast Go.Proofs.YtkbaihcamimnjaaDoorW.PrintMore
attribute [local go_sem] max2_int min2_int max_two min_two max_three min_three max_four min_four
theorem decode_wide (s : ByteArray) (pos : Nat) : 1 ≤ (Utf8.decode s pos).2 := by
  unfold Utf8.decode
  dsimp only
  (repeat' split) <;> simp
/-- What is written for a character at a place. -/
def escOne (k c i : Nat) : List UInt8 :=
  if k = 1 then (if legC true c i = true then [UInt8.ofNat c] else [95])
  else if c = 95 then [95, 95]
  else if k = 2 then (if c = 46 then [95, 100, 111, 116, 95] else if legC true c i = true then [UInt8.ofNat c] else [95, 95])
  else (if legC true c i = true then [UInt8.ofNat c] else 95 :: (hexD c ++ [95]))
/-- What is written for a text from a place on. -/
def escFrom (k : Nat) (s : ByteArray) (pos : Nat) : List UInt8 :=
  if h : pos < s.size then escOne k (Utf8.decode s pos).1 pos ++ escFrom k s (pos + (Utf8.decode s pos).2) else []
termination_by s.size - pos
decreasing_by have := decode_wide s pos; omega
theorem escFrom_step (k : Nat) (s : ByteArray) (pos : Nat) (h : pos < s.size) : escFrom k s pos = escOne k (Utf8.decode s pos).1 pos ++ escFrom k s (pos + (Utf8.decode s pos).2) := by
  rw [escFrom, dif_pos h]
theorem escFrom_end (k : Nat) (s : ByteArray) (pos : Nat) (h : ¬ pos < s.size) : escFrom k s pos = [] := by
  rw [escFrom, dif_neg h]
theorem hexD_len : ∀ (m n : Nat), n < 16 ^ (m + 1) → (hexD n).length ≤ m + 1
  | 0, n, h => by rw [hexD, dif_pos (by omega)]; exact Nat.le_refl _
  | m + 1, n, h => by
    rw [hexD]
    split
    · show 1 ≤ _; omega
    · rw [List.length_append]
      have := hexD_len m (n / 16) (by rw [Nat.pow_succ] at h; omega)
      show _ + 1 ≤ _
      omega
theorem escOne_len (k c i : Nat) (hc : c ≤ 2147483647) : (escOne k c i).length ≤ 10 := by
  have h : (hexD c).length ≤ 8 := hexD_len 7 c (by omega)
  unfold escOne
  repeat' split
  all_goals simp
  omega
theorem escFrom_len (k : Nat) (s : ByteArray) : ∀ (d pos : Nat), s.size ≤ pos + d → (escFrom k s pos).length ≤ 10 * d
  | d, pos, h => by
    by_cases hp : pos < s.size
    · obtain ⟨d, rfl⟩ : ∃ m, d = m + 1 := ⟨d - 1, by omega⟩
      have h1 := decode_wide s pos
      rw [escFrom_step k s pos hp, List.length_append]
      have h2 := escOne_len k _ pos (decode_le s pos)
      have h3 := escFrom_len k s d (pos + (Utf8.decode s pos).2) (by omega)
      omega
    · rw [escFrom_end k s pos hp]; exact Nat.zero_le _
theorem IsB.below {B b : Nat} {acc : List UInt8} {w w' : World} (h : IsB B b acc w) (hb : Below w.heap.size w w') : IsB B b acc w' := by
  have one : ∀ p, BAt B b p acc w → BAt B b p acc w' := fun p h => by
    obtain ⟨hB, v, hbk, ho, hne⟩ := h
    have hlt : b < w.heap.size := (Array.getElem?_eq_some_iff.1 hbk).1
    refine ⟨hB, v, (hb.block b hlt).trans hbk, World.ownsRow.kept ho (grown_of_below hb none) ?_, hne⟩
    cases hv : v.ownBlock
    · exact .inl rfl
    · exact .inr (by simp)
  exact h.elim (fun x => .inl (one _ x)) (fun x => .inr (one _ x))
theorem IsB.iterAt {B b : Nat} {acc : List UInt8} {w : World} (h : IsB B b acc w) {k : Nat} {s : ByteArray} {pos : Nat} (hk : w.heap[k]? = some (.stringIter s pos)) (pos' : Nat) : IsB B b acc (w.iterAt k s pos') := by
  have one : ∀ p, BAt B b p acc w → BAt B b p acc (w.iterAt k s pos') := fun p h => by
    obtain ⟨hB, v, hb, ho, hne⟩ := h
    have hkb : b ≠ k := by
      intro e1
      rw [e1, hk] at hb
      cases hb
    refine ⟨hB, v, (iterAt_other w k b s pos' hkb).trans hb, ⟨ho.1, ?_⟩, hne⟩
    rcases ho.2 with hn | ⟨g, cap, cur, hv, hbg, hg, rest⟩
    · exact .inl hn
    · have hkg : g ≠ k := by
        intro e1
        rw [e1, hk] at hg
        cases hg
      exact .inr ⟨g, cap, cur, hv, hbg, (iterAt_other w k g s pos' hkg).trans hg, rest⟩
  exact h.elim (fun x => .inl (one _ x)) (fun x => .inr (one _ x))
theorem KeepO.iter {b : Nat} {w w' : World} (h : KeepO b w w') {k : Nat} {s : ByteArray} {pos : Nat} (hk : w.heap[k]? = some (.stringIter s pos)) (hkb : k ≠ b) : w'.heap[k]? = some (.stringIter s pos) :=
  h k _ hk hkb (fun _ _ e1 => by cases e1)
/-- The state at the head of the loop over the name: the builder in block b, the iterator in block kb, what is written and what is to come. -/
structure EscAt (k : Nat) (s : ByteArray) (tot : List UInt8) (b kb : Nat) (w wr : World) (acc : List UInt8) (pos : Nat) : Prop where
  le : pos ≤ s.size
  all : acc ++ escFrom k s pos = tot
  bld : IsB b b acc wr
  it : wr.heap[kb]? = some (.stringIter s pos)
  ne : kb ≠ b
  low : b ≤ kb
  bel : Below w.heap.size w wr
  at0 : b = w.heap.size
theorem EscAt.len {k : Nat} {s : ByteArray} {tot : List UInt8} {b kb : Nat} {w wr : World} {acc : List UInt8} {pos : Nat} (h : EscAt k s tot b kb w wr acc pos) (ht : tot.length ≤ 20000000) : acc.length ≤ 20000000 := by
  have := congrArg List.length h.all
  rw [List.length_append] at this
  omega
theorem decode_fits (s : ByteArray) (pos : Nat) (h : pos < s.size) : 0 < (Utf8.decode s pos).2 ∧ pos + (Utf8.decode s pos).2 ≤ s.size := by
  refine ⟨decode_wide s pos, ?_⟩
  unfold Utf8.decode
  dsimp only
  (repeat' split) <;> simp_all <;> omega
/-- What decoding yields is a character. -/
theorem decode_val (s : ByteArray) (pos : Nat) : utf8_ValidRune.f 3 ((Utf8.decode s pos).1 : Int) = some true := by
  have h : (Utf8.decode s pos).1 < 55296 ∨ (57343 < (Utf8.decode s pos).1 ∧ (Utf8.decode s pos).1 ≤ 1114111) := by
    unfold Utf8.decode
    dsimp only
    (repeat' split) <;> simp_all [Utf8.valid, Utf8.runeError] <;> omega
  generalize (Utf8.decode s pos).1 = c at h
  unfold utf8_ValidRune.f
  rw [if_pos (by omega)]
  simp only [utf8_ValidRune.j0]
  rcases h with h | ⟨h, h2⟩
  · rw [if_pos (decide_eq_true (by omega))]
  · rw [if_neg (by simp; omega), if_pos (by omega), if_pos (by omega)]
theorem isB_lt {B b : Nat} {acc : List UInt8} {w : World} (h : IsB B b acc w) : b < w.heap.size := by
  rcases h with ⟨_, v, hb, _⟩ | ⟨_, v, hb, _⟩ <;> exact (Array.getElem?_eq_some_iff.1 hb).1
end Go.Proofs.YtkbaihcamimnjaaDoor.Q
