/- Characters of a text in plain Lean: how many bytes the reference says that a character has is how many the model's decoder takes. No condition. Plain words: the text of a token, alone, is that token. No condition. Plain words: a token's text, alone, is scanned as that token, and nothing behind it. No condition. Plain words: the reference's Valid is UTF-8's validity; its Settled comes to an end. Condition: the sizes named. Plain words: what the reference says of characters, and what the lexer reads of them, in a text that is settled. No condition. Plain words: what it says that a text is settled. Condition: a text of at most 10000000 bytes. Plain words: one character, and a word, as the lexer and the reference read them in a settled text. No condition. Plain words: one accepted character, an operator, a quoted token, as the lexer and the reference read them in a settled text. No condition. Plain words: one token, as the lexer and the reference read it in a settled text. No condition. Plain words: the tokens of a settled text, as the lexer and the reference read them. Condition: at most 10000000 bytes. -/
import Derived.Test.YtnnhehlieakedaaGreatDoorHKinds
import Derived.Test.YtnnhehlieakedaaGreatDoorQspecSM
import Derived.Laws.RangeAny
import Derived.Test.YtnnhehlieakedaaGreatDoorHParKM
import Derived.Lib.TrimUEq
import Derived.Test.YtnnhehlieakedaaGreatDoorQspecTM
import Derived.Lib.MapLaws
set_option linter.unusedVariables false
set_option linter.unusedSimpArgs false
namespace Go.Proofs.YtnnhehlieakedaaGreatDoor.Q
open Go.RowKit Go.Proofs.YtnnhehlieakedaaGreatDoorW.PrintWords Go.Proofs.YtnnhehlieakedaaGreatDoorW.PrintLast Go.Proofs.YtnnhehlieakedaaGreatDoorW.PrintMore
/-- How many bytes the first of n bytes' characters has. -/
def dW (n b0 b1 b2 b3 : Nat) : Nat :=
  if 194 ≤ b0 ∧ b0 ≤ 223 ∧ 2 ≤ n ∧ 128 ≤ b1 ∧ b1 ≤ 191 then 2
  else if 224 ≤ b0 ∧ b0 ≤ 239 ∧ 3 ≤ n ∧ (b0 = 224 → 160 ≤ b1) ∧ (b0 = 237 → b1 ≤ 159) ∧ 128 ≤ b1 ∧ b1 ≤ 191 ∧ 128 ≤ b2 ∧ b2 ≤ 191 then 3
  else if 240 ≤ b0 ∧ b0 ≤ 244 ∧ 4 ≤ n ∧ (b0 = 240 → 144 ≤ b1) ∧ (b0 = 244 → b1 ≤ 143) ∧ 128 ≤ b1 ∧ b1 ≤ 191 ∧ 128 ≤ b2 ∧ b2 ≤ 191 ∧ 128 ≤ b3 ∧ b3 ≤ 191 then 4
  else 1
/-- A byte of a text, or 0. -/
def by1 (s : ByteArray) (i : Nat) : Nat := (s.get! i).toNat
theorem by1_lt (s : ByteArray) (i : Nat) : by1 s i < 256 := by unfold by1; exact UInt8.toNat_lt _
theorem bt_nat' (s : ByteArray) (n : Nat) (h : n < s.size) : bt s (n : Int) = ((s[n]'h).toNat : Int) := by
  have := (bt_at s (n : Int)) (by simpa using h)
  rw [← this]; simp
theorem by1_at (s : ByteArray) (i : Nat) (h : i < s.size) : bt s (i : Int) = (by1 s i : Int) := by
  rw [bt_nat' s i h]
  obtain ⟨⟨l⟩⟩ := s
  have h' : i < l.length := h
  simp [by1, ByteArray.get!, h']
  rfl
theorem by1_ext (s : ByteArray) (i j : Nat) (h : i + j < s.size) : bt (s.extract i s.size) (j : Int) = (by1 s (i + j) : Int) := by
  have hz : (s.extract i s.size).size = s.size - i := by rw [ByteArray.size_extract]; omega
  rw [bt_nat' (s.extract i s.size) j (by omega), ← by1_at s (i + j) h, bt_nat' s (i + j) h, ByteArray.getElem_extract]
def dE (n b0 b1 b2 b3 : Nat) : Nat :=
  if n = 0 then 0 else if dW n b0 b1 b2 b3 = 2 then (b0 % 32) * 64 + b1 % 64
  else if dW n b0 b1 b2 b3 = 3 then (b0 % 16) * 4096 + (b1 % 64) * 64 + b2 % 64
  else if dW n b0 b1 b2 b3 = 4 then (b0 % 8) * 262144 + (b1 % 64) * 4096 + (b2 % 64) * 64 + b3 % 64
  else if b0 < 128 then b0 else 65533
theorem dW_not2 {n b0 b1 b2 b3 : Nat} (h : ¬ (194 ≤ b0 ∧ b0 ≤ 223 ∧ 2 ≤ n ∧ 128 ≤ b1 ∧ b1 ≤ 191)) (h3 : ¬ (224 ≤ b0 ∧ b0 ≤ 239 ∧ 3 ≤ n ∧ (b0 = 224 → 160 ≤ b1) ∧ (b0 = 237 → b1 ≤ 159) ∧ 128 ≤ b1 ∧ b1 ≤ 191 ∧ 128 ≤ b2 ∧ b2 ≤ 191))
    (h4 : ¬ (240 ≤ b0 ∧ b0 ≤ 244 ∧ 4 ≤ n ∧ (b0 = 240 → 144 ≤ b1) ∧ (b0 = 244 → b1 ≤ 143) ∧ 128 ≤ b1 ∧ b1 ≤ 191 ∧ 128 ≤ b2 ∧ b2 ≤ 191 ∧ 128 ≤ b3 ∧ b3 ≤ 191)) : dW n b0 b1 b2 b3 = 1 := by
  unfold dW; rw [if_neg h, if_neg h3, if_neg h4]
theorem dW_2 {n b0 b1 b2 b3 : Nat} (h : 194 ≤ b0 ∧ b0 ≤ 223 ∧ 2 ≤ n ∧ 128 ≤ b1 ∧ b1 ≤ 191) : dW n b0 b1 b2 b3 = 2 := by unfold dW; rw [if_pos h]
theorem dW_3 {n b0 b1 b2 b3 : Nat} (h3 : 224 ≤ b0 ∧ b0 ≤ 239 ∧ 3 ≤ n ∧ (b0 = 224 → 160 ≤ b1) ∧ (b0 = 237 → b1 ≤ 159) ∧ 128 ≤ b1 ∧ b1 ≤ 191 ∧ 128 ≤ b2 ∧ b2 ≤ 191) : dW n b0 b1 b2 b3 = 3 := by
  unfold dW; rw [if_neg (by omega), if_pos h3]
theorem dW_4 {n b0 b1 b2 b3 : Nat} (h4 : 240 ≤ b0 ∧ b0 ≤ 244 ∧ 4 ≤ n ∧ (b0 = 240 → 144 ≤ b1) ∧ (b0 = 244 → b1 ≤ 143) ∧ 128 ≤ b1 ∧ b1 ≤ 191 ∧ 128 ≤ b2 ∧ b2 ≤ 191 ∧ 128 ≤ b3 ∧ b3 ≤ 191) : dW n b0 b1 b2 b3 = 4 := by
  unfold dW; rw [if_neg (by omega), if_neg (by omega), if_pos h4]
set_option maxRecDepth 100000 in
theorem decode_is (s : ByteArray) (i : Nat) (hi : i < s.size) : Utf8.decode s i = (dE (s.size - i) (by1 s i) (by1 s (i + 1)) (by1 s (i + 2)) (by1 s (i + 3)), dW (s.size - i) (by1 s i) (by1 s (i + 1)) (by1 s (i + 2)) (by1 s (i + 3))) := by
  have g0 : (s.get! i).toNat = by1 s i := rfl
  have g1 : (s.get! (i + 1)).toNat = by1 s (i + 1) := rfl
  have g2 : (s.get! (i + 2)).toNat = by1 s (i + 2) := rfl
  have g3 : (s.get! (i + 3)).toNat = by1 s (i + 3) := rfl
  have l0 := by1_lt s i
  have l1 := by1_lt s (i + 1)
  have l2 := by1_lt s (i + 2)
  have l3 := by1_lt s (i + 3)
  unfold Utf8.decode
  simp only [Nat.add_zero, g0, g1, g2, g3]
  generalize by1 s i = b0 at *
  generalize by1 s (i + 1) = b1 at *
  generalize by1 s (i + 2) = b2 at *
  generalize by1 s (i + 3) = b3 at *
  clear g0 g1 g2 g3
  obtain ⟨n, hn⟩ : ∃ n, s.size = i + n := ⟨s.size - i, by omega⟩
  have en : s.size - i = n := by omega
  have c1 : (i + 1 < s.size) = (1 < n) := by rw [hn]; simp
  have c2 : (i + 2 < s.size) = (2 < n) := by rw [hn]; simp
  have c3 : (i + 3 < s.size) = (3 < n) := by rw [hn]; simp
  simp only [en, c1, c2, c3]
  have hn0 : 0 < n := by omega
  clear en c1 c2 c3 hn hi
  have hval : ∀ c : Nat, (Utf8.valid (c : Int) = true) = (c < 55296 ∨ (57344 ≤ c ∧ c ≤ 1114111)) := fun c => by
    apply propext
    unfold Utf8.valid
    simp only [Bool.or_eq_true, Bool.and_eq_true, decide_eq_true_eq]
    omega
  unfold Utf8.runeError
  have q1 : (b1 / 64 = 2) = (128 ≤ b1 ∧ b1 ≤ 191) := by apply propext; omega
  have q2 : (b2 / 64 = 2) = (128 ≤ b2 ∧ b2 ≤ 191) := by apply propext; omega
  have q3 : (b3 / 64 = 2) = (128 ≤ b3 ∧ b3 ≤ 191) := by apply propext; omega
  have p2 : (b0 / 32 = 6) = (192 ≤ b0 ∧ b0 ≤ 223) := by apply propext; omega
  have p3 : (b0 / 16 = 14) = (224 ≤ b0 ∧ b0 ≤ 239) := by apply propext; omega
  have p4 : (b0 / 8 = 30) = (240 ≤ b0 ∧ b0 ≤ 247) := by apply propext; omega
  simp only [Bool.and_eq_true, decide_eq_true_eq, beq_iff_eq, q1, q2, q3, p2, p3, p4, hval]
  clear q1 q2 q3 p2 p3 p4 hval
  by_cases w2 : 194 ≤ b0 ∧ b0 ≤ 223 ∧ 2 ≤ n ∧ 128 ≤ b1 ∧ b1 ≤ 191
  · unfold dE; rw [dW_2 w2]
    rw [if_neg (by omega), if_pos (by omega), if_pos (by omega), if_neg (by omega), if_pos rfl]
  by_cases w3 : 224 ≤ b0 ∧ b0 ≤ 239 ∧ 3 ≤ n ∧ (b0 = 224 → 160 ≤ b1) ∧ (b0 = 237 → b1 ≤ 159) ∧ 128 ≤ b1 ∧ b1 ≤ 191 ∧ 128 ≤ b2 ∧ b2 ≤ 191
  · unfold dE; rw [dW_3 w3]
    rw [if_neg (by omega), if_neg (by omega), if_pos (by omega), if_pos (by omega), if_neg (by omega), if_neg (by omega), if_pos rfl]
  by_cases w4 : 240 ≤ b0 ∧ b0 ≤ 244 ∧ 4 ≤ n ∧ (b0 = 240 → 144 ≤ b1) ∧ (b0 = 244 → b1 ≤ 143) ∧ 128 ≤ b1 ∧ b1 ≤ 191 ∧ 128 ≤ b2 ∧ b2 ≤ 191 ∧ 128 ≤ b3 ∧ b3 ≤ 191
  · unfold dE; rw [dW_4 w4]
    rw [if_neg (by omega), if_neg (by omega), if_neg (by omega), if_pos (by omega), if_pos (by omega), if_neg (by omega), if_neg (by omega), if_neg (by omega), if_pos rfl]
  unfold dE; rw [dW_not2 w2 w3 w4]
  rw [if_neg (by omega : ¬ n = 0), if_neg (by omega : ¬ (1 : Nat) = 2), if_neg (by omega : ¬ (1 : Nat) = 3), if_neg (by omega : ¬ (1 : Nat) = 4)]
  by_cases h0 : b0 < 128
  · rw [if_pos h0, if_pos h0]
  rw [if_neg h0, if_neg h0]
  repeat' split
  all_goals first | rfl | (exfalso; omega)
theorem len_step (k : Nat) (t : ByteArray) (x4 x5 x6 x7 : Int) (h0 : 0 ≤ x7) (h1 : x7 < x4) (h2 : x4 ≤ t.size) (h3 : x7 ≤ 10) :
    spec_runeLen.l0 (k + 1) t x4 x5 x6 x7 = if bt t x7 < x5 ∨ x6 < bt t x7 then some 1 else spec_runeLen.l0 k t x4 128 191 (x7 + 1) := by
  have e : wrap64 (x7 + 1) = x7 + 1 := by unfold wrap64; omega
  simp only [spec_runeLen.l0]
  rw [if_pos h1, if_pos h0, if_pos (by omega), e]
  by_cases h : bt t x7 < x5
  · rw [if_pos h, if_pos (.inl h)]
  · rw [if_neg h]
    by_cases h' : bt t x7 > x6
    · rw [if_pos h', if_pos (.inr h')]
    · rw [if_neg h', if_neg (by omega)]
theorem len_end (k : Nat) (t : ByteArray) (x4 x5 x6 : Int) : spec_runeLen.l0 (k + 1) t x4 x5 x6 x4 = some x4 := by
  simp only [spec_runeLen.l0]
  rw [if_neg (by omega)]
theorem len_j3 (k : Nat) (t : ByteArray) (x4 x5 x6 : Int) : spec_runeLen.j3 (k + 1) t x4 x5 x6 = if x4 > (t.size : Int) then some 1 else spec_runeLen.l0 k t x4 x5 x6 1 := rfl
set_option maxHeartbeats 1000000 in
theorem runeLen_is (s : ByteArray) (i : Nat) (hi : i < s.size) (k : Nat) : spec_runeLen.f (k + 12) (s.extract i s.size) = some ((Utf8.decode s i).2 : Int) := by
  rw [decode_is s i hi]
  have hz : (s.extract i s.size).size = s.size - i := by rw [ByteArray.size_extract]; omega
  have l0 := by1_lt s i
  have l1 := by1_lt s (i + 1)
  have l2 := by1_lt s (i + 2)
  have l3 := by1_lt s (i + 3)
  have e0 : bt (s.extract i s.size) 0 = (by1 s i : Int) := by1_ext s i 0 (by omega)
  have e1 : i + 1 < s.size → bt (s.extract i s.size) 1 = (by1 s (i + 1) : Int) := fun h => by1_ext s i 1 h
  have e2 : i + 2 < s.size → bt (s.extract i s.size) 2 = (by1 s (i + 2) : Int) := fun h => by1_ext s i 2 h
  have e3 : i + 3 < s.size → bt (s.extract i s.size) 3 = (by1 s (i + 3) : Int) := fun h => by1_ext s i 3 h
  generalize s.extract i s.size = t at *
  generalize by1 s i = b0 at *
  generalize by1 s (i + 1) = b1 at *
  generalize by1 s (i + 2) = b2 at *
  generalize by1 s (i + 3) = b3 at *
  obtain ⟨n, hn⟩ : ∃ n, s.size = i + n := ⟨s.size - i, by omega⟩
  have en : s.size - i = n := by omega
  rw [hn] at e1 e2 e3
  rw [en] at hz ⊢
  have hn0 : 0 < n := by omega
  have e1 : 1 < n → bt t 1 = (b1 : Int) := fun h => e1 (by omega)
  have e2 : 2 < n → bt t 2 = (b2 : Int) := fun h => e2 (by omega)
  have e3 : 3 < n → bt t 3 = (b3 : Int) := fun h => e3 (by omega)
  clear en hn hi
  have two : ∀ k x5 x6, spec_runeLen.j3 (k + 5) t 2 x5 x6 = some (if 2 ≤ n ∧ ¬ ((b1 : Int) < x5 ∨ x6 < b1) then 2 else 1) := fun k x5 x6 => by
    rw [len_j3]
    by_cases h : 2 ≤ n
    · rw [if_neg (by omega), len_step _ _ _ _ _ _ (by omega) (by omega) (by omega) (by omega), e1 (by omega)]
      by_cases hb : (b1 : Int) < x5 ∨ x6 < b1
      · rw [if_pos hb, if_neg (by omega)]
      · rw [if_neg hb, if_pos ⟨h, hb⟩]; exact len_end _ _ _ _ _
    · rw [if_pos (by omega), if_neg (by omega)]
  have three : ∀ k x5 x6, spec_runeLen.j3 (k + 6) t 3 x5 x6 = some (if 3 ≤ n ∧ ¬ ((b1 : Int) < x5 ∨ x6 < b1) ∧ 128 ≤ b2 ∧ b2 ≤ 191 then 3 else 1) := fun k x5 x6 => by
    rw [len_j3]
    by_cases h : 3 ≤ n
    · rw [if_neg (by omega), len_step _ _ _ _ _ _ (by omega) (by omega) (by omega) (by omega), e1 (by omega)]
      by_cases hb : (b1 : Int) < x5 ∨ x6 < b1
      · rw [if_pos hb, if_neg (by omega)]
      · rw [if_neg hb, len_step _ _ _ _ _ _ (by omega) (by omega) (by omega) (by omega), show (1 : Int) + 1 = 2 from rfl, e2 (by omega)]
        by_cases hb2 : (b2 : Int) < 128 ∨ 191 < (b2 : Int)
        · rw [if_pos hb2, if_neg (by omega)]
        · rw [if_neg hb2, if_pos ⟨h, hb, by omega, by omega⟩]; exact len_end _ _ _ _ _
    · rw [if_pos (by omega), if_neg (by omega)]
  have four : ∀ k x5 x6, spec_runeLen.j3 (k + 7) t 4 x5 x6 = some (if 4 ≤ n ∧ ¬ ((b1 : Int) < x5 ∨ x6 < b1) ∧ 128 ≤ b2 ∧ b2 ≤ 191 ∧ 128 ≤ b3 ∧ b3 ≤ 191 then 4 else 1) := fun k x5 x6 => by
    rw [len_j3]
    by_cases h : 4 ≤ n
    · rw [if_neg (by omega), len_step _ _ _ _ _ _ (by omega) (by omega) (by omega) (by omega), e1 (by omega)]
      by_cases hb : (b1 : Int) < x5 ∨ x6 < b1
      · rw [if_pos hb, if_neg (by omega)]
      · rw [if_neg hb, len_step _ _ _ _ _ _ (by omega) (by omega) (by omega) (by omega), show (1 : Int) + 1 = 2 from rfl, e2 (by omega)]
        by_cases hb2 : (b2 : Int) < 128 ∨ 191 < (b2 : Int)
        · rw [if_pos hb2, if_neg (by omega)]
        · rw [if_neg hb2, len_step _ _ _ _ _ _ (by omega) (by omega) (by omega) (by omega), show (2 : Int) + 1 = 3 from rfl, e3 (by omega)]
          by_cases hb3 : (b3 : Int) < 128 ∨ 191 < (b3 : Int)
          · rw [if_pos hb3, if_neg (by omega)]
          · rw [if_neg hb3, if_pos ⟨h, hb, by omega, by omega, by omega, by omega⟩]; exact len_end _ _ _ _ _
    · rw [if_pos (by omega), if_neg (by omega)]
  have one : ∀ k x5 x6, spec_runeLen.j3 (k + 2) t 1 x5 x6 = some 1 := fun k x5 x6 => by
    rw [len_j3, if_neg (by omega)]; exact len_end _ _ _ _ _
  unfold spec_runeLen.f
  rw [if_pos (by omega), e0]
  clear e0 e1 e2 e3
  by_cases r1 : b0 < 194
  · rw [if_neg (by omega)]
    simp only [spec_runeLen.j0, Bool.false_eq_true, if_false]
    rw [if_neg (by omega)]
    simp only [spec_runeLen.j1, Bool.false_eq_true, if_false]
    rw [if_neg (by omega)]
    simp only [spec_runeLen.j2, Bool.false_eq_true, if_false]
    rw [one, dW_not2 (by omega) (by omega) (by omega)]
    rfl
  rw [if_pos (by omega)]
  by_cases r2 : b0 ≤ 223
  · rw [decide_eq_true (by omega : (b0 : Int) ≤ 223)]
    simp only [spec_runeLen.j0, if_true]
    rw [two]
    by_cases hw : 2 ≤ n ∧ ¬ ((b1 : Int) < 128 ∨ (191 : Int) < b1)
    · rw [if_pos hw, dW_2 (by omega)]; rfl
    · rw [if_neg hw, dW_not2 (by omega) (by omega) (by omega)]; rfl
  rw [decide_eq_false (by omega : ¬ (b0 : Int) ≤ 223)]
  simp only [spec_runeLen.j0, Bool.false_eq_true, if_false]
  rw [if_pos (by omega)]
  by_cases r3 : b0 ≤ 239
  · rw [decide_eq_true (by omega : (b0 : Int) ≤ 239)]
    simp only [spec_runeLen.j1, if_true]
    by_cases h224 : b0 = 224
    · subst h224
      rw [if_pos (by omega), if_neg (by omega), three]
      by_cases hw : 3 ≤ n ∧ ¬ ((b1 : Int) < 160 ∨ (191 : Int) < b1) ∧ 128 ≤ b2 ∧ b2 ≤ 191
      · rw [if_pos hw, dW_3 (by omega)]; rfl
      · rw [if_neg hw, dW_not2 (by omega) (by omega) (by omega)]; rfl
    · rw [if_neg (by omega)]
      by_cases h237 : b0 = 237
      · subst h237
        rw [if_pos (by omega), three]
        by_cases hw : 3 ≤ n ∧ ¬ ((b1 : Int) < 128 ∨ (159 : Int) < b1) ∧ 128 ≤ b2 ∧ b2 ≤ 191
        · rw [if_pos hw, dW_3 (by omega)]; rfl
        · rw [if_neg hw, dW_not2 (by omega) (by omega) (by omega)]; rfl
      · rw [if_neg (by omega), three]
        by_cases hw : 3 ≤ n ∧ ¬ ((b1 : Int) < 128 ∨ (191 : Int) < b1) ∧ 128 ≤ b2 ∧ b2 ≤ 191
        · rw [if_pos hw, dW_3 (by omega)]; rfl
        · rw [if_neg hw, dW_not2 (by omega) (by omega) (by omega)]; rfl
  rw [decide_eq_false (by omega : ¬ (b0 : Int) ≤ 239)]
  simp only [spec_runeLen.j1, Bool.false_eq_true, if_false]
  rw [if_pos (by omega)]
  by_cases r4 : b0 ≤ 244
  · rw [decide_eq_true (by omega : (b0 : Int) ≤ 244)]
    simp only [spec_runeLen.j2, if_true]
    by_cases h240 : b0 = 240
    · subst h240
      rw [if_pos (by omega), if_neg (by omega), four]
      by_cases hw : 4 ≤ n ∧ ¬ ((b1 : Int) < 144 ∨ (191 : Int) < b1) ∧ 128 ≤ b2 ∧ b2 ≤ 191 ∧ 128 ≤ b3 ∧ b3 ≤ 191
      · rw [if_pos hw, dW_4 (by omega)]; rfl
      · rw [if_neg hw, dW_not2 (by omega) (by omega) (by omega)]; rfl
    · rw [if_neg (by omega)]
      by_cases h244 : b0 = 244
      · subst h244
        rw [if_pos (by omega), four]
        by_cases hw : 4 ≤ n ∧ ¬ ((b1 : Int) < 128 ∨ (143 : Int) < b1) ∧ 128 ≤ b2 ∧ b2 ≤ 191 ∧ 128 ≤ b3 ∧ b3 ≤ 191
        · rw [if_pos hw, dW_4 (by omega)]; rfl
        · rw [if_neg hw, dW_not2 (by omega) (by omega) (by omega)]; rfl
      · rw [if_neg (by omega), four]
        by_cases hw : 4 ≤ n ∧ ¬ ((b1 : Int) < 128 ∨ (191 : Int) < b1) ∧ 128 ≤ b2 ∧ b2 ≤ 191 ∧ 128 ≤ b3 ∧ b3 ≤ 191
        · rw [if_pos hw, dW_4 (by omega)]; rfl
        · rw [if_neg hw, dW_not2 (by omega) (by omega) (by omega)]; rfl
  rw [decide_eq_false (by omega : ¬ (b0 : Int) ≤ 244)]
  simp only [spec_runeLen.j2, Bool.false_eq_true, if_false]
  rw [one, dW_not2 (by omega) (by omega) (by omega)]
  rfl
end Go.Proofs.YtnnhehlieakedaaGreatDoor.Q
namespace Go.Proofs.YtnnhehlieakedaaGreatDoor.Q
open Go.RowKit Go.Lib Go.Proofs.YtnnhehlieakedaaGreatDoorW.PrintWords Go.Proofs.YtnnhehlieakedaaGreatDoorW.PrintLast Go.Proofs.YtnnhehlieakedaaGreatDoorW.PrintMore
theorem decodeN_cut (n n' b0 b1 b2 b3 c1 c2 c3 : Nat) (hn : 1 ≤ n') (hnn : n' ≤ n) (hw : (decodeN n b0 b1 b2 b3).2 ≤ n') (h1 : 1 < n' → c1 = b1) (h2 : 2 < n' → c2 = b2) (h3 : 3 < n' → c3 = b3) : decodeN n' b0 c1 c2 c3 = decodeN n b0 b1 b2 b3 := by
  unfold decodeN at hw ⊢
  by_cases a0 : b0 < 128
  · rw [if_pos a0, if_pos a0]
  rw [if_neg a0] at hw ⊢
  rw [if_neg a0]
  by_cases k1 : 1 < n'
  · have g1 : 1 < n := by omega
    have e1 := h1 k1
    subst e1
    by_cases k2 : 2 < n'
    · have g2 : 2 < n := by omega
      have e2 := h2 k2
      subst e2
      by_cases k3 : 3 < n'
      · have g3 : 3 < n := by omega
        have e3 := h3 k3
        subst e3
        simp only [k1, k2, k3, g1, g2, g3, true_and]
      · simp only [k1, k2, k3, g1, g2, true_and, false_and, and_false, if_false]
        simp only [g1, g2, true_and] at hw
        by_cases q1 : b0 / 32 = 6 ∧ c1 / 64 = 2
        · simp only [if_pos q1]
        · simp only [if_neg q1] at hw ⊢
          by_cases q2 : b0 / 16 = 14 ∧ c1 / 64 = 2 ∧ c2 / 64 = 2
          · simp only [if_pos q2]
          · simp only [if_neg q2] at hw ⊢
            split
            · split
              · rename_i z1 z2; rw [if_pos z1, if_pos z2] at hw; simp at hw; omega
              · rfl
            · rfl
    · simp only [k1, k2, g1, true_and, false_and, and_false, if_false]
      simp only [g1, true_and] at hw
      by_cases q1 : b0 / 32 = 6 ∧ c1 / 64 = 2
      · simp only [if_pos q1]
      · simp only [if_neg q1] at hw ⊢
        repeat' split at hw
        all_goals first | (exfalso; simp at hw; omega) | (repeat' split) <;> first | rfl | (exfalso; omega) | contradiction
  · simp only [k1, false_and, and_false, if_false]
    repeat' split at hw
    all_goals first | (exfalso; simp at hw; omega) | (repeat' split) <;> first | rfl | (exfalso; omega) | contradiction
/-- A character of a text, in a part of the text that holds it whole. -/
theorem decode_part (s : ByteArray) (a b q : Nat) (hb : b ≤ s.size) (hq : a + q < b) (hw : a + q + (Utf8.decode s (a + q)).2 ≤ b) : Utf8.decode (s.extract a b) q = Utf8.decode s (a + q) := by
  have hl : (s.extract a b).data.toList = (s.data.toList.drop a).take (b - a) := by
    rw [ByteArray.data_extract, Array.toList_extract]
    try simp only [List.extract_eq_take_drop]
  have hlen : (s.extract a b).data.toList.length = b - a := by
    rw [hl, List.length_take, List.length_drop, Array.length_toList]
    have : s.data.size = s.size := rfl
    omega
  have hg : ∀ i, i < b - a → (s.extract a b).data.toList.getD i 0 = s.data.toList.getD (a + i) 0 := fun i hi => by
    rw [hl, getD_takeU _ _ _ hi, getD_dropU]
  rw [decode_N] at hw
  rw [decode_N, decode_N, hlen, hg q (by omega)]
  have hs : s.data.toList.length = s.size := Array.length_toList
  refine decodeN_cut _ _ _ _ _ _ _ _ _ (by omega) (by omega) (by omega) (fun h => ?_) (fun h => ?_) (fun h => ?_)
  · rw [hg _ (by omega)]; rfl
  · rw [hg _ (by omega)]; rfl
  · rw [hg _ (by omega)]; rfl
section
variable {s : ByteArray} {a b : Nat} {x x' : LSt}
/-- A state within a part of the text, and the state of the whole text. -/
structure Sim (s : ByteArray) (a b : Nat) (x x' : LSt) : Prop where
  p : x.p = (a : Int) + x'.p
  g : LGd s x
  g' : LGd (s.extract a b) x'
theorem part_size (hb : b ≤ s.size) : (s.extract a b).size = b - a := by rw [ByteArray.size_extract]; omega
theorem Sim.step (h : Sim s a b x x') (hb : b ≤ s.size) (hp : x.p < b) (hn : (nextS s x).p ≤ b) : nextR (s.extract a b) x'.p = nextR s x.p ∧ Sim s a b (nextS s x) (nextS (s.extract a b) x') := by
  have h1 := h.g.s0; have h2 := h.g.s1; have h3 := h.g'.s0; have h4 := h.g'.s1
  have hz := part_size (s := s) (a := a) hb
  have e := h.p
  obtain ⟨q, hq⟩ : ∃ q : Nat, x'.p = q := ⟨x'.p.toNat, by omega⟩
  have ex : x.p.toNat = a + q := by omega
  have hps : x.p.toNat < s.size := by omega
  have hqs : x'.p.toNat < (s.extract a b).size := by omega
  have hw : a + q + (Utf8.decode s (a + q)).2 ≤ b := by
    unfold nextS at hn
    rw [if_pos hps] at hn
    simp only at hn
    rw [ex] at hn
    omega
  have hd := decode_part s a b q hb (by omega) hw
  have eq' : x'.p.toNat = q := by omega
  refine ⟨?_, ?_, h.g.next, h.g'.next⟩
  · unfold nextR
    rw [if_pos hps, if_pos hqs, eq', hd, ex]
  · unfold nextS
    rw [if_pos hps, if_pos hqs]
    simp only
    rw [eq', hd, ex]
    omega
/-- Start and first column stay. -/
def Same (x y : LSt) : Prop := y.st = x.st ∧ y.cl = x.cl
theorem same_next (s : ByteArray) (x : LSt) : Same x (nextS s x) := by unfold nextS; split <;> exact ⟨rfl, rfl⟩
theorem same_back (x : LSt) : Same x (backS x) := ⟨rfl, rfl⟩
theorem Same.trans {x y z : LSt} (h : Same x y) (k : Same y z) : Same x z := ⟨k.1.trans h.1, k.2.trans h.2⟩
theorem same_ac (s : ByteArray) (x : LSt) (c : ByteArray) : Same x (acS s x c) := by
  unfold acS
  split
  · exact same_next s x
  · exact (same_next s x).trans (same_back _)
theorem same_word (s : ByteArray) : ∀ (k : Nat) (x : LSt), Same x (wordS s k x)
  | 0, x => ⟨rfl, rfl⟩
  | k + 1, x => by
    rw [wordS]
    split
    · exact same_next s x
    · split
      · exact (same_next s x).trans (same_back _)
      · exact (same_next s x).trans (same_word s k _)
theorem same_quot (s : ByteArray) : ∀ (k : Nat) (esc : Bool) (x : LSt), Same x (quotS s k esc x)
  | 0, _, x => ⟨rfl, rfl⟩
  | k + 1, esc, x => by
    rw [quotS]
    split
    · exact same_next s x
    · split
      · exact (same_next s x).trans (same_quot s k _ _)
      · split
        · exact (same_next s x).trans (same_quot s k _ _)
        · split
          · exact (same_next s x).trans (same_back _)
          · exact (same_next s x).trans (same_quot s k _ _)
end
end Go.Proofs.YtnnhehlieakedaaGreatDoor.Q
namespace Go.Proofs.YtnnhehlieakedaaGreatDoor.Q
open Go.RowKit Go.Lib Go.Proofs.YtnnhehlieakedaaGreatDoorW.PrintWords Go.Proofs.YtnnhehlieakedaaGreatDoorW.PrintLast Go.Proofs.YtnnhehlieakedaaGreatDoorW.PrintMore
section
variable {s : ByteArray} {a b : Nat} {x x' y z : LSt}
theorem acS_true {c : ByteArray} (h : acB s x c = true) : acS s x c = nextS s x := by unfold acS; rw [if_pos h]
theorem acS_false {c : ByteArray} (h : acB s x c = false) : acS s x c = backS (nextS s x) := by unfold acS; rw [h, if_neg (by decide)]
theorem same_op : Same x (opF s x).2 := by
  have a1 := same_ac s x ⟨#[33]⟩
  have a2 := a1.trans (same_ac s (acS s x ⟨#[33]⟩) ⟨#[61]⟩)
  have a3 := a2.trans (same_ac s (acS s (acS s x ⟨#[33]⟩) ⟨#[61]⟩) ⟨#[126]⟩)
  unfold opF
  repeat' split
  all_goals first | exact a3 | exact a2
theorem same_quo : Same x (quoF s x).2 := by
  have a1 := same_ac s x ⟨#[34]⟩
  unfold quoF
  split
  · exact (a1.trans (same_quot s _ _ _)).trans (same_ac s _ _)
  · exact a1
theorem scan_to (k : Int) : ∀ (n : Nat) (x : LSt), LGd s x → x.st = x.p → scanF s n x = (.tok k, y) → ∃ x1, LGd s x1 ∧ x1.st = x1.p ∧ scan1 s x1 = some (.tok k, y)
  | 0, x, _, _, e => by cases (Prod.mk.inj e).1
  | n + 1, x, h, hst, e => by
    have e' : (match scan1 s x with | some z => z | none => scanF s n (skipS (nextS s x))) = (.tok k, y) := e
    cases hs : scan1 s x with
    | some z =>
      rw [hs] at e'
      simp only at e'
      rw [e'] at hs
      exact ⟨x, h, hst, hs⟩
    | none =>
      rw [hs] at e'
      exact scan_to k n _ h.next.skip rfl e'
theorem scan1_same (k : Int) (hc : scan1 s x = some (.tok k, y)) : Same x y := by
  unfold scan1 at hc
  simp only at hc
  have sb : Same x (backS (nextS s x)) := (same_next s x).trans (same_back _)
  repeat' split at hc
  all_goals first
    | (obtain ⟨_, e⟩ := Prod.mk.inj (Option.some.inj hc); rw [← e]; first | exact same_next s x | exact sb.trans same_op | exact sb.trans same_quo | exact sb.trans (same_word s _ _))
    | (cases hc)
end
end Go.Proofs.YtnnhehlieakedaaGreatDoor.Q
namespace Go.Proofs.YtnnhehlieakedaaGreatDoor.Q
open Go.RowKit Go.Proofs.YtnnhehlieakedaaGreatDoorW.PrintWords Go.Proofs.YtnnhehlieakedaaGreatDoorW.PrintLast Go.Proofs.YtnnhehlieakedaaGreatDoorW.PrintMore
theorem ext_extV (s : ByteArray) (i n : Nat) (h : i + n ≤ s.size) : (s.extract i s.size).extract n (s.extract i s.size).size = s.extract (i + n) s.size := by
  have hz : (s.extract i s.size).size = s.size - i := by rw [ByteArray.size_extract]; omega
  rw [hz]
  apply ByteArray.ext_getElem
  · simp only [ByteArray.size_extract]; omega
  · intro j h1 h2
    simp only [ByteArray.getElem_extract, Nat.add_assoc]
/-- Is a text UTF-8 from a place on. -/
def validFV (s : ByteArray) (pos : Nat) : Bool :=
  if h : pos < s.size then (if (Utf8.decode s pos).2 = 1 ∧ 128 ≤ by1 s pos then false else validFV s (pos + (Utf8.decode s pos).2)) else true
termination_by s.size - pos
decreasing_by have := Lib.width_pos s pos; omega
theorem validF_goV (s : ByteArray) (pos : Nat) (h : pos < s.size) : validFV s pos = if (Utf8.decode s pos).2 = 1 ∧ 128 ≤ by1 s pos then false else validFV s (pos + (Utf8.decode s pos).2) := by rw [validFV, dif_pos h]
theorem validF_endV (s : ByteArray) (pos : Nat) (h : ¬ pos < s.size) : validFV s pos = true := by rw [validFV, dif_neg h]
theorem valid_roundV (s : ByteArray) (pos k : Nat) (h : pos < s.size) (r : Option Bool) (hk : 12 ≤ k) (hr : spec_Valid.l0 k (s.extract (pos + (Utf8.decode s pos).2) s.size) = r) :
    spec_Valid.l0 (k + 1) (s.extract pos s.size) = if (Utf8.decode s pos).2 = 1 ∧ 128 ≤ by1 s pos then some false else r := by
  have hz : (s.extract pos s.size).size = s.size - pos := by rw [ByteArray.size_extract]; omega
  have hf := And.intro (Lib.width_pos s pos) (decode_fits0 s pos h)
  have hl := runeLen_is s pos h (k - 12)
  rw [Nat.sub_add_cancel hk] at hl
  have h0 : bt (s.extract pos s.size) 0 = (by1 s pos : Int) := by1_ext s pos 0 (by omega)
  have he := ext_extV s pos _ hf.2
  subst hr
  simp only [spec_Valid.l0]
  rw [if_pos (by omega), hl]
  simp only [Option.bind_some, h0]
  rw [Int.toNat_natCast, he]
  generalize (Utf8.decode s pos).2 = n at *
  clear hl he h0
  by_cases h1 : n = 1
  · rw [if_pos (by omega), if_pos (by omega)]
    by_cases h128 : 128 ≤ by1 s pos
    · rw [if_pos (by omega), if_pos ⟨h1, h128⟩]
    · rw [if_neg (by omega), if_pos (by omega), if_pos (by omega), if_neg (by omega)]
  · rw [if_neg (by omega), if_pos (by omega), if_pos (by omega), if_neg (by omega)]
theorem valid_isV (s : ByteArray) (d : Nat) : ∀ (pos : Nat), s.size - pos ≤ d → ∀ k, d + 14 ≤ k → spec_Valid.l0 k (s.extract pos s.size) = some (validFV s pos) := by
  have ends : ∀ pos k, ¬ pos < s.size → 14 ≤ k → spec_Valid.l0 k (s.extract pos s.size) = some (validFV s pos) := fun pos k h hk => by
    obtain ⟨k, rfl⟩ : ∃ m, k = m + 1 := ⟨k - 1, by omega⟩
    have hz : (s.extract pos s.size).size = s.size - pos := by rw [ByteArray.size_extract]; omega
    simp only [spec_Valid.l0]
    rw [if_neg (by omega), validF_endV s pos h]
  induction d with
  | zero => exact fun pos hd k hk => ends pos k (by omega) (by omega)
  | succ d ih =>
    intro pos hd k hk
    by_cases h : pos < s.size
    · obtain ⟨k, rfl⟩ : ∃ m, k = m + 1 := ⟨k - 1, by omega⟩
      have hw := Lib.width_pos s pos
      rw [valid_roundV s pos k h _ (by omega) (ih (pos + (Utf8.decode s pos).2) (by omega) k (by omega)), validF_goV s pos h]
      split <;> rfl
    · exact ends pos k h (by omega)
theorem width1_err (s : ByteArray) (pos : Nat) (h : pos < s.size) : ((Utf8.decode s pos).2 = 1 ∧ 128 ≤ by1 s pos) ↔ ((Utf8.decode s pos).1 = 65533 ∧ (Utf8.decode s pos).2 = 1) := by
  rw [decode_is s pos h]
  have h0 := by1_lt s pos
  have h1 := by1_lt s (pos + 1)
  have h2 := by1_lt s (pos + 2)
  have h3 := by1_lt s (pos + 3)
  unfold dE dW
  constructor
  · rintro ⟨ha, hb⟩
    refine ⟨?_, ha⟩
    repeat' split at ha
    all_goals first | omega | (repeat' split) <;> first | rfl | omega
  · rintro ⟨ha, hb⟩
    refine ⟨hb, ?_⟩
    repeat' split at ha
    all_goals omega
theorem validFV_is (s : ByteArray) (d : Nat) : ∀ pos, s.size - pos ≤ d → validFV s pos = Lib.validD (s.data.toList.drop pos) := by
  have ends : ∀ pos, ¬ pos < s.size → validFV s pos = Lib.validD (s.data.toList.drop pos) := fun pos h => by
    rw [validF_endV s pos h, List.drop_eq_nil_of_le (by rw [Array.length_toList]; show s.size ≤ pos; omega)]
    rfl
  induction d with
  | zero => exact fun pos h => ends pos (by omega)
  | succ d ih =>
    intro pos hd
    by_cases h : pos < s.size
    · have hw := Lib.width_pos s pos
      have hne : s.data.toList.drop pos ≠ [] := fun e => by
        have := congrArg List.length e
        rw [List.length_drop, Array.length_toList] at this
        have h2 : s.data.size = s.size := rfl
        simp at this
        omega
      rw [validF_goV s pos h, Lib.validD_step _ hne, Lib.decodeL_drop, List.drop_drop, ih (pos + (Utf8.decode s pos).2) (by omega)]
      by_cases hc : (Utf8.decode s pos).2 = 1 ∧ 128 ≤ by1 s pos
      · rw [if_pos hc, if_pos ((width1_err s pos h).1 hc)]
      · rw [if_neg hc, if_neg (fun e => hc ((width1_err s pos h).2 e))]
    · exact ends pos h
theorem svalid_is (l : List UInt8) : Ev (fun k => spec_Valid.f k (mk l)) (Lib.validD l) := by
  refine ⟨(mk l).size + 14, fun k hk => ?_⟩
  have := valid_isV (mk l) (mk l).size 0 (by omega) k hk
  rw [show (mk l).extract 0 (mk l).size = mk l by rw [mk_from]; rfl] at this
  show spec_Valid.l0 k (mk l) = _
  rw [this, validFV_is (mk l) _ 0 (Nat.le_refl _), mk_data, List.drop_zero]
theorem begins_is (l p : List UInt8) : spec_Begins.f (mk l) (mk p) = some (p.isPrefixOf l) := by
  unfold spec_Begins.f
  rw [mk_size, mk_size]
  by_cases h : p.length ≤ l.length
  · rw [if_pos (by omega), if_pos (by omega), Int.toNat_natCast, mk_upto, mk_list, mk_list]
    congr 1
    rw [Bool.eq_iff_iff, beq_iff_eq, List.isPrefixOf_iff_prefix, List.prefix_iff_eq_take]
    exact ⟨fun e => e.symm, fun e => e.symm⟩
  · rw [if_neg (by omega)]
    congr 1
    symm
    rw [Bool.eq_false_iff]
    intro e
    rw [List.isPrefixOf_iff_prefix] at e
    exact h e.length_le
end Go.Proofs.YtnnhehlieakedaaGreatDoor.Q
namespace Go.Proofs.YtnnhehlieakedaaGreatDoor.Q
open Go.RowKit Go.Lib Go.Proofs.YtnnhehlieakedaaGreatDoorW.PrintWords Go.Proofs.YtnnhehlieakedaaGreatDoorW.PrintLast Go.Proofs.YtnnhehlieakedaaGreatDoorW.PrintMore
/-! ### the reference's bytes -/
theorem allU8L (P : UInt8 → Prop) (h : ∀ n : Fin 256, P (UInt8.ofNat n.val)) (c : UInt8) : P c := by
  have := h ⟨c.toNat, c.toNat_lt⟩
  simpa using this
def sblk (c : UInt8) : Bool := c == 32 || (9 ≤ c && c ≤ 13)
def sres (c : UInt8) : Bool := c == 123 || c == 125 || c == 33 || c == 61 || c == 126 || c == 44 || c == 92 || c == 34 || c == 39 || c == 96 || sblk c
theorem sblk_is (c : UInt8) : spec_blank.f (c.toNat : Int) = some (sblk c) := by
  revert c
  exact allU8L _ (by decide +kernel)
theorem sres_is (c : UInt8) : spec_reserved.f (c.toNat : Int) = some (sres c) := by
  revert c
  exact allU8L _ (by decide +kernel)
/-! ### the lexer's characters -/
theorem resC_runes : runesI resC 0 = [123, 125, 33, 61, 126, 44, 92, 34, 39, 96] := by kernel_rfl
theorem resR_asc (c : UInt8) (h : c.toNat < 128) : Lib.isSpaceZ (c.toNat : Int) = sblk c ∧ resR (c.toNat : Int) = sres c := by
  have e : ∀ c : UInt8, c.toNat < 128 → (Lib.isSpaceZ (c.toNat : Int) = sblk c ∧ (Lib.isSpaceZ (c.toNat : Int) || (okR (c.toNat : Int) && ([123, 125, 33, 61, 126, 44, 92, 34, 39, 96] : List Nat).any fun d => decide ((d : Int) = (c.toNat : Int)))) = sres c) := by
    refine allU8L _ ?_
    decide +kernel
  obtain ⟨h1, h2⟩ := e c h
  refine ⟨h1, ?_⟩
  unfold resR hasR
  rw [resC_runes]
  exact h2
theorem hasR_high (r : Nat) (h : 128 ≤ r) : hasR resC (r : Int) = false := by
  unfold hasR
  rw [resC_runes]
  have : (([123, 125, 33, 61, 126, 44, 92, 34, 39, 96] : List Nat).any fun d => decide ((d : Int) = (r : Int))) = false := by
    simp
    omega
  rw [this, Bool.and_false]
/-! ### white space of more than one byte -/
def wideL : List (List UInt8) := [[194, 133], [194, 160], [225, 154, 128], [226, 128, 168], [226, 128, 169], [226, 128, 175], [226, 129, 159], [227, 128, 128]]
def wideB (l : List UInt8) : Bool := (wideL.any fun p => p.isPrefixOf l) || match l with
  | a :: b :: c :: _ => a == 226 && b == 128 && (128 ≤ c && c ≤ 138)
  | _ => false
theorem wide_enc (r : Nat) (h : 128 ≤ r) (hs : Lib.isSpaceR r = true) : encodeRune (r : Int) ∈ wideL ∨ ∃ c : UInt8, 128 ≤ c ∧ c ≤ 138 ∧ encodeRune (r : Int) = [226, 128, c] := by
  have hr : r = 0x85 ∨ r = 0xA0 ∨ r = 0x1680 ∨ (0x2000 ≤ r ∧ r ≤ 0x200A) ∨ r = 0x2028 ∨ r = 0x2029 ∨ r = 0x202F ∨ r = 0x205F ∨ r = 0x3000 := by
    unfold Lib.isSpaceR at hs
    simp at hs
    omega
  rcases hr with rfl | rfl | rfl | hr | rfl | rfl | rfl | rfl | rfl
  · exact Or.inl (by decide +kernel)
  · exact Or.inl (by decide +kernel)
  · exact Or.inl (by decide +kernel)
  · obtain ⟨d, rfl, hd⟩ : ∃ d, r = 0x2000 + d ∧ d ≤ 10 := ⟨r - 0x2000, by omega, by omega⟩
    have : d = 0 ∨ d = 1 ∨ d = 2 ∨ d = 3 ∨ d = 4 ∨ d = 5 ∨ d = 6 ∨ d = 7 ∨ d = 8 ∨ d = 9 ∨ d = 10 := by omega
    rcases this with rfl | rfl | rfl | rfl | rfl | rfl | rfl | rfl | rfl | rfl | rfl
    all_goals first
      | exact Or.inr ⟨128, by decide +kernel, by decide +kernel, by decide +kernel⟩
      | exact Or.inr ⟨129, by decide +kernel, by decide +kernel, by decide +kernel⟩
      | exact Or.inr ⟨130, by decide +kernel, by decide +kernel, by decide +kernel⟩
      | exact Or.inr ⟨131, by decide +kernel, by decide +kernel, by decide +kernel⟩
      | exact Or.inr ⟨132, by decide +kernel, by decide +kernel, by decide +kernel⟩
      | exact Or.inr ⟨133, by decide +kernel, by decide +kernel, by decide +kernel⟩
      | exact Or.inr ⟨134, by decide +kernel, by decide +kernel, by decide +kernel⟩
      | exact Or.inr ⟨135, by decide +kernel, by decide +kernel, by decide +kernel⟩
      | exact Or.inr ⟨136, by decide +kernel, by decide +kernel, by decide +kernel⟩
      | exact Or.inr ⟨137, by decide +kernel, by decide +kernel, by decide +kernel⟩
      | exact Or.inr ⟨138, by decide +kernel, by decide +kernel, by decide +kernel⟩
  · exact Or.inl (by decide +kernel)
  · exact Or.inl (by decide +kernel)
  · exact Or.inl (by decide +kernel)
  · exact Or.inl (by decide +kernel)
  · exact Or.inl (by decide +kernel)
/-- A character of white space beyond ASCII begins as the reference knows it. -/
theorem wide_of_space (l : List UInt8) (hne : l ≠ []) (hv : ¬ ((decodeL l).1 = 65533 ∧ (decodeL l).2 = 1)) (h : 128 ≤ (decodeL l).1) (hs : Lib.isSpaceR (decodeL l).1 = true) : wideB l = true := by
  have he := encode_decode l hne hv
  have hp : encodeRune ((decodeL l).1 : Int) <+: l := by rw [he]; exact List.take_prefix _ _
  unfold wideB
  rcases wide_enc _ h hs with hw | ⟨c, h1, h2, e⟩
  · rw [Bool.or_eq_true]
    left
    rw [List.any_eq_true]
    exact ⟨_, hw, by rw [List.isPrefixOf_iff_prefix]; exact hp⟩
  · rw [e] at hp
    obtain ⟨t, rfl⟩ := hp
    rw [Bool.or_eq_true]
    right
    simp [h1, h2]
/-! ### steps over characters -/
/-- k characters from q on, up to p. -/
inductive Steps (s : ByteArray) : Nat → Nat → Nat → Prop
  | nil (p : Nat) : Steps s p p 0
  | cons {q p k : Nat} (h : q < s.size) (t : Steps s (q + (Utf8.decode s q).2) p k) : Steps s q p (k + 1)
theorem Steps.le {s : ByteArray} {q p k : Nat} (h : Steps s q p k) : q ≤ p := by
  induction h with
  | nil => exact Nat.le_refl _
  | cons _ _ ih => omega
theorem Steps.snoc {s : ByteArray} {q p k : Nat} (h : Steps s q p k) (hp : p < s.size) : Steps s q (p + (Utf8.decode s p).2) (k + 1) := by
  induction h with
  | nil p => exact .cons hp (.nil _)
  | cons h1 _ ih => exact .cons h1 (ih hp)
theorem Steps.runes {s : ByteArray} {q p k : Nat} (h : Steps s q p k) (hp : p ≤ s.size) : (runesI (s.extract 0 p) q).length = k := by
  have hz : (s.extract 0 p).size = p := by rw [ByteArray.size_extract]; omega
  induction h with
  | nil p => rw [runesI_end _ _ (by omega)]; rfl
  | @cons q p k h1 t ih =>
    have hle := t.le
    have hw := decode_fits s q h1
    have hd := decode_part s 0 p q hp (by omega) (by rw [Nat.zero_add]; exact hle)
    rw [Nat.zero_add] at hd
    rw [runesI_go _ _ (by omega), hd, List.length_cons, ih hp hz]
end Go.Proofs.YtnnhehlieakedaaGreatDoor.Q
namespace Go.Proofs.YtnnhehlieakedaaGreatDoor.Q
open Go.RowKit Go.Lib Go.Proofs.YtnnhehlieakedaaGreatDoorW.PrintWords Go.Proofs.YtnnhehlieakedaaGreatDoorW.PrintLast Go.Proofs.YtnnhehlieakedaaGreatDoorW.PrintMore
def wideT (l : List UInt8) : Bool := match l with
  | a :: b :: c :: _ => a == 226 && b == 128 && (128 ≤ c && c ≤ 138)
  | _ => false
theorem wideT_is (l : List UInt8) : (if ((mk l).size : Int) > 2 then (if 0 < ((mk l).size : Int) then (if bt (mk l) 0 = 226 then (if 1 < ((mk l).size : Int) then (if bt (mk l) 1 = 128 then (if 2 < ((mk l).size : Int) then (if bt (mk l) 2 ≥ 128 then some (decide (bt (mk l) 2 ≤ 138)) else some false) else none) else some false) else none) else some false) else none) else some false) = some (wideT l) := by
  match l with
  | [] => rfl
  | [a] => rw [if_neg (by rw [mk_size]; simp)]; rfl
  | [a, b] => rw [if_neg (by rw [mk_size]; simp)]; rfl
  | a :: b :: c :: m =>
    have b0 : bt (mk (a :: b :: c :: m)) 0 = (a.toNat : Int) := bt_mk0 a _
    have b1 : bt (mk (a :: b :: c :: m)) 1 = (b.toNat : Int) := bt_app [a] b (c :: m) 1 rfl
    have b2 : bt (mk (a :: b :: c :: m)) 2 = (c.toNat : Int) := bt_app [a, b] c m 2 rfl
    rw [b0, b1, b2, if_pos (by rw [mk_size]; simp; omega), if_pos (by rw [mk_size]; simp; omega), if_pos (by rw [mk_size]; simp; omega : 1 < ((mk (a :: b :: c :: m)).size : Int)), if_pos (by rw [mk_size]; simp; omega : 2 < ((mk (a :: b :: c :: m)).size : Int))]
    unfold wideT
    have ea : ((a.toNat : Int) = 226) ↔ a = 226 := ⟨fun e => UInt8.toNat_inj.1 (by show a.toNat = 226; omega), fun e => by rw [e]; rfl⟩
    have eb : ((b.toNat : Int) = 128) ↔ b = 128 := ⟨fun e => UInt8.toNat_inj.1 (by show b.toNat = 128; omega), fun e => by rw [e]; rfl⟩
    by_cases h1 : a = 226
    · rw [if_pos (ea.2 h1)]
      by_cases h2 : b = 128
      · rw [if_pos (eb.2 h2)]
        by_cases h3 : (c.toNat : Int) ≥ 128
        · rw [if_pos h3]
          congr 1
          rw [Bool.eq_iff_iff]
          simp [h1, h2, UInt8.le_iff_toNat_le]
          omega
        · rw [if_neg h3]
          congr 1
          symm
          rw [Bool.eq_false_iff]
          simp [h1, h2, UInt8.le_iff_toNat_le]
          omega
      · rw [if_neg (fun e => h2 (eb.1 e))]
        simp [h2]
    · rw [if_neg (fun e => h1 (ea.1 e))]
      simp [h1]
theorem wideBlank_is (l : List UInt8) : Ev (fun k => spec_wideBlank.f k (mk l)) (wideB l) := by
  have key : ∀ (n i : Nat), i + n = 8 → Ev (fun k => spec_wideBlank.l0 k (mk l) (wideL.map mk) 8 (i : Int)) (((wideL.drop i).any fun p => p.isPrefixOf l) || wideT l) := by
    intro n
    induction n with
    | zero =>
      intro i hi
      obtain rfl : i = 8 := by omega
      refine Ev.now 1 (fun k => ?_)
      simp only [spec_wideBlank.l0]
      rw [if_neg (by decide), wideT_is]
      rfl
    | succ n ih =>
      intro i hi
      have hlt : i < wideL.length := by show i < 8; omega
      have hrd : rdOf ByteArray.empty (wideL.map mk) (i : Int) = mk wideL[i] := by
        unfold rdOf
        rw [Int.toNat_natCast, List.getD_eq_getElem?_getD, List.getElem?_map, List.getElem?_eq_getElem hlt]
        rfl
      have st : ∀ k, spec_wideBlank.l0 (k + 1) (mk l) (wideL.map mk) 8 (i : Int) = if (wideL[i].isPrefixOf l) = true then some true else spec_wideBlank.l0 k (mk l) (wideL.map mk) 8 ((i + 1 : Nat) : Int) := fun k => by
        simp only [spec_wideBlank.l0]
        rw [if_pos (by omega), if_pos (by omega), if_pos (by rw [List.length_map]; show (i : Int) < 8; omega), hrd, begins_is, Option.bind_some, w64s i (by omega)]
      rw [List.drop_eq_getElem_cons hlt, List.any_cons]
      cases hb : wideL[i].isPrefixOf l
      · rw [Bool.false_or]
        exact Ev.step (ih (i + 1) (by omega)) 1 (fun k => by rw [st, hb, if_neg (by decide)])
      · rw [Bool.true_or, Bool.true_or]
        exact Ev.now 1 (fun k => by rw [st, hb, if_pos rfl])
  exact key 8 0 rfl
/-- What a settled text is. -/
structure Settled (l : List UInt8) : Prop where
  valid : validD l = true
  wide : ∀ i, i < l.length → wideB (l.drop i) = false
theorem settled_is (l : List UInt8) (hl : l.length ≤ 10000000) : ∃ b, Ev (fun k => spec_Settled.f k (mk l)) b ∧ (b = true → Settled l) := by
  unfold spec_Settled.f
  have hv := svalid_is l
  cases hc : validD l
  · rw [hc] at hv
    exact ⟨false, Ev.bind (G := fun k t => if t = true then spec_Settled.l0 k (mk l) ((mk l).size : Int) 0 else some false) hv (by simpa using Ev.const false), fun e => by cases e⟩
  rw [hc] at hv
  have key : ∀ (n i : Nat), i + n = l.length → ∃ b, Ev (fun k => spec_Settled.l0 k (mk l) (l.length : Int) (i : Int)) b ∧ (b = true → ∀ j, i ≤ j → j < l.length → wideB (l.drop j) = false) := by
    intro n
    induction n with
    | zero =>
      intro i hi
      refine ⟨true, Ev.now 1 (fun k => ?_), fun _ j h1 h2 => by omega⟩
      simp only [spec_Settled.l0]
      rw [if_neg (by omega)]
    | succ n ih =>
      intro i hi
      obtain ⟨b, hb, hall⟩ := ih (i + 1) (by omega)
      have ht := wideBlank_is (l.drop i)
      have st : ∀ k, spec_Settled.l0 (k + 1) (mk l) (l.length : Int) (i : Int) = (spec_wideBlank.f k (mk (l.drop i))).bind fun t => if t = true then some false else spec_Settled.l0 k (mk l) (l.length : Int) ((i + 1 : Nat) : Int) := fun k => by
        simp only [spec_Settled.l0]
        rw [if_pos (by omega), if_pos (by omega), if_pos (by rw [mk_size]; omega), w64s i (by omega), Int.toNat_natCast, mk_from]
      cases hw : wideB (l.drop i)
      · rw [hw] at ht
        refine ⟨b, Ev.step (Ev.bind (G := fun k t => if t = true then some false else spec_Settled.l0 k (mk l) (l.length : Int) ((i + 1 : Nat) : Int)) ht (by simpa using hb)) 1 st, fun e j h1 h2 => ?_⟩
        by_cases hj : j = i
        · rw [hj]; exact hw
        · exact hall e j (by omega) h2
      · rw [hw] at ht
        exact ⟨false, Ev.step (Ev.bind (G := fun k t => if t = true then some false else spec_Settled.l0 k (mk l) (l.length : Int) ((i + 1 : Nat) : Int)) ht (by simpa using Ev.const false)) 1 st, fun e => by cases e⟩
  obtain ⟨b, hb, hall⟩ := key l.length 0 (by omega)
  refine ⟨b, Ev.bind (G := fun k t => if t = true then spec_Settled.l0 k (mk l) ((mk l).size : Int) 0 else some false) hv ?_, fun e => ⟨hc, fun i hi => hall e i (Nat.zero_le _) hi⟩⟩
  rw [mk_size]
  simpa using hb
/-! ### a character of a settled text -/
/-- At a place that decoding comes to: a byte, or a character of more bytes that is neither white space nor reserved. -/
structure CharAt (l : List UInt8) (p : Nat) : Prop where
  lt : p < l.length
  asc : (l.getD p 0).toNat < 128 → Utf8.decode (mk l) p = ((l.getD p 0).toNat, 1)
  high : 128 ≤ (l.getD p 0).toNat → resR ((Utf8.decode (mk l) p).1 : Int) = false ∧ 128 ≤ (Utf8.decode (mk l) p).1 ∧ p + (Utf8.decode (mk l) p).2 ≤ l.length ∧ ∀ j, p ≤ j → j < p + (Utf8.decode (mk l) p).2 → 128 ≤ (l.getD j 0).toNat
  valid : validD (l.drop (p + (Utf8.decode (mk l) p).2)) = true
  fit : 1 ≤ (Utf8.decode (mk l) p).2 ∧ p + (Utf8.decode (mk l) p).2 ≤ l.length
theorem enc_highS (r : Int) (h0 : 128 ≤ r) : ∀ b ∈ encodeRune r, 128 ≤ b.toNat := by
  have one : ∀ x : Int, 128 ≤ x → x ≤ 255 → 128 ≤ (x.toNat.toUInt8).toNat := fun x h0 h1 => by
    have : (x.toNat.toUInt8).toNat = x.toNat % 256 := by simp
    omega
  intro b hb
  unfold encodeRune at hb
  obtain ⟨x, hx, rfl⟩ := List.mem_map.1 hb
  have hx2 : 128 ≤ x ∧ x ≤ 255 := by
    unfold encodeRuneZ at hx
    repeat' split at hx
    all_goals simp at hx
    all_goals omega
  exact one x hx2.1 hx2.2
theorem charAt_of (l : List UInt8) (hs : Settled l) (p : Nat) (hp : p < l.length) (hv : validD (l.drop p) = true) : CharAt l p := by
  have hd : decodeL (l.drop p) = Utf8.decode (mk l) p := by rw [← decodeL_drop]; rfl
  have hne : l.drop p ≠ [] := fun e => by
    have := congrArg List.length e
    rw [List.length_drop] at this
    simp at this
    omega
  have hf := decodeL_fits (l.drop p) hne
  rw [hd, List.length_drop] at hf
  have hw := decodeL_width (l.drop p)
  rw [hd] at hw
  have hstep := hv
  rw [validD_step _ hne, hd] at hstep
  have hok : ¬ ((Utf8.decode (mk l) p).1 = 65533 ∧ (Utf8.decode (mk l) p).2 = 1) := fun e => by rw [if_pos e] at hstep; cases hstep
  rw [if_neg hok, List.drop_drop] at hstep
  have hg : (l.drop p).getD 0 0 = l.getD p 0 := by rw [getD_dropU]; rfl
  refine ⟨hp, fun h => ?_, fun h => ?_, hstep, hw, by omega⟩
  · rw [← hd, decodeL_N, hg, decodeN_ascii _ _ _ _ _ h]
  · have h128 : 128 ≤ (Utf8.decode (mk l) p).1 := by
      rw [← hd, decodeL_N, hg]
      generalize (l.getD p 0).toNat = b0 at h
      unfold decodeN
      rw [if_neg (by omega)]
      repeat' split
      all_goals first
        | (show 128 ≤ 65533; omega)
        | (rename_i h1 h2; show 128 ≤ _; dsimp only; omega)
        | (dsimp only; omega)
        | (simp only [] at *; omega)
    have henc := encode_decode (l.drop p) hne (by rw [hd]; exact hok)
    rw [hd] at henc
    refine ⟨?_, h128, by omega, fun j h1 h2 => ?_⟩
    · unfold resR
      rw [hasR_high _ h128, Bool.or_false]
      have hsp : Lib.isSpaceZ ((Utf8.decode (mk l) p).1 : Int) = Lib.isSpaceR (Utf8.decode (mk l) p).1 := Lib.isSpaceZ_nat _
      rw [hsp]
      cases hq : Lib.isSpaceR (Utf8.decode (mk l) p).1
      · rfl
      · have := wide_of_space (l.drop p) hne (by rw [hd]; exact hok) (by rw [hd]; exact h128) (by rw [hd]; exact hq)
        rw [hs.wide p hp] at this
        cases this
    · have hm : l.getD j 0 ∈ encodeRune ((Utf8.decode (mk l) p).1 : Int) := by
        rw [henc]
        have e : l.getD j 0 = ((l.drop p).take (Utf8.decode (mk l) p).2).getD (j - p) 0 := by
          rw [getD_takeU _ _ _ (by omega), getD_dropU]
          congr 1
          omega
        rw [e, List.getD_eq_getElem?_getD, List.getElem?_eq_getElem (by rw [List.length_take, List.length_drop]; omega)]
        exact List.getElem_mem _
      exact enc_highS _ (by omega) _ hm
end Go.Proofs.YtnnhehlieakedaaGreatDoor.Q
namespace Go.Proofs.YtnnhehlieakedaaGreatDoor.Q
open Go.RowKit Go.Lib Go.Proofs.YtnnhehlieakedaaGreatDoorW.PrintWords Go.Proofs.YtnnhehlieakedaaGreatDoorW.PrintLast Go.Proofs.YtnnhehlieakedaaGreatDoorW.PrintMore
theorem Steps.trans {s : ByteArray} {q p r k m : Nat} (h : Steps s q p k) (t : Steps s p r m) : Steps s q r (m + k) := by
  induction h with
  | nil => exact t
  | cons h1 _ ih => exact .cons h1 (ih t)
/-- The lexer went from x, at p, to y, at e. -/
structure Went (l : List UInt8) (x y : LSt) (p e : Nat) : Prop where
  yp : y.p = (e : Int)
  lt : e ≤ l.length
  same : Same x y
  g : LGd (mk l) y
  steps : ∃ k : Nat, Steps (mk l) p e k ∧ y.cs = x.cs + (k : Int)
  valid : validD (l.drop e) = true
section
variable {l : List UInt8} {x y z : LSt} {p e f : Nat}
theorem Went.le (h : Went l x y p e) : p ≤ e := by
  obtain ⟨k, hk, _⟩ := h.steps
  exact hk.le
theorem Went.trans (h : Went l x y p e) (t : Went l y z e f) : Went l x z p f := by
  obtain ⟨k, h1, h2⟩ := h.steps
  obtain ⟨m, t1, t2⟩ := t.steps
  exact ⟨t.yp, t.lt, h.same.trans t.same, t.g, ⟨m + k, h1.trans t1, by rw [t2, h2]; omega⟩, t.valid⟩
theorem went_end (g : LGd (mk l) x) (hp : x.p = (p : Int)) (he : p = l.length) : nextR (mk l) x.p = -1 ∧ Went l x (nextS (mk l) x) p p := by
  have hn : ¬ (x.p.toNat < (mk l).size) := by rw [mk_size]; omega
  refine ⟨by unfold nextR; rw [if_neg hn], ?_, by omega, same_next _ _, g.next, ⟨0, .nil p, ?_⟩, by rw [he, List.drop_length]; rfl⟩
  · unfold nextS; rw [if_neg hn]; exact hp
  · unfold nextS; rw [if_neg hn]; simp
theorem went_next (g : LGd (mk l) x) (hp : x.p = (p : Int)) (c : CharAt l p) : nextR (mk l) x.p = ((Utf8.decode (mk l) p).1 : Int) ∧ Went l x (nextS (mk l) x) p (p + (Utf8.decode (mk l) p).2) := by
  have hc := c.lt
  have hn : x.p.toNat < (mk l).size := by rw [mk_size]; omega
  have e : x.p.toNat = p := by omega
  refine ⟨by unfold nextR; rw [if_pos hn, e], ?_, c.fit.2, same_next _ _, g.next, ⟨1, .cons (by rw [mk_size]; exact hc) (.nil _), ?_⟩, c.valid⟩
  · unfold nextS; rw [if_pos hn, e, hp]; simp
  · unfold nextS; rw [if_pos hn]; simp
theorem went_back (g : LGd (mk l) x) (hp : x.p = (p : Int)) (hl : p ≤ l.length) (hv : validD (l.drop p) = true) : Went l x (backS (nextS (mk l) x)) p p :=
  ⟨by rw [back_p g]; exact hp, hl, (same_next _ _).trans (same_back _), g.back, ⟨0, .nil p, by rw [back_next g]; simp⟩, hv⟩
end
/-! ### a word -/
theorem sres_high (c : UInt8) (h : 128 ≤ c.toNat) : sres c = false := by
  revert c
  exact allU8L (fun c => 128 ≤ c.toNat → sres c = false) (by decide +kernel)
theorem bt_getD (l : List UInt8) (p : Nat) (h : p < l.length) : bt (mk l) (p : Int) = ((l.getD p 0).toNat : Int) := by
  rw [bt_mk l p h, List.getD_eq_getElem?_getD, List.getElem?_eq_getElem h]; rfl
theorem tok_step (l : List UInt8) (p : Nat) (h : p < l.length) (hl : l.length ≤ 10000000) (k : Nat) : spec_token.l0 (k + 1) (mk l) (p : Int) = if sres (l.getD p 0) = true then some (9, (p : Int)) else spec_token.l0 k (mk l) ((p + 1 : Nat) : Int) := by
  simp only [spec_token.l0]
  rw [if_pos (by rw [mk_size]; omega), if_pos (by omega), bt_getD l p h, sres_is, Option.bind_some, w64s p (by omega)]
theorem tok_over (l : List UInt8) (hl : l.length ≤ 10000000) (v : Int × Int) : ∀ (n p : Nat), p + n ≤ l.length → (∀ j, p ≤ j → j < p + n → 128 ≤ (l.getD j 0).toNat) → Ev (fun k => spec_token.l0 k (mk l) ((p + n : Nat) : Int)) v → Ev (fun k => spec_token.l0 k (mk l) (p : Int)) v
  | 0, p, _, _, h => h
  | n + 1, p, hp, ha, h => by
    have ih := tok_over l hl v n (p + 1) (by omega) (fun j h1 h2 => ha j (by omega) (by omega)) (by rw [show p + 1 + n = p + (n + 1) from by omega]; exact h)
    exact Ev.step ih 1 (fun k => by rw [tok_step l p (by omega) hl, sres_high _ (ha p (Nat.le_refl _) (by omega)), if_neg (by decide)])
theorem word_is (l : List UInt8) (hs : Settled l) (hl : l.length ≤ 10000000) : ∀ (n p K : Nat) (x : LSt), l.length - p ≤ n → n < K → p ≤ l.length → LGd (mk l) x → x.p = (p : Int) → validD (l.drop p) = true → ∃ e : Nat, Ev (fun k => spec_token.l0 k (mk l) (p : Int)) (9, (e : Int)) ∧ Went l x (wordS (mk l) K x) p e ∧ (p < l.length → sres (l.getD p 0) = false → p < e) := by
  intro n
  induction n with
  | zero =>
    intro p K x hn hk hp g hx hv
    obtain ⟨K, rfl⟩ : ∃ m, K = m + 1 := ⟨K - 1, by omega⟩
    obtain ⟨h1, h2⟩ := went_end g hx (by omega)
    refine ⟨p, Ev.now 1 (fun k => ?_), by rw [wordS, if_pos h1]; exact h2, fun h => by omega⟩
    simp only [spec_token.l0]
    rw [if_neg (by rw [mk_size]; omega)]
  | succ n ih =>
    intro p K x hn hk hp g hx hv
    obtain ⟨K, rfl⟩ : ∃ m, K = m + 1 := ⟨K - 1, by omega⟩
    by_cases he : p = l.length
    · obtain ⟨h1, h2⟩ := went_end g hx he
      refine ⟨p, Ev.now 1 (fun k => ?_), by rw [wordS, if_pos h1]; exact h2, fun h => by omega⟩
      simp only [spec_token.l0]
      rw [if_neg (by rw [mk_size]; omega)]
    · have c := charAt_of l hs p (by omega) hv
      obtain ⟨hr, hw⟩ := went_next g hx c
      have hne : nextR (mk l) x.p ≠ -1 := by rw [hr]; omega
      have hfit := c.fit
      rw [wordS, if_neg hne]
      by_cases ha : (l.getD p 0).toNat < 128
      · have hd := c.asc ha
        have hres : resR (nextR (mk l) x.p) = sres (l.getD p 0) := by rw [hr, hd]; exact (resR_asc _ ha).2
        cases hq : sres (l.getD p 0)
        · rw [hres, hq, if_neg (by decide)]
          obtain ⟨e, e1, e2, _⟩ := ih (p + (Utf8.decode (mk l) p).2) K (nextS (mk l) x) (by omega) (by omega) (by omega) hw.g hw.yp hw.valid
          have := e2.le
          refine ⟨e, ?_, hw.trans e2, fun _ _ => by omega⟩
          rw [hd] at e1
          exact Ev.step e1 1 (fun k => by rw [tok_step l p (by omega) hl, hq, if_neg (by decide)])
        · rw [hres, hq, if_pos rfl]
          exact ⟨p, Ev.now 1 (fun k => by rw [tok_step l p (by omega) hl, hq, if_pos rfl]), went_back g hx hp hv, fun _ h => by cases h⟩
      · obtain ⟨q1, _, _, q4⟩ := c.high (by omega)
        rw [hr, q1, if_neg (by decide)]
        obtain ⟨e, e1, e2, _⟩ := ih (p + (Utf8.decode (mk l) p).2) K (nextS (mk l) x) (by omega) (by omega) (by omega) hw.g hw.yp hw.valid
        have := e2.le
        exact ⟨e, tok_over l hl _ _ p (by omega) q4 e1, hw.trans e2, fun _ _ => by omega⟩
end Go.Proofs.YtnnhehlieakedaaGreatDoor.Q
namespace Go.Proofs.YtnnhehlieakedaaGreatDoor.Q
open Go.RowKit Go.Lib Go.Proofs.YtnnhehlieakedaaGreatDoorW.PrintWords Go.Proofs.YtnnhehlieakedaaGreatDoorW.PrintLast Go.Proofs.YtnnhehlieakedaaGreatDoorW.PrintMore
theorem has_of (c : ByteArray) (d : Nat) (hr : runesI c 0 = [d]) (ho : okR (d : Int) = true) (r : Int) : hasR c r = decide (r = (d : Int)) := by
  unfold hasR
  rw [hr]
  by_cases h : r = (d : Int)
  · rw [h, ho]; simp
  · rw [decide_eq_false h]
    have : (([d] : List Nat).any fun d => decide ((d : Int) = r)) = false := by
      simp
      omega
    rw [this, Bool.and_false]
theorem hasQ34 (r : Int) : hasR ⟨#[34]⟩ r = decide (r = 34) := has_of _ 34 (by kernel_rfl) (by decide) r
theorem hasQ33 (r : Int) : hasR ⟨#[33]⟩ r = decide (r = 33) := has_of _ 33 (by kernel_rfl) (by decide) r
theorem hasQ61 (r : Int) : hasR ⟨#[61]⟩ r = decide (r = 61) := has_of _ 61 (by kernel_rfl) (by decide) r
theorem hasQ126 (r : Int) : hasR ⟨#[126]⟩ r = decide (r = 126) := has_of _ 126 (by kernel_rfl) (by decide) r
theorem ac_is (l : List UInt8) (hs : Settled l) (d : UInt8) (hd : d.toNat < 128) (h0 : d ≠ 0) (c : ByteArray) (hh : ∀ r, hasR c r = decide (r = (d.toNat : Int))) {x : LSt} {p : Nat} (g : LGd (mk l) x) (hx : x.p = (p : Int)) (hp : p ≤ l.length) (hv : validD (l.drop p) = true) :
    acB (mk l) x c = decide (l.getD p 0 = d) ∧ Went l x (acS (mk l) x c) p (if l.getD p 0 = d then p + 1 else p) := by
  by_cases he : p = l.length
  · have hne : l.getD p 0 ≠ d := by
      rw [List.getD_eq_getElem?_getD, List.getElem?_eq_none (by omega)]
      exact fun e => h0 e.symm
    have hb : acB (mk l) x c = false := by
      unfold acB
      rw [(went_end g hx he).1, hasR_neg]
    rw [if_neg hne, decide_eq_false hne, acS_false hb]
    exact ⟨hb, went_back g hx hp hv⟩
  · have ch := charAt_of l hs p (by omega) hv
    obtain ⟨hr, hw⟩ := went_next g hx ch
    have hb : acB (mk l) x c = decide (l.getD p 0 = d) := by
      unfold acB
      rw [hr, hh]
      by_cases ha : (l.getD p 0).toNat < 128
      · rw [ch.asc ha]
        apply decide_eq_decide.2
        exact ⟨fun e => UInt8.toNat_inj.1 (by have : (((l.getD p 0).toNat : Nat) : Int) = (d.toNat : Int) := e; omega), fun e => by rw [e]⟩
      · obtain ⟨_, q2, _, _⟩ := ch.high (by omega)
        rw [decide_eq_false (by omega), decide_eq_false (fun e => by rw [e] at ha; exact ha hd)]
    by_cases hc : l.getD p 0 = d
    · rw [decide_eq_true hc] at hb ⊢
      rw [if_pos hc, acS_true hb]
      rw [ch.asc (by rw [hc]; exact hd)] at hw
      exact ⟨hb, hw⟩
    · rw [decide_eq_false hc] at hb ⊢
      rw [if_neg hc, acS_false hb]
      exact ⟨hb, went_back g hx hp hv⟩
/-! ### the closing quote -/
/-- How many backslashes stand right ahead of p+1+n, behind p. -/
def bsN (l : List UInt8) (p : Nat) : Nat → Nat
  | 0 => 0
  | n + 1 => if l.getD (p + 1 + n) 0 = 92 then bsN l p n + 1 else 0
def closFin (l : List UInt8) (p i : Nat) (k m : Nat) : Option Int := if l.getD i 0 = 34 then (if m % 2 = 0 then some (((i + 1 : Nat) : Int)) else spec_closed.l0 k (mk l) (p : Int) ((i + 1 : Nat) : Int)) else spec_closed.l0 k (mk l) (p : Int) ((i + 1 : Nat) : Int)
theorem byte_eq (c d : UInt8) (n : Nat) (hd : d.toNat = n) : ((c.toNat : Int) = (n : Int)) ↔ c = d :=
  ⟨fun e => UInt8.toNat_inj.1 (by rw [hd]; omega), fun e => by rw [e, hd]⟩
theorem clos_back (l : List UInt8) (p i : Nat) (hl : l.length ≤ 10000000) (hi : i < l.length) (v : Int) : ∀ (n acc : Nat), p + n < i → acc + n ≤ 10000000 → Ev (fun k => closFin l p i k (acc + bsN l p n)) v → Ev (fun k => spec_closed.l1 k (mk l) (p : Int) (i : Int) (acc : Int) ((p + n : Nat) : Int)) v := by
  have fin : ∀ (k acc : Nat), (if 0 ≤ (i : Int) then (if (i : Int) < ((mk l).size : Int) then (if bt (mk l) (i : Int) = 34 then (if Int.tmod (acc : Int) 2 = 0 then some (wrap64 ((i : Int) + 1)) else spec_closed.l0 k (mk l) (p : Int) (wrap64 ((i : Int) + 1))) else spec_closed.l0 k (mk l) (p : Int) (wrap64 ((i : Int) + 1))) else none) else none) = closFin l p i k acc := fun k acc => by
    rw [if_pos (by omega), if_pos (by rw [mk_size]; omega), bt_getD l i hi, w64s i (by omega)]
    have e34 : (((l.getD i 0).toNat : Int) = 34) ↔ l.getD i 0 = 34 := byte_eq (l.getD i 0) 34 34 rfl
    have et : Int.tmod (acc : Int) 2 = ((acc % 2 : Nat) : Int) := by rw [Int.tmod_eq_emod_of_nonneg (by omega)]; omega
    unfold closFin
    rw [et]
    by_cases h : l.getD i 0 = 34
    · rw [if_pos h, if_pos (e34.2 h)]
      by_cases h2 : acc % 2 = 0
      · rw [if_pos h2, if_pos (by omega)]
      · rw [if_neg h2, if_neg (by omega)]
    · rw [if_neg h, if_neg (fun e => h (e34.1 e))]
  intro n
  induction n with
  | zero =>
    intro acc _ _ h
    refine Ev.step h 1 (fun k => ?_)
    simp only [spec_closed.l1]
    rw [if_neg (by omega)]
    exact fin k acc
  | succ n ih =>
    intro acc h1 h2 h
    have e92 : (((l.getD (p + 1 + n) 0).toNat : Int) = 92) ↔ l.getD (p + 1 + n) 0 = 92 := byte_eq (l.getD (p + 1 + n) 0) 92 92 rfl
    have ep : p + (n + 1) = p + 1 + n := by omega
    rw [bsN] at h
    by_cases hb : l.getD (p + 1 + n) 0 = 92
    · rw [if_pos hb] at h
      refine Ev.step (ih (acc + 1) (by omega) (by omega) (by rw [show acc + 1 + bsN l p n = acc + (bsN l p n + 1) from by omega]; exact h)) 1 (fun k => ?_)
      simp only [spec_closed.l1]
      rw [if_pos (by omega), if_pos (by omega), if_pos (by rw [mk_size]; omega), ep, bt_getD l _ (by omega), if_pos (e92.2 hb), w64s acc (by omega), w64p _ (by omega) (by omega)]
      congr 2
      omega
    · rw [if_neg hb] at h
      refine Ev.step h 1 (fun k => ?_)
      simp only [spec_closed.l1]
      rw [if_pos (by omega), if_pos (by omega), if_pos (by rw [mk_size]; omega), ep, bt_getD l _ (by omega), if_neg (fun e => hb (e92.1 e))]
      exact fin k acc
theorem clos_step (l : List UInt8) (p i : Nat) (hl : l.length ≤ 10000000) (hp : p < i) (hi : i < l.length) (v : Int) (h : Ev (fun k => closFin l p i k (bsN l p (i - p - 1))) v) : Ev (fun k => spec_closed.l0 k (mk l) (p : Int) (i : Int)) v := by
  have hb := clos_back l p i hl hi v (i - p - 1) 0 (by omega) (by omega) (by rw [Nat.zero_add]; exact h)
  refine Ev.step hb 1 (fun k => ?_)
  simp only [spec_closed.l0]
  rw [if_pos (by rw [mk_size]; omega), w64p _ (by omega) (by omega)]
  congr 2
  omega
/-- The reference passes a place that does not close. -/
theorem clos_pass (l : List UInt8) (p i : Nat) (hl : l.length ≤ 10000000) (hp : p < i) (hi : i < l.length) (v : Int) (hn : ¬ (l.getD i 0 = 34 ∧ bsN l p (i - p - 1) % 2 = 0)) (h : Ev (fun k => spec_closed.l0 k (mk l) (p : Int) ((i + 1 : Nat) : Int)) v) : Ev (fun k => spec_closed.l0 k (mk l) (p : Int) (i : Int)) v := by
  refine clos_step l p i hl hp hi v ?_
  have e : ∀ k, closFin l p i k (bsN l p (i - p - 1)) = spec_closed.l0 k (mk l) (p : Int) ((i + 1 : Nat) : Int) := fun k => by
    unfold closFin
    by_cases h1 : l.getD i 0 = 34
    · rw [if_pos h1, if_neg (fun h2 => hn ⟨h1, h2⟩)]
    · rw [if_neg h1]
  simp only [e]
  exact h
theorem clos_over (l : List UInt8) (p : Nat) (hl : l.length ≤ 10000000) (v : Int) : ∀ (n i : Nat), p < i → i + n ≤ l.length → (∀ j, i ≤ j → j < i + n → 128 ≤ (l.getD j 0).toNat) → Ev (fun k => spec_closed.l0 k (mk l) (p : Int) ((i + n : Nat) : Int)) v → Ev (fun k => spec_closed.l0 k (mk l) (p : Int) (i : Int)) v
  | 0, _, _, _, _, h => h
  | n + 1, i, hp, hi, ha, h => by
    have ih := clos_over l p hl v n (i + 1) (by omega) (by omega) (fun j h1 h2 => ha j (by omega) (by omega)) (by rw [show i + 1 + n = i + (n + 1) from by omega]; exact h)
    refine clos_pass l p i hl hp (by omega) v (fun e => ?_) ih
    have := ha i (Nat.le_refl _) (by omega)
    rw [e.1] at this
    exact absurd this (by decide)
/-- What the search for the closing quote comes to. -/
def ClosAt (l : List UInt8) (e : Nat) (v : Int) : Prop := (e = l.length ∧ v = -1) ∨ (e < l.length ∧ l.getD e 0 = 34 ∧ v = ((e + 1 : Nat) : Int))
theorem quot_is (l : List UInt8) (hs : Settled l) (hl : l.length ≤ 10000000) (p : Nat) : ∀ (n q K : Nat) (esc : Bool) (x : LSt), l.length - q ≤ n → n < K → p < q → q ≤ l.length → esc = decide (bsN l p (q - p - 1) % 2 = 1) → LGd (mk l) x → x.p = (q : Int) → validD (l.drop q) = true → ∃ (e : Nat) (v : Int), Ev (fun k => spec_closed.l0 k (mk l) (p : Int) (q : Int)) v ∧ Went l x (quotS (mk l) K esc x) q e ∧ ClosAt l e v := by
  intro n
  induction n with
  | zero =>
    intro q K esc x hn hk hpq hq he g hx hv
    obtain ⟨K, rfl⟩ : ∃ m, K = m + 1 := ⟨K - 1, by omega⟩
    obtain ⟨h1, h2⟩ := went_end g hx (by omega)
    refine ⟨q, -1, Ev.now 1 (fun k => ?_), by rw [quotS, if_pos h1]; exact h2, Or.inl ⟨by omega, rfl⟩⟩
    simp only [spec_closed.l0]
    rw [if_neg (by rw [mk_size]; omega)]
  | succ n ih =>
    intro q K esc x hn hk hpq hq he g hx hv
    obtain ⟨K, rfl⟩ : ∃ m, K = m + 1 := ⟨K - 1, by omega⟩
    by_cases hend : q = l.length
    · obtain ⟨h1, h2⟩ := went_end g hx hend
      refine ⟨q, -1, Ev.now 1 (fun k => ?_), by rw [quotS, if_pos h1]; exact h2, Or.inl ⟨hend, rfl⟩⟩
      simp only [spec_closed.l0]
      rw [if_neg (by rw [mk_size]; omega)]
    · have c := charAt_of l hs q (by omega) hv
      obtain ⟨hr, hw⟩ := went_next g hx c
      have hne : nextR (mk l) x.p ≠ -1 := by rw [hr]; omega
      have hfit := c.fit
      rw [quotS, if_neg hne]
      by_cases ha : (l.getD q 0).toNat < 128
      · have hd := c.asc ha
        have hr' : nextR (mk l) x.p = ((l.getD q 0).toNat : Int) := by rw [hr, hd]
        have e92 : (((l.getD q 0).toNat : Int) = 92) ↔ l.getD q 0 = 92 := byte_eq (l.getD q 0) 92 92 rfl
        have e34 : (((l.getD q 0).toNat : Int) = 34) ↔ l.getD q 0 = 34 := byte_eq (l.getD q 0) 34 34 rfl
        rw [hd] at hw
        have hbs : bsN l p (q + 1 - p - 1) = if l.getD q 0 = 92 then bsN l p (q - p - 1) + 1 else 0 := by
          rw [show q + 1 - p - 1 = (q - p - 1) + 1 from by omega, bsN, show p + 1 + (q - p - 1) = q from by omega]
        have go : ∀ esc' : Bool, esc' = decide (bsN l p (q + 1 - p - 1) % 2 = 1) → ¬ (l.getD q 0 = 34 ∧ bsN l p (q - p - 1) % 2 = 0) → ∃ (e : Nat) (v : Int), Ev (fun k => spec_closed.l0 k (mk l) (p : Int) (q : Int)) v ∧ Went l x (quotS (mk l) K esc' (nextS (mk l) x)) q e ∧ ClosAt l e v := fun esc' h1 h2 => by
          obtain ⟨e, v, e1, e2, e3⟩ := ih (q + 1) K esc' (nextS (mk l) x) (by omega) (by omega) (by omega) (by omega) h1 hw.g hw.yp hw.valid
          exact ⟨e, v, clos_pass l p q hl hpq (by omega) v h2 e1, hw.trans e2, e3⟩
        cases esc
        · have hev : bsN l p (q - p - 1) % 2 = 0 := by
            have := of_decide_eq_false he.symm
            omega
          rw [if_neg (by decide), hr']
          by_cases h92 : l.getD q 0 = 92
          · rw [if_pos (e92.2 h92)]
            refine go true ?_ (fun h => by rw [h92] at h; exact absurd h.1 (by decide))
            rw [hbs, if_pos h92]
            symm
            apply decide_eq_true
            omega
          · rw [if_neg (fun h => h92 (e92.1 h))]
            by_cases h34 : l.getD q 0 = 34
            · rw [if_pos (e34.2 h34)]
              refine ⟨q, ((q + 1 : Nat) : Int), clos_step l p q hl hpq (by omega) _ ?_, went_back g hx hq hv, Or.inr ⟨by omega, h34, rfl⟩⟩
              have e : ∀ k, closFin l p q k (bsN l p (q - p - 1)) = some (((q + 1 : Nat) : Int)) := fun k => by
                unfold closFin
                rw [if_pos h34, if_pos hev]
              simp only [e]
              exact Ev.const _
            · rw [if_neg (fun h => h34 (e34.1 h))]
              refine go false ?_ (fun h => h34 h.1)
              rw [hbs, if_neg h92]
              rfl
        · have hod : bsN l p (q - p - 1) % 2 = 1 := of_decide_eq_true he.symm
          rw [if_pos rfl]
          refine go false ?_ (fun h => by omega)
          rw [hbs]
          symm
          apply decide_eq_false
          split <;> omega
      · obtain ⟨_, q2, q3, q4⟩ := c.high (by omega)
        have h92 : ¬ (nextR (mk l) x.p = 92) := by rw [hr]; omega
        have h34 : ¬ (nextR (mk l) x.p = 34) := by rw [hr]; omega
        have same : (if esc = true then quotS (mk l) K false (nextS (mk l) x) else if nextR (mk l) x.p = 92 then quotS (mk l) K true (nextS (mk l) x) else if nextR (mk l) x.p = 34 then backS (nextS (mk l) x) else quotS (mk l) K false (nextS (mk l) x)) = quotS (mk l) K false (nextS (mk l) x) := by
          rw [if_neg h92, if_neg h34]
          split <;> rfl
        rw [same]
        have hz : bsN l p (q + (Utf8.decode (mk l) q).2 - p - 1) = 0 := by
          obtain ⟨m, hm⟩ : ∃ m, q + (Utf8.decode (mk l) q).2 - p - 1 = m + 1 := ⟨q + (Utf8.decode (mk l) q).2 - p - 2, by omega⟩
          rw [hm, bsN, if_neg]
          intro e
          have := q4 (p + 1 + m) (by omega) (by omega)
          rw [e] at this
          exact absurd this (by decide)
        obtain ⟨e, v, e1, e2, e3⟩ := ih (q + (Utf8.decode (mk l) q).2) K false (nextS (mk l) x) (by omega) (by omega) (by omega) (by omega) (by rw [hz]; rfl) hw.g hw.yp hw.valid
        exact ⟨e, v, clos_over l p hl v _ q hpq (by omega) q4 e1, hw.trans e2, e3⟩
end Go.Proofs.YtnnhehlieakedaaGreatDoor.Q
namespace Go.Proofs.YtnnhehlieakedaaGreatDoor.Q
open Go.RowKit Go.Lib Go.Proofs.YtnnhehlieakedaaGreatDoorW.PrintWords Go.Proofs.YtnnhehlieakedaaGreatDoorW.PrintLast Go.Proofs.YtnnhehlieakedaaGreatDoorW.PrintMore
section
variable {l : List UInt8} {x : LSt} {p : Nat}
theorem op33 (hs : Settled l) (g : LGd (mk l) x) (hx : x.p = (p : Int)) (hp : p < l.length) (hv : validD (l.drop p) = true) (hc : l.getD p 0 = 33) :
    (l.getD (p + 1) 0 = 61 → ∃ y, opF (mk l) x = (some 5, y) ∧ Went l x y p (p + 2)) ∧ (l.getD (p + 1) 0 = 126 → ∃ y, opF (mk l) x = (some 7, y) ∧ Went l x y p (p + 2)) ∧ (l.getD (p + 1) 0 ≠ 61 → l.getD (p + 1) 0 ≠ 126 → (opF (mk l) x).1 = none) := by
  obtain ⟨b1, w1⟩ := ac_is l hs 33 (by decide) (by decide) ⟨#[33]⟩ hasQ33 g hx (by omega) hv
  rw [if_pos hc] at w1
  rw [decide_eq_true hc] at b1
  obtain ⟨b2, w2⟩ := ac_is l hs 61 (by decide) (by decide) ⟨#[61]⟩ hasQ61 w1.g w1.yp w1.lt w1.valid
  unfold opF
  rw [b1, if_pos rfl, b2]
  refine ⟨fun h => ?_, fun h => ?_, fun h1 h2 => ?_⟩
  · rw [if_pos h] at w2
    rw [decide_eq_true h, if_pos rfl]
    exact ⟨_, rfl, w1.trans w2⟩
  · have hn : ¬ (l.getD (p + 1) 0 = 61) := by rw [h]; decide
    rw [if_neg hn] at w2
    obtain ⟨b3, w3⟩ := ac_is l hs 126 (by decide) (by decide) ⟨#[126]⟩ hasQ126 w2.g w2.yp w2.lt w2.valid
    rw [if_pos h] at w3
    rw [decide_eq_false hn, if_neg (by decide), b3, decide_eq_true h, if_pos rfl]
    exact ⟨_, rfl, (w1.trans w2).trans w3⟩
  · rw [if_neg h1] at w2
    obtain ⟨b3, w3⟩ := ac_is l hs 126 (by decide) (by decide) ⟨#[126]⟩ hasQ126 w2.g w2.yp w2.lt w2.valid
    rw [decide_eq_false h1, if_neg (by decide), b3, decide_eq_false h2, if_neg (by decide)]
theorem op61 (hs : Settled l) (g : LGd (mk l) x) (hx : x.p = (p : Int)) (hp : p < l.length) (hv : validD (l.drop p) = true) (hc : l.getD p 0 = 61) :
    (l.getD (p + 1) 0 = 126 → ∃ y, opF (mk l) x = (some 6, y) ∧ Went l x y p (p + 2)) ∧ (l.getD (p + 1) 0 ≠ 126 → ∃ y, opF (mk l) x = (some 4, y) ∧ Went l x y p (p + 1)) := by
  have hn : ¬ (l.getD p 0 = 33) := by rw [hc]; decide
  obtain ⟨b1, w1⟩ := ac_is l hs 33 (by decide) (by decide) ⟨#[33]⟩ hasQ33 g hx (by omega) hv
  rw [if_neg hn] at w1
  rw [decide_eq_false hn] at b1
  obtain ⟨b2, w2⟩ := ac_is l hs 61 (by decide) (by decide) ⟨#[61]⟩ hasQ61 w1.g w1.yp w1.lt w1.valid
  rw [if_pos hc] at w2
  rw [decide_eq_true hc] at b2
  obtain ⟨b3, w3⟩ := ac_is l hs 126 (by decide) (by decide) ⟨#[126]⟩ hasQ126 w2.g w2.yp w2.lt w2.valid
  unfold opF
  rw [b1, if_neg (by decide), b2, if_pos rfl, b3]
  refine ⟨fun h => ?_, fun h => ?_⟩
  · rw [if_pos h] at w3
    rw [decide_eq_true h, if_pos rfl]
    exact ⟨_, rfl, (w1.trans w2).trans w3⟩
  · rw [if_neg h] at w3
    rw [decide_eq_false h, if_neg (by decide)]
    exact ⟨_, rfl, (w1.trans w2).trans w3⟩
theorem quo34 (hs : Settled l) (hl : l.length ≤ 10000000) (g : LGd (mk l) x) (hx : x.p = (p : Int)) (hp : p < l.length) (hv : validD (l.drop p) = true) (hc : l.getD p 0 = 34) :
    ∃ v : Int, Ev (fun k => spec_closed.f k (mk l) (p : Int)) v ∧ ((¬ v > 0 ∧ (quoF (mk l) x).1 = none) ∨ (v > 0 ∧ ∃ (e : Nat) (y : LSt), v = (e : Int) ∧ p < e ∧ quoF (mk l) x = (some 8, y) ∧ Went l x y p e)) := by
  obtain ⟨b1, w1⟩ := ac_is l hs 34 (by decide) (by decide) ⟨#[34]⟩ hasQ34 g hx (by omega) hv
  rw [if_pos hc] at w1
  rw [decide_eq_true hc] at b1
  obtain ⟨e, v, e1, w2, e3⟩ := quot_is l hs hl p (l.length - (p + 1)) (p + 1) ((mk l).size + 1) false _ (Nat.le_refl _) (by rw [mk_size]; omega) (by omega) w1.lt (by rw [show p + 1 - p - 1 = 0 from by omega]; rfl) w1.g w1.yp w1.valid
  obtain ⟨b3, w3⟩ := ac_is l hs 34 (by decide) (by decide) ⟨#[34]⟩ hasQ34 w2.g w2.yp w2.lt w2.valid
  refine ⟨v, ?_, ?_⟩
  · unfold spec_closed.f
    rw [w64s p (by omega)]
    exact e1
  · unfold quoF
    rw [b1, if_pos rfl, b3]
    rcases e3 with ⟨h1, h2⟩ | ⟨h1, h2, h3⟩
    · have hn : ¬ (l.getD e 0 = 34) := by
        rw [List.getD_eq_getElem?_getD, List.getElem?_eq_none (by omega)]
        decide
      exact Or.inl ⟨by omega, by rw [decide_eq_false hn]; rfl⟩
    · rw [if_pos h2] at w3
      have := w2.le
      exact Or.inr ⟨by omega, e + 1, _, h3, by omega, by rw [decide_eq_true h2]; rfl, (w1.trans w2).trans w3⟩
theorem pair_is (l : List UInt8) (p : Nat) (hp : p < l.length) (hl : l.length ≤ 10000000) : ∃ pr : ByteArray, (∀ a b : UInt8, b ≠ 0 → (pr.toList = [a, b] ↔ (l.getD p 0 = a ∧ l.getD (p + 1) 0 = b))) ∧ ∀ k, spec_token.f k (mk l) (p : Int) = spec_token.j0 k (mk l) (p : Int) pr := by
  have hw : wrap64 ((p : Int) + 2) = ((p + 2 : Nat) : Int) := by rw [w64i _ (by omega) (by omega)]; omega
  unfold spec_token.f
  rw [hw, mk_size]
  by_cases h : p + 2 ≤ l.length
  · refine ⟨(mk l).extract p (p + 2), fun a b hb => ?_, fun k => ?_⟩
    · rw [mk_extract, mk_list, show p + 2 - p = 2 from by omega, List.drop_eq_getElem_cons hp, List.drop_eq_getElem_cons (by omega : p + 1 < l.length), List.getD_eq_getElem?_getD, List.getD_eq_getElem?_getD, List.getElem?_eq_getElem hp, List.getElem?_eq_getElem (by omega : p + 1 < l.length)]
      simp only [List.take_succ_cons, List.take_zero, Option.getD_some, List.cons.injEq, and_true]
    · rw [if_pos (by omega), if_pos (by omega), if_pos (by omega)]
      rfl
  · refine ⟨⟨#[]⟩, fun a b hb => ⟨fun e => ?_, fun e => ?_⟩, fun k => ?_⟩
    · have : (⟨#[]⟩ : ByteArray).toList = [] := by decide +kernel
      rw [this] at e
      cases e
    · have : l.getD (p + 1) 0 = 0 := by
        rw [List.getD_eq_getElem?_getD, List.getElem?_eq_none (by omega)]
        rfl
      exact absurd (e.2.symm.trans this) hb
    · rw [if_neg (by omega)]
/-- One token. -/
theorem token_is (hs : Settled l) (hl : l.length ≤ 10000000) (g : LGd (mk l) x) (hx : x.p = (p : Int)) (hp : p < l.length) (hv : validD (l.drop p) = true) (hb : sblk (l.getD p 0) = false) :
    ∃ (kd e : Int), Ev (fun k => spec_token.f k (mk l) (p : Int)) (kd, e) ∧ ((kd = 0 ∧ ∃ y, scan1 (mk l) x = some (.bad, y)) ∨ (kd ≠ 0 ∧ ∃ (j : Nat) (y : LSt), e = (j : Int) ∧ p < j ∧ scan1 (mk l) x = some (.tok kd, y) ∧ Went l x y p j)) := by
  obtain ⟨pr, hpr, hf⟩ := pair_is l p hp hl
  have c := charAt_of l hs p hp hv
  obtain ⟨hr, hw⟩ := went_next g hx c
  have wb := went_back g hx (by omega) hv
  have p1 := hpr 61 126 (by decide)
  have p2 := hpr 33 61 (by decide)
  have p3 := hpr 33 126 (by decide)
  have hj : ∀ k, spec_token.f (k + 1) (mk l) (p : Int) = if ((l.getD p 0).toNat : Int) = 123 then some (1, ((p + 1 : Nat) : Int)) else if ((l.getD p 0).toNat : Int) = 125 then some (2, ((p + 1 : Nat) : Int)) else if ((l.getD p 0).toNat : Int) = 44 then some (3, ((p + 1 : Nat) : Int)) else if pr.toList = ([61, 126] : List UInt8) then some (6, ((p + 2 : Nat) : Int)) else if pr.toList = ([33, 61] : List UInt8) then some (5, ((p + 2 : Nat) : Int)) else if pr.toList = ([33, 126] : List UInt8) then some (7, ((p + 2 : Nat) : Int)) else if ((l.getD p 0).toNat : Int) = 61 then some (4, ((p + 1 : Nat) : Int)) else if ((l.getD p 0).toNat : Int) = 34 then ((spec_closed.f k (mk l) (p : Int)).bind fun t => if t > 0 then some (8, t) else some (0, (p : Int))) else if sres (l.getD p 0) = true then some (0, (p : Int)) else spec_token.l0 k (mk l) (p : Int) := fun k => by
    rw [hf]
    simp only [spec_token.j0]
    have w2 : wrap64 ((p : Int) + 2) = ((p + 2 : Nat) : Int) := by rw [w64i _ (by omega) (by omega)]; omega
    rw [if_pos (by omega), if_pos (by rw [mk_size]; omega), bt_getD l p hp, w64s p (by omega), w2, sres_is]
    rfl
  have now : ∀ v, (∀ k, spec_token.f (k + 1) (mk l) (p : Int) = some v) → Ev (fun k => spec_token.f k (mk l) (p : Int)) v := fun v h => Ev.now 1 h
  have eq123 : (((l.getD p 0).toNat : Int) = 123) ↔ l.getD p 0 = 123 := byte_eq _ 123 123 rfl
  have eq125 : (((l.getD p 0).toNat : Int) = 125) ↔ l.getD p 0 = 125 := byte_eq _ 125 125 rfl
  have eq44 : (((l.getD p 0).toNat : Int) = 44) ↔ l.getD p 0 = 44 := byte_eq _ 44 44 rfl
  have eq61 : (((l.getD p 0).toNat : Int) = 61) ↔ l.getD p 0 = 61 := byte_eq _ 61 61 rfl
  have eq33 : (((l.getD p 0).toNat : Int) = 33) ↔ l.getD p 0 = 33 := byte_eq _ 33 33 rfl
  have eq34 : (((l.getD p 0).toNat : Int) = 34) ↔ l.getD p 0 = 34 := byte_eq _ 34 34 rfl
  have hne : ¬ (nextR (mk l) x.p = -1) := by rw [hr]; omega
  have word : ∀ (hq : sres (l.getD p 0) = false), (∀ k, spec_token.f (k + 1) (mk l) (p : Int) = spec_token.l0 k (mk l) (p : Int)) → scan1 (mk l) x = some (.tok 9, wordS (mk l) ((mk l).size + 1) (backS (nextS (mk l) x))) → ∃ (kd e : Int), Ev (fun k => spec_token.f k (mk l) (p : Int)) (kd, e) ∧ ((kd = 0 ∧ ∃ y, scan1 (mk l) x = some (.bad, y)) ∨ (kd ≠ 0 ∧ ∃ (j : Nat) (y : LSt), e = (j : Int) ∧ p < j ∧ scan1 (mk l) x = some (.tok kd, y) ∧ Went l x y p j)) := fun hq h1 h2 => by
    obtain ⟨e, e1, e2, e3⟩ := word_is l hs hl (l.length - p) p ((mk l).size + 1) _ (Nat.le_refl _) (by rw [mk_size]; omega) (by omega) wb.g wb.yp hv
    exact ⟨9, e, Ev.step e1 1 h1, Or.inr ⟨by decide, e, _, rfl, e3 hp hq, h2, wb.trans e2⟩⟩
  by_cases ha : (l.getD p 0).toNat < 128
  · have hr' : nextR (mk l) x.p = ((l.getD p 0).toNat : Int) := by rw [hr, c.asc ha]
    rw [c.asc ha] at hw
    obtain ⟨hsp, hre⟩ := resR_asc _ ha
    have hsc : scan1 (mk l) x = if ((l.getD p 0).toNat : Int) = 123 then some (.tok 1, nextS (mk l) x) else if ((l.getD p 0).toNat : Int) = 125 then some (.tok 2, nextS (mk l) x) else if ((l.getD p 0).toNat : Int) = 44 then some (.tok 3, nextS (mk l) x) else if ((l.getD p 0).toNat : Int) = 61 ∨ ((l.getD p 0).toNat : Int) = 33 then some (Sc.of (opF (mk l) (backS (nextS (mk l) x))).1, (opF (mk l) (backS (nextS (mk l) x))).2) else if ((l.getD p 0).toNat : Int) = 34 then some (Sc.of (quoF (mk l) (backS (nextS (mk l) x))).1, (quoF (mk l) (backS (nextS (mk l) x))).2) else if sres (l.getD p 0) = false then some (.tok 9, wordS (mk l) ((mk l).size + 1) (backS (nextS (mk l) x))) else some (.bad, nextS (mk l) x) := by
      unfold scan1
      simp only []
      rw [if_neg hne, hr', hre, hsp, hb]
      rfl
    by_cases h1 : l.getD p 0 = 123
    · have e := eq123.2 h1
      exact ⟨1, ((p + 1 : Nat) : Int), now _ (fun k => by rw [hj, if_pos e]), Or.inr ⟨by decide, p + 1, _, rfl, by omega, by rw [hsc, if_pos e], hw⟩⟩
    have n1 := fun e => h1 (eq123.1 e)
    by_cases h2 : l.getD p 0 = 125
    · have e := eq125.2 h2
      exact ⟨2, ((p + 1 : Nat) : Int), now _ (fun k => by rw [hj, if_neg n1, if_pos e]), Or.inr ⟨by decide, p + 1, _, rfl, by omega, by rw [hsc, if_neg n1, if_pos e], hw⟩⟩
    have n2 := fun e => h2 (eq125.1 e)
    by_cases h3 : l.getD p 0 = 44
    · have e := eq44.2 h3
      exact ⟨3, ((p + 1 : Nat) : Int), now _ (fun k => by rw [hj, if_neg n1, if_neg n2, if_pos e]), Or.inr ⟨by decide, p + 1, _, rfl, by omega, by rw [hsc, if_neg n1, if_neg n2, if_pos e], hw⟩⟩
    have n3 := fun e => h3 (eq44.1 e)
    rw [if_neg n1, if_neg n2, if_neg n3] at hsc
    have hj3 : ∀ k, _ := fun k => (hj k).trans (by rw [if_neg n1, if_neg n2, if_neg n3])
    by_cases h4 : l.getD p 0 = 61
    · have e := eq61.2 h4
      rw [if_pos (Or.inl e)] at hsc
      obtain ⟨o1, o2⟩ := op61 hs wb.g wb.yp hp hv h4
      by_cases g1 : l.getD (p + 1) 0 = 126
      · obtain ⟨y, y1, y2⟩ := o1 g1
        rw [y1] at hsc
        exact ⟨6, ((p + 2 : Nat) : Int), now _ (fun k => by rw [hj3, if_pos (p1.2 ⟨h4, g1⟩)]), Or.inr ⟨by decide, p + 2, y, rfl, by omega, hsc, wb.trans y2⟩⟩
      · obtain ⟨y, y1, y2⟩ := o2 g1
        rw [y1] at hsc
        have q2 : ¬ (pr.toList = [33, 61]) := fun h => by have := (p2.1 h).1; rw [h4] at this; exact absurd this (by decide)
        have q3 : ¬ (pr.toList = [33, 126]) := fun h => by have := (p3.1 h).1; rw [h4] at this; exact absurd this (by decide)
        exact ⟨4, ((p + 1 : Nat) : Int), now _ (fun k => by rw [hj3, if_neg (fun h => g1 (p1.1 h).2), if_neg q2, if_neg q3, if_pos e]), Or.inr ⟨by decide, p + 1, y, rfl, by omega, hsc, wb.trans y2⟩⟩
    have n4 := fun e => h4 (eq61.1 e)
    by_cases h5 : l.getD p 0 = 33
    · have e := eq33.2 h5
      rw [if_pos (Or.inr e)] at hsc
      obtain ⟨o1, o2, o3⟩ := op33 hs wb.g wb.yp hp hv h5
      have q1 : ¬ (pr.toList = [61, 126]) := fun h => h4 (p1.1 h).1
      by_cases g1 : l.getD (p + 1) 0 = 61
      · obtain ⟨y, y1, y2⟩ := o1 g1
        rw [y1] at hsc
        exact ⟨5, ((p + 2 : Nat) : Int), now _ (fun k => by rw [hj3, if_neg q1, if_pos (p2.2 ⟨h5, g1⟩)]), Or.inr ⟨by decide, p + 2, y, rfl, by omega, hsc, wb.trans y2⟩⟩
      by_cases g2 : l.getD (p + 1) 0 = 126
      · obtain ⟨y, y1, y2⟩ := o2 g2
        rw [y1] at hsc
        exact ⟨7, ((p + 2 : Nat) : Int), now _ (fun k => by rw [hj3, if_neg q1, if_neg (fun h => g1 (p2.1 h).2), if_pos (p3.2 ⟨h5, g2⟩)]), Or.inr ⟨by decide, p + 2, y, rfl, by omega, hsc, wb.trans y2⟩⟩
      · rw [o3 g1 g2] at hsc
        have n34 : ¬ (((l.getD p 0).toNat : Int) = 34) := by rw [h5]; decide
        exact ⟨0, (p : Int), now _ (fun k => by rw [hj3, if_neg q1, if_neg (fun h => g1 (p2.1 h).2), if_neg (fun h => g2 (p3.1 h).2), if_neg n4, if_neg n34, if_pos (by rw [h5]; decide)]), Or.inl ⟨rfl, _, hsc⟩⟩
    have n5 := fun e => h5 (eq33.1 e)
    have hj7 : ∀ k, _ := fun k => (hj3 k).trans (by rw [if_neg (fun h => h4 (p1.1 h).1), if_neg (fun h => h5 (p2.1 h).1), if_neg (fun h => h5 (p3.1 h).1), if_neg n4])
    rw [if_neg (fun h => h.elim n4 n5)] at hsc
    by_cases h6 : l.getD p 0 = 34
    · have e := eq34.2 h6
      rw [if_pos e] at hsc
      have hj8 : ∀ k, _ := fun k => (hj7 k).trans (by rw [if_pos e])
      obtain ⟨v, v1, v2⟩ := quo34 hs hl wb.g wb.yp hp hv h6
      rcases v2 with ⟨a1, a2⟩ | ⟨a1, j, y, a2, a3, a4, a5⟩
      · rw [a2] at hsc
        exact ⟨0, (p : Int), Ev.step (Ev.bind (G := fun _ t => if t > 0 then some ((8 : Int), t) else some (0, (p : Int))) v1 (by rw [if_neg a1]; exact Ev.const _)) 1 hj8, Or.inl ⟨rfl, _, hsc⟩⟩
      · rw [a4] at hsc
        exact ⟨8, v, Ev.step (Ev.bind (G := fun _ t => if t > 0 then some ((8 : Int), t) else some (0, (p : Int))) v1 (by rw [if_pos a1]; exact Ev.const _)) 1 hj8, Or.inr ⟨by decide, j, y, a2, a3, hsc, wb.trans a5⟩⟩
    have n6 := fun e => h6 (eq34.1 e)
    rw [if_neg n6] at hsc
    have hj9 : ∀ k, _ := fun k => (hj7 k).trans (by rw [if_neg n6])
    cases hq : sres (l.getD p 0)
    · rw [hq, if_pos rfl] at hsc
      exact word hq (fun k => by rw [hj9, hq, if_neg (by decide)]) hsc
    · rw [hq, if_neg (by decide)] at hsc
      exact ⟨0, (p : Int), now _ (fun k => by rw [hj9, hq, if_pos rfl]), Or.inl ⟨rfl, _, hsc⟩⟩
  · obtain ⟨q1, q2, _, _⟩ := c.high (by omega)
    have nn : ∀ d : UInt8, d.toNat < 128 → ¬ (l.getD p 0 = d) := fun d hd e => by rw [e] at ha; exact ha hd
    refine word (sres_high _ (by omega)) (fun k => ?_) ?_
    · rw [hj, if_neg (fun e => nn 123 (by decide) (eq123.1 e)), if_neg (fun e => nn 125 (by decide) (eq125.1 e)), if_neg (fun e => nn 44 (by decide) (eq44.1 e)), if_neg (fun h => nn 61 (by decide) (p1.1 h).1), if_neg (fun h => nn 33 (by decide) (p2.1 h).1), if_neg (fun h => nn 33 (by decide) (p3.1 h).1), if_neg (fun e => nn 61 (by decide) (eq61.1 e)), if_neg (fun e => nn 34 (by decide) (eq34.1 e)), sres_high _ (by omega), if_neg (by decide)]
    · unfold scan1
      simp only []
      rw [if_neg hne, hr, if_neg (by omega), if_neg (by omega), if_neg (by omega), if_neg (by omega), if_neg (by omega), if_pos q1]
end
end Go.Proofs.YtnnhehlieakedaaGreatDoor.Q
namespace Go.Proofs.YtnnhehlieakedaaGreatDoor.Q
open Go.RowKit Go.Lib Go.Proofs.YtnnhehlieakedaaGreatDoorW.PrintWords Go.Proofs.YtnnhehlieakedaaGreatDoorW.PrintLast Go.Proofs.YtnnhehlieakedaaGreatDoorW.PrintMore
theorem ext_allZ (s : ByteArray) : s.extract 0 s.size = s := by
  apply ByteArray.ext
  simp [ByteArray.data_extract]
theorem runes_isZ (s : ByteArray) (hs : s.size ≤ 10000000) (d : Nat) : ∀ (pos k n : Nat), s.size - pos ≤ d → pos ≤ s.size → n ≤ pos → d + 14 ≤ k → spec_Runes.l0 k (s.extract pos s.size) (n : Int) = some ((n + (runesI s pos).length : Nat) : Int) := by
  have ends : ∀ pos k (n : Nat), ¬ pos < s.size → 1 ≤ k → spec_Runes.l0 k (s.extract pos s.size) (n : Int) = some ((n + (runesI s pos).length : Nat) : Int) := fun pos k n h hk => by
    obtain ⟨k, rfl⟩ : ∃ m, k = m + 1 := ⟨k - 1, by omega⟩
    have hz : (s.extract pos s.size).size = s.size - pos := by rw [ByteArray.size_extract]; omega
    simp only [spec_Runes.l0]
    rw [if_neg (by omega), runesI_end s pos h]
    rfl
  induction d with
  | zero => exact fun pos k n hd _ _ hk => ends pos k n (by omega) (by omega)
  | succ d ih =>
    intro pos k n hd hp hn hk
    by_cases h : pos < s.size
    · obtain ⟨k, rfl⟩ : ∃ m, k = m + 1 := ⟨k - 1, by omega⟩
      have hz : (s.extract pos s.size).size = s.size - pos := by rw [ByteArray.size_extract]; omega
      have hf := And.intro (Lib.width_pos s pos) (decode_fits0 s pos h)
      have hl := runeLen_is s pos h (k - 12)
      rw [Nat.sub_add_cancel (by omega : 12 ≤ k)] at hl
      have he := ext_extV s pos _ hf.2
      have hi := ih (pos + (Utf8.decode s pos).2) k (n + 1) (by omega) hf.2 (by omega) (by omega)
      have hw : wrap64 ((n : Int) + 1) = ((n + 1 : Nat) : Int) := w64s n (by omega)
      rw [runesI_go s pos h]
      simp only [spec_Runes.l0]
      rw [if_pos (by omega), hl]
      simp only [Option.bind_some]
      rw [Int.toNat_natCast, he, hw, hi]
      clear hl he hw hi ih
      rw [if_pos (by omega), if_pos (by omega)]
      congr 2
      simp
      omega
    · exact ends pos k n h (by omega)
theorem runes_ev (s : ByteArray) (hs : s.size ≤ 10000000) : Ev (fun k => spec_Runes.f k s) (((runesI s 0).length : Nat) : Int) := by
  refine ⟨s.size + 14, fun k hk => ?_⟩
  have := runes_isZ s hs s.size 0 k 0 (by omega) (by omega) (by omega) hk
  rw [ext_allZ, Nat.zero_add] at this
  exact this
/-- How many characters stand ahead of a place. -/
theorem runes_at (l : List UInt8) (hl : l.length ≤ 10000000) (p c : Nat) (hp : p ≤ l.length) (h : Steps (mk l) 0 p c) : Ev (fun k => spec_Runes.f k ((mk l).extract 0 p)) (c : Int) := by
  have hz : ((mk l).extract 0 p).size ≤ 10000000 := by rw [ByteArray.size_extract]; have := mk_size l; omega
  have e := runes_ev _ hz
  rw [h.runes (by rw [mk_size]; exact hp)] at e
  exact e
def cvT (t : S61) : S61 := ⟨t.f0, t.f1, t.f2, t.f3, t.f4, t.f5⟩
/-- toksF, its first scan with rounds of its own. -/
def toksJ (s : ByteArray) (K J : Nat) (x : LSt) : List S61 × Bool := match scanF s J x with
  | (.eof, _) => ([], true)
  | (.bad, _) => ([], false)
  | (.tok kd, y) => (tokD s kd y :: (toksF s K (emitS y)).1, (toksF s K (emitS y)).2)
theorem toksF_J (s : ByteArray) (K : Nat) (x : LSt) : toksF s (K + 1) x = toksJ s K (s.size + 1) x := rfl
theorem sblk_not (c : UInt8) (h : sblk c = true) : c.toNat < 128 ∧ sres c = true ∧ c.toNat ≠ 123 ∧ c.toNat ≠ 125 ∧ c.toNat ≠ 44 ∧ c.toNat ≠ 61 ∧ c.toNat ≠ 33 ∧ c.toNat ≠ 34 := by
  revert c
  exact allU8L (fun c => sblk c = true → c.toNat < 128 ∧ sres c = true ∧ c.toNat ≠ 123 ∧ c.toNat ≠ 125 ∧ c.toNat ≠ 44 ∧ c.toNat ≠ 61 ∧ c.toNat ≠ 33 ∧ c.toNat ≠ 34) (by decide +kernel)
theorem toks_is (l : List UInt8) (hs : Settled l) (hl : l.length ≤ 10000000) : ∀ (n p K J : Nat) (x : LSt) (acc : List S61) (c : Nat), l.length - p ≤ n → n ≤ l.length → n < K + 1 → n < J → p ≤ l.length → acc.length ≤ p → LGd (mk l) x → x.p = (p : Int) → x.st = (p : Int) → x.cl = (c : Int) → x.cs = (c : Int) → Steps (mk l) 0 p c → validD (l.drop p) = true →
    Ev (fun k => spec_Tokens.l0 k (mk l) acc (p : Int)) (acc ++ (toksJ (mk l) K J x).1.map cvT, if (toksJ (mk l) K J x).2 = true then 1 else 0) := by
  have ends : ∀ (p K J : Nat) (x : LSt) (acc : List S61), p = l.length → 0 < J → LGd (mk l) x → x.p = (p : Int) → Ev (fun k => spec_Tokens.l0 k (mk l) acc (p : Int)) (acc ++ (toksJ (mk l) K J x).1.map cvT, if (toksJ (mk l) K J x).2 = true then 1 else 0) := fun p K J x acc he hj g hx => by
    obtain ⟨J, rfl⟩ : ∃ m, J = m + 1 := ⟨J - 1, by omega⟩
    have h1 := (went_end g hx he).1
    have hsc : scanF (mk l) (J + 1) x = (.eof, nextS (mk l) x) := by
      rw [scanF]
      have : scan1 (mk l) x = some (.eof, nextS (mk l) x) := by
        unfold scan1
        simp only []
        rw [if_pos h1]
      rw [this]
    unfold toksJ
    rw [hsc]
    refine Ev.now 1 (fun k => ?_)
    simp only [spec_Tokens.l0]
    rw [if_neg (by rw [mk_size]; omega)]
    simp
  intro n
  induction n with
  | zero => exact fun p K J x acc c hn _ hk hj hp _ g hx _ _ _ _ _ => ends p K J x acc (by omega) (by omega) g hx
  | succ n ih =>
    intro p K J x acc c hn hn2 hk hj hp hac g hx hst hcl hcs hc hv
    by_cases he : p = l.length
    · exact ends p K J x acc he (by omega) g hx
    obtain ⟨J, rfl⟩ : ∃ m, J = m + 1 := ⟨J - 1, by omega⟩
    have hlt : p < l.length := by omega
    have ch := charAt_of l hs p hlt hv
    obtain ⟨hr, hw⟩ := went_next g hx ch
    have hne : ¬ (nextR (mk l) x.p = -1) := by rw [hr]; omega
    cases hb : sblk (l.getD p 0)
    · obtain ⟨kd, e, e1, e2⟩ := token_is hs hl g hx hlt hv hb
      have st : ∀ k, spec_Tokens.l0 (k + 1) (mk l) acc (p : Int) = (spec_token.f k (mk l) (p : Int)).bind fun t => if t.1 = 0 then some (acc, 0) else (if (p : Int) ≤ t.2 then (if t.2 ≤ ((mk l).size : Int) then (if (p : Int) ≤ ((mk l).size : Int) then ((spec_Runes.f k ((mk l).extract 0 p)).bind fun a => (if 0 ≤ t.2 then ((spec_Runes.f k ((mk l).extract 0 t.2.toNat)).bind fun b => (if acc.length < 2513169434916 then (spec_Tokens.l0 k (mk l) (acc ++ [(⟨t.1, (mk l).extract p t.2.toNat, (p : Int), t.2, a, b⟩ : S61)]) t.2) else none)) else none)) else none) else none) else none) := fun k => by
        simp only [spec_Tokens.l0]
        rw [if_pos (by rw [mk_size]; omega), if_pos (by omega), bt_getD l p hlt, sblk_is, hb, Option.bind_some, if_neg (by decide), Int.toNat_natCast]
      rcases e2 with ⟨h0, y, hy⟩ | ⟨h0, j, y, rfl, hpj, hy, hyw⟩
      · have hsc : scanF (mk l) (J + 1) x = (.bad, y) := by rw [scanF, hy]
        unfold toksJ
        rw [hsc]
        refine Ev.step (Ev.bind (G := fun k (t : Int × Int) => if t.1 = 0 then some (acc, 0) else (if (p : Int) ≤ t.2 then (if t.2 ≤ ((mk l).size : Int) then (if (p : Int) ≤ ((mk l).size : Int) then ((spec_Runes.f k ((mk l).extract 0 p)).bind fun a => (if 0 ≤ t.2 then ((spec_Runes.f k ((mk l).extract 0 t.2.toNat)).bind fun b => (if acc.length < 2513169434916 then (spec_Tokens.l0 k (mk l) (acc ++ [(⟨t.1, (mk l).extract p t.2.toNat, (p : Int), t.2, a, b⟩ : S61)]) t.2) else none)) else none)) else none) else none) else none)) e1 ?_) 1 st
        refine Ev.iteT h0 ?_
        simpa using Ev.const _
      · have hsc : scanF (mk l) (J + 1) x = (.tok kd, y) := by rw [scanF, hy]
        obtain ⟨m, m1, m2⟩ := hyw.steps
        have hjl := hyw.lt
        obtain ⟨K, rfl⟩ : ∃ m, K = m + 1 := ⟨K - 1, by omega⟩
        have yst : y.st = (p : Int) := by rw [hyw.same.1, hst]
        have ycl : y.cl = (c : Int) := by rw [hyw.same.2, hcl]
        have ycs : y.cs = ((m + c : Nat) : Int) := by rw [m2, hcs]; omega
        have yp := hyw.yp
        have hrec := ih j K ((mk l).size + 1) (emitS y) (acc ++ [cvT (tokD (mk l) kd y)]) (m + c) (by omega) (by omega) (by omega) (by rw [mk_size]; omega) hjl (by rw [List.length_append]; show acc.length + 1 ≤ j; omega) hyw.g.emit hyw.yp hyw.yp ycs ycs (hc.trans m1) hyw.valid
        have hcv : cvT (tokD (mk l) kd y) = (⟨kd, (mk l).extract p j, (p : Int), (j : Int), (c : Int), ((m + c : Nat) : Int)⟩ : S61) := by
          unfold cvT tokD
          rw [yst, ycl, ycs, yp]
          rfl
        have et : toksJ (mk l) (K + 1) (J + 1) x = (tokD (mk l) kd y :: (toksJ (mk l) K ((mk l).size + 1) (emitS y)).1, (toksJ (mk l) K ((mk l).size + 1) (emitS y)).2) := by
          unfold toksJ
          rw [hsc]
          rfl
        rw [et]
        simp only []
        rw [List.map_cons, List.append_cons]
        refine Ev.step (Ev.bind (G := fun k (t : Int × Int) => if t.1 = 0 then some (acc, 0) else (if (p : Int) ≤ t.2 then (if t.2 ≤ ((mk l).size : Int) then (if (p : Int) ≤ ((mk l).size : Int) then ((spec_Runes.f k ((mk l).extract 0 p)).bind fun a => (if 0 ≤ t.2 then ((spec_Runes.f k ((mk l).extract 0 t.2.toNat)).bind fun b => (if acc.length < 2513169434916 then (spec_Tokens.l0 k (mk l) (acc ++ [(⟨t.1, (mk l).extract p t.2.toNat, (p : Int), t.2, a, b⟩ : S61)]) t.2) else none)) else none)) else none) else none) else none)) e1 ?_) 1 st
        have hz := mk_size l
        refine Ev.iteF h0 (Ev.iteT (by show (p : Int) ≤ (j : Int); omega) (Ev.iteT (by show (j : Int) ≤ _; omega) (Ev.iteT (by omega) ?_)))
        refine Ev.bind (G := fun k a => (if 0 ≤ (j : Int) then ((spec_Runes.f k ((mk l).extract 0 (j : Int).toNat)).bind fun b => (if acc.length < 2513169434916 then (spec_Tokens.l0 k (mk l) (acc ++ [(⟨kd, (mk l).extract p (j : Int).toNat, (p : Int), (j : Int), a, b⟩ : S61)]) (j : Int)) else none)) else none)) (runes_at l hl p c hp hc) ?_
        refine Ev.iteT (by omega) ?_
        refine Ev.bind (G := fun k b => (if acc.length < 2513169434916 then (spec_Tokens.l0 k (mk l) (acc ++ [(⟨kd, (mk l).extract p (j : Int).toNat, (p : Int), (j : Int), (c : Int), b⟩ : S61)]) (j : Int)) else none)) (by rw [Int.toNat_natCast]; exact runes_at l hl j (m + c) hjl (hc.trans m1)) ?_
        refine Ev.iteT (by omega) ?_
        rw [hcv] at hrec
        rw [hcv]
        exact hrec
    · obtain ⟨ha, hq, c1, c2, c3, c4, c5, c6⟩ := sblk_not _ hb
      have hd := ch.asc ha
      rw [hd] at hw
      obtain ⟨hsp, hre⟩ := resR_asc _ ha
      have hsc : scanF (mk l) (J + 1) x = scanF (mk l) J (skipS (nextS (mk l) x)) := by
        have : scan1 (mk l) x = none := by
          unfold scan1
          simp only []
          rw [if_neg hne, hr, hd]
          simp only []
          rw [if_neg (by omega), if_neg (by omega), if_neg (by omega), if_neg (by omega), if_neg (by omega), hre, hq, if_neg (by decide), hsp, hb, if_pos rfl]
        rw [scanF, this]
      obtain ⟨m, m1, m2⟩ := hw.steps
      have ycs : (nextS (mk l) x).cs = ((m + c : Nat) : Int) := by rw [m2, hcs]; omega
      have hrec := ih (p + 1) K J (skipS (nextS (mk l) x)) acc (m + c) (by omega) (by omega) (by omega) (by omega) (by omega) (by omega) hw.g.emit hw.yp hw.yp ycs ycs (hc.trans m1) hw.valid
      have e : toksJ (mk l) K (J + 1) x = toksJ (mk l) K J (skipS (nextS (mk l) x)) := by unfold toksJ; rw [hsc]
      rw [e]
      refine Ev.step hrec 1 (fun k => ?_)
      simp only [spec_Tokens.l0]
      rw [if_pos (by rw [mk_size]; omega), if_pos (by omega), bt_getD l p hlt, sblk_is, hb, Option.bind_some, if_pos rfl, w64s p (by omega)]
end Go.Proofs.YtnnhehlieakedaaGreatDoor.Q
