/- Characters of a text in plain Lean: how many bytes the reference says that a character has is how many the model's decoder takes. No condition. -/
import Derived.Test.YtkbaihcamimnjaaDoorHKinds
import Derived.Test.YtkbaihcamimnjaaDoorQspecruneLen
import Derived.Laws.RangeAny
set_option linter.unusedVariables false
set_option linter.unusedSimpArgs false
namespace Go.Proofs.YtkbaihcamimnjaaDoor.Q
open Go.RowKit Go.Proofs.YtkbaihcamimnjaaDoorW.PrintWords Go.Proofs.YtkbaihcamimnjaaDoorW.PrintLast Go.Proofs.YtkbaihcamimnjaaDoorW.PrintMore
/-- How many bytes the first of n bytes' characters has. -/
def dW (n b0 b1 b2 b3 : Nat) : Nat :=
  if 194 ≤ b0 ∧ b0 ≤ 223 ∧ 2 ≤ n ∧ 128 ≤ b1 ∧ b1 ≤ 191 then 2
  else if 224 ≤ b0 ∧ b0 ≤ 239 ∧ 3 ≤ n ∧ (b0 = 224 → 160 ≤ b1) ∧ (b0 = 237 → b1 ≤ 159) ∧ 128 ≤ b1 ∧ b1 ≤ 191 ∧ 128 ≤ b2 ∧ b2 ≤ 191 then 3
  else if 240 ≤ b0 ∧ b0 ≤ 244 ∧ 4 ≤ n ∧ (b0 = 240 → 144 ≤ b1) ∧ (b0 = 244 → b1 ≤ 143) ∧ 128 ≤ b1 ∧ b1 ≤ 191 ∧ 128 ≤ b2 ∧ b2 ≤ 191 ∧ 128 ≤ b3 ∧ b3 ≤ 191 then 4
  else 1
/-- A byte of a text, or 0. -/
def by1 (s : ByteArray) (i : Nat) : Nat := (s.get! i).toNat
theorem by1_lt (s : ByteArray) (i : Nat) : by1 s i < 256 := by unfold by1; exact UInt8.toNat_lt _
theorem bt_nat' (s : ByteArray) (n : Nat) (h : n < s.size) : bt s (n : Int) = ((s[n]'h).toNat : Int) := by
  have := (bt_at s (n : Int)) (by simpa using h)
  rw [← this]; simp
theorem by1_at (s : ByteArray) (i : Nat) (h : i < s.size) : bt s (i : Int) = (by1 s i : Int) := by
  rw [bt_nat' s i h]
  obtain ⟨⟨l⟩⟩ := s
  have h' : i < l.length := h
  simp [by1, ByteArray.get!, h']
  rfl
theorem by1_ext (s : ByteArray) (i j : Nat) (h : i + j < s.size) : bt (s.extract i s.size) (j : Int) = (by1 s (i + j) : Int) := by
  have hz : (s.extract i s.size).size = s.size - i := by rw [ByteArray.size_extract]; omega
  rw [bt_nat' (s.extract i s.size) j (by omega), ← by1_at s (i + j) h, bt_nat' s (i + j) h, ByteArray.getElem_extract]
def dE (n b0 b1 b2 b3 : Nat) : Nat :=
  if n = 0 then 0 else if dW n b0 b1 b2 b3 = 2 then (b0 % 32) * 64 + b1 % 64
  else if dW n b0 b1 b2 b3 = 3 then (b0 % 16) * 4096 + (b1 % 64) * 64 + b2 % 64
  else if dW n b0 b1 b2 b3 = 4 then (b0 % 8) * 262144 + (b1 % 64) * 4096 + (b2 % 64) * 64 + b3 % 64
  else if b0 < 128 then b0 else 65533
theorem dW_not2 {n b0 b1 b2 b3 : Nat} (h : ¬ (194 ≤ b0 ∧ b0 ≤ 223 ∧ 2 ≤ n ∧ 128 ≤ b1 ∧ b1 ≤ 191)) (h3 : ¬ (224 ≤ b0 ∧ b0 ≤ 239 ∧ 3 ≤ n ∧ (b0 = 224 → 160 ≤ b1) ∧ (b0 = 237 → b1 ≤ 159) ∧ 128 ≤ b1 ∧ b1 ≤ 191 ∧ 128 ≤ b2 ∧ b2 ≤ 191))
    (h4 : ¬ (240 ≤ b0 ∧ b0 ≤ 244 ∧ 4 ≤ n ∧ (b0 = 240 → 144 ≤ b1) ∧ (b0 = 244 → b1 ≤ 143) ∧ 128 ≤ b1 ∧ b1 ≤ 191 ∧ 128 ≤ b2 ∧ b2 ≤ 191 ∧ 128 ≤ b3 ∧ b3 ≤ 191)) : dW n b0 b1 b2 b3 = 1 := by
  unfold dW; rw [if_neg h, if_neg h3, if_neg h4]
theorem dW_2 {n b0 b1 b2 b3 : Nat} (h : 194 ≤ b0 ∧ b0 ≤ 223 ∧ 2 ≤ n ∧ 128 ≤ b1 ∧ b1 ≤ 191) : dW n b0 b1 b2 b3 = 2 := by unfold dW; rw [if_pos h]
theorem dW_3 {n b0 b1 b2 b3 : Nat} (h3 : 224 ≤ b0 ∧ b0 ≤ 239 ∧ 3 ≤ n ∧ (b0 = 224 → 160 ≤ b1) ∧ (b0 = 237 → b1 ≤ 159) ∧ 128 ≤ b1 ∧ b1 ≤ 191 ∧ 128 ≤ b2 ∧ b2 ≤ 191) : dW n b0 b1 b2 b3 = 3 := by
  unfold dW; rw [if_neg (by omega), if_pos h3]
theorem dW_4 {n b0 b1 b2 b3 : Nat} (h4 : 240 ≤ b0 ∧ b0 ≤ 244 ∧ 4 ≤ n ∧ (b0 = 240 → 144 ≤ b1) ∧ (b0 = 244 → b1 ≤ 143) ∧ 128 ≤ b1 ∧ b1 ≤ 191 ∧ 128 ≤ b2 ∧ b2 ≤ 191 ∧ 128 ≤ b3 ∧ b3 ≤ 191) : dW n b0 b1 b2 b3 = 4 := by
  unfold dW; rw [if_neg (by omega), if_neg (by omega), if_pos h4]
set_option maxRecDepth 100000 in
theorem decode_is (s : ByteArray) (i : Nat) (hi : i < s.size) : Utf8.decode s i = (dE (s.size - i) (by1 s i) (by1 s (i + 1)) (by1 s (i + 2)) (by1 s (i + 3)), dW (s.size - i) (by1 s i) (by1 s (i + 1)) (by1 s (i + 2)) (by1 s (i + 3))) := by
  have g0 : (s.get! i).toNat = by1 s i := rfl
  have g1 : (s.get! (i + 1)).toNat = by1 s (i + 1) := rfl
  have g2 : (s.get! (i + 2)).toNat = by1 s (i + 2) := rfl
  have g3 : (s.get! (i + 3)).toNat = by1 s (i + 3) := rfl
  have l0 := by1_lt s i
  have l1 := by1_lt s (i + 1)
  have l2 := by1_lt s (i + 2)
  have l3 := by1_lt s (i + 3)
  unfold Utf8.decode
  simp only [Nat.add_zero, g0, g1, g2, g3]
  generalize by1 s i = b0 at *
  generalize by1 s (i + 1) = b1 at *
  generalize by1 s (i + 2) = b2 at *
  generalize by1 s (i + 3) = b3 at *
  clear g0 g1 g2 g3
  obtain ⟨n, hn⟩ : ∃ n, s.size = i + n := ⟨s.size - i, by omega⟩
  have en : s.size - i = n := by omega
  have c1 : (i + 1 < s.size) = (1 < n) := by rw [hn]; simp
  have c2 : (i + 2 < s.size) = (2 < n) := by rw [hn]; simp
  have c3 : (i + 3 < s.size) = (3 < n) := by rw [hn]; simp
  simp only [en, c1, c2, c3]
  have hn0 : 0 < n := by omega
  clear en c1 c2 c3 hn hi
  have hval : ∀ c : Nat, (Utf8.valid (c : Int) = true) = (c < 55296 ∨ (57344 ≤ c ∧ c ≤ 1114111)) := fun c => by
    apply propext
    unfold Utf8.valid
    simp only [Bool.or_eq_true, Bool.and_eq_true, decide_eq_true_eq]
    omega
  unfold Utf8.runeError
  have q1 : (b1 / 64 = 2) = (128 ≤ b1 ∧ b1 ≤ 191) := by apply propext; omega
  have q2 : (b2 / 64 = 2) = (128 ≤ b2 ∧ b2 ≤ 191) := by apply propext; omega
  have q3 : (b3 / 64 = 2) = (128 ≤ b3 ∧ b3 ≤ 191) := by apply propext; omega
  have p2 : (b0 / 32 = 6) = (192 ≤ b0 ∧ b0 ≤ 223) := by apply propext; omega
  have p3 : (b0 / 16 = 14) = (224 ≤ b0 ∧ b0 ≤ 239) := by apply propext; omega
  have p4 : (b0 / 8 = 30) = (240 ≤ b0 ∧ b0 ≤ 247) := by apply propext; omega
  simp only [Bool.and_eq_true, decide_eq_true_eq, beq_iff_eq, q1, q2, q3, p2, p3, p4, hval]
  clear q1 q2 q3 p2 p3 p4 hval
  by_cases w2 : 194 ≤ b0 ∧ b0 ≤ 223 ∧ 2 ≤ n ∧ 128 ≤ b1 ∧ b1 ≤ 191
  · unfold dE; rw [dW_2 w2]
    rw [if_neg (by omega), if_pos (by omega), if_pos (by omega), if_neg (by omega), if_pos rfl]
  by_cases w3 : 224 ≤ b0 ∧ b0 ≤ 239 ∧ 3 ≤ n ∧ (b0 = 224 → 160 ≤ b1) ∧ (b0 = 237 → b1 ≤ 159) ∧ 128 ≤ b1 ∧ b1 ≤ 191 ∧ 128 ≤ b2 ∧ b2 ≤ 191
  · unfold dE; rw [dW_3 w3]
    rw [if_neg (by omega), if_neg (by omega), if_pos (by omega), if_pos (by omega), if_neg (by omega), if_neg (by omega), if_pos rfl]
  by_cases w4 : 240 ≤ b0 ∧ b0 ≤ 244 ∧ 4 ≤ n ∧ (b0 = 240 → 144 ≤ b1) ∧ (b0 = 244 → b1 ≤ 143) ∧ 128 ≤ b1 ∧ b1 ≤ 191 ∧ 128 ≤ b2 ∧ b2 ≤ 191 ∧ 128 ≤ b3 ∧ b3 ≤ 191
  · unfold dE; rw [dW_4 w4]
    rw [if_neg (by omega), if_neg (by omega), if_neg (by omega), if_pos (by omega), if_pos (by omega), if_neg (by omega), if_neg (by omega), if_neg (by omega), if_pos rfl]
  unfold dE; rw [dW_not2 w2 w3 w4]
  rw [if_neg (by omega : ¬ n = 0), if_neg (by omega : ¬ (1 : Nat) = 2), if_neg (by omega : ¬ (1 : Nat) = 3), if_neg (by omega : ¬ (1 : Nat) = 4)]
  by_cases h0 : b0 < 128
  · rw [if_pos h0, if_pos h0]
  rw [if_neg h0, if_neg h0]
  repeat' split
  all_goals first | rfl | (exfalso; omega)
theorem len_step (k : Nat) (t : ByteArray) (x4 x5 x6 x7 : Int) (h0 : 0 ≤ x7) (h1 : x7 < x4) (h2 : x4 ≤ t.size) (h3 : x7 ≤ 10) :
    spec_runeLen.l0 (k + 1) t x4 x5 x6 x7 = if bt t x7 < x5 ∨ x6 < bt t x7 then some 1 else spec_runeLen.l0 k t x4 128 191 (x7 + 1) := by
  have e : wrap64 (x7 + 1) = x7 + 1 := by unfold wrap64; omega
  simp only [spec_runeLen.l0]
  rw [if_pos h1, if_pos h0, if_pos (by omega), e]
  by_cases h : bt t x7 < x5
  · rw [if_pos h, if_pos (.inl h)]
  · rw [if_neg h]
    by_cases h' : bt t x7 > x6
    · rw [if_pos h', if_pos (.inr h')]
    · rw [if_neg h', if_neg (by omega)]
theorem len_end (k : Nat) (t : ByteArray) (x4 x5 x6 : Int) : spec_runeLen.l0 (k + 1) t x4 x5 x6 x4 = some x4 := by
  simp only [spec_runeLen.l0]
  rw [if_neg (by omega)]
theorem len_j3 (k : Nat) (t : ByteArray) (x4 x5 x6 : Int) : spec_runeLen.j3 (k + 1) t x4 x5 x6 = if x4 > (t.size : Int) then some 1 else spec_runeLen.l0 k t x4 x5 x6 1 := rfl
set_option maxHeartbeats 1000000 in
theorem runeLen_is (s : ByteArray) (i : Nat) (hi : i < s.size) (k : Nat) : spec_runeLen.f (k + 12) (s.extract i s.size) = some ((Utf8.decode s i).2 : Int) := by
  rw [decode_is s i hi]
  have hz : (s.extract i s.size).size = s.size - i := by rw [ByteArray.size_extract]; omega
  have l0 := by1_lt s i
  have l1 := by1_lt s (i + 1)
  have l2 := by1_lt s (i + 2)
  have l3 := by1_lt s (i + 3)
  have e0 : bt (s.extract i s.size) 0 = (by1 s i : Int) := by1_ext s i 0 (by omega)
  have e1 : i + 1 < s.size → bt (s.extract i s.size) 1 = (by1 s (i + 1) : Int) := fun h => by1_ext s i 1 h
  have e2 : i + 2 < s.size → bt (s.extract i s.size) 2 = (by1 s (i + 2) : Int) := fun h => by1_ext s i 2 h
  have e3 : i + 3 < s.size → bt (s.extract i s.size) 3 = (by1 s (i + 3) : Int) := fun h => by1_ext s i 3 h
  generalize s.extract i s.size = t at *
  generalize by1 s i = b0 at *
  generalize by1 s (i + 1) = b1 at *
  generalize by1 s (i + 2) = b2 at *
  generalize by1 s (i + 3) = b3 at *
  obtain ⟨n, hn⟩ : ∃ n, s.size = i + n := ⟨s.size - i, by omega⟩
  have en : s.size - i = n := by omega
  rw [hn] at e1 e2 e3
  rw [en] at hz ⊢
  have hn0 : 0 < n := by omega
  have e1 : 1 < n → bt t 1 = (b1 : Int) := fun h => e1 (by omega)
  have e2 : 2 < n → bt t 2 = (b2 : Int) := fun h => e2 (by omega)
  have e3 : 3 < n → bt t 3 = (b3 : Int) := fun h => e3 (by omega)
  clear en hn hi
  have two : ∀ k x5 x6, spec_runeLen.j3 (k + 5) t 2 x5 x6 = some (if 2 ≤ n ∧ ¬ ((b1 : Int) < x5 ∨ x6 < b1) then 2 else 1) := fun k x5 x6 => by
    rw [len_j3]
    by_cases h : 2 ≤ n
    · rw [if_neg (by omega), len_step _ _ _ _ _ _ (by omega) (by omega) (by omega) (by omega), e1 (by omega)]
      by_cases hb : (b1 : Int) < x5 ∨ x6 < b1
      · rw [if_pos hb, if_neg (by omega)]
      · rw [if_neg hb, if_pos ⟨h, hb⟩]; exact len_end _ _ _ _ _
    · rw [if_pos (by omega), if_neg (by omega)]
  have three : ∀ k x5 x6, spec_runeLen.j3 (k + 6) t 3 x5 x6 = some (if 3 ≤ n ∧ ¬ ((b1 : Int) < x5 ∨ x6 < b1) ∧ 128 ≤ b2 ∧ b2 ≤ 191 then 3 else 1) := fun k x5 x6 => by
    rw [len_j3]
    by_cases h : 3 ≤ n
    · rw [if_neg (by omega), len_step _ _ _ _ _ _ (by omega) (by omega) (by omega) (by omega), e1 (by omega)]
      by_cases hb : (b1 : Int) < x5 ∨ x6 < b1
      · rw [if_pos hb, if_neg (by omega)]
      · rw [if_neg hb, len_step _ _ _ _ _ _ (by omega) (by omega) (by omega) (by omega), show (1 : Int) + 1 = 2 from rfl, e2 (by omega)]
        by_cases hb2 : (b2 : Int) < 128 ∨ 191 < (b2 : Int)
        · rw [if_pos hb2, if_neg (by omega)]
        · rw [if_neg hb2, if_pos ⟨h, hb, by omega, by omega⟩]; exact len_end _ _ _ _ _
    · rw [if_pos (by omega), if_neg (by omega)]
  have four : ∀ k x5 x6, spec_runeLen.j3 (k + 7) t 4 x5 x6 = some (if 4 ≤ n ∧ ¬ ((b1 : Int) < x5 ∨ x6 < b1) ∧ 128 ≤ b2 ∧ b2 ≤ 191 ∧ 128 ≤ b3 ∧ b3 ≤ 191 then 4 else 1) := fun k x5 x6 => by
    rw [len_j3]
    by_cases h : 4 ≤ n
    · rw [if_neg (by omega), len_step _ _ _ _ _ _ (by omega) (by omega) (by omega) (by omega), e1 (by omega)]
      by_cases hb : (b1 : Int) < x5 ∨ x6 < b1
      · rw [if_pos hb, if_neg (by omega)]
      · rw [if_neg hb, len_step _ _ _ _ _ _ (by omega) (by omega) (by omega) (by omega), show (1 : Int) + 1 = 2 from rfl, e2 (by omega)]
        by_cases hb2 : (b2 : Int) < 128 ∨ 191 < (b2 : Int)
        · rw [if_pos hb2, if_neg (by omega)]
        · rw [if_neg hb2, len_step _ _ _ _ _ _ (by omega) (by omega) (by omega) (by omega), show (2 : Int) + 1 = 3 from rfl, e3 (by omega)]
          by_cases hb3 : (b3 : Int) < 128 ∨ 191 < (b3 : Int)
          · rw [if_pos hb3, if_neg (by omega)]
          · rw [if_neg hb3, if_pos ⟨h, hb, by omega, by omega, by omega, by omega⟩]; exact len_end _ _ _ _ _
    · rw [if_pos (by omega), if_neg (by omega)]
  have one : ∀ k x5 x6, spec_runeLen.j3 (k + 2) t 1 x5 x6 = some 1 := fun k x5 x6 => by
    rw [len_j3, if_neg (by omega)]; exact len_end _ _ _ _ _
  unfold spec_runeLen.f
  rw [if_pos (by omega), e0]
  clear e0 e1 e2 e3
  by_cases r1 : b0 < 194
  · rw [if_neg (by omega)]
    simp only [spec_runeLen.j0, Bool.false_eq_true, if_false]
    rw [if_neg (by omega)]
    simp only [spec_runeLen.j1, Bool.false_eq_true, if_false]
    rw [if_neg (by omega)]
    simp only [spec_runeLen.j2, Bool.false_eq_true, if_false]
    rw [one, dW_not2 (by omega) (by omega) (by omega)]
    rfl
  rw [if_pos (by omega)]
  by_cases r2 : b0 ≤ 223
  · rw [decide_eq_true (by omega : (b0 : Int) ≤ 223)]
    simp only [spec_runeLen.j0, if_true]
    rw [two]
    by_cases hw : 2 ≤ n ∧ ¬ ((b1 : Int) < 128 ∨ (191 : Int) < b1)
    · rw [if_pos hw, dW_2 (by omega)]; rfl
    · rw [if_neg hw, dW_not2 (by omega) (by omega) (by omega)]; rfl
  rw [decide_eq_false (by omega : ¬ (b0 : Int) ≤ 223)]
  simp only [spec_runeLen.j0, Bool.false_eq_true, if_false]
  rw [if_pos (by omega)]
  by_cases r3 : b0 ≤ 239
  · rw [decide_eq_true (by omega : (b0 : Int) ≤ 239)]
    simp only [spec_runeLen.j1, if_true]
    by_cases h224 : b0 = 224
    · subst h224
      rw [if_pos (by omega), if_neg (by omega), three]
      by_cases hw : 3 ≤ n ∧ ¬ ((b1 : Int) < 160 ∨ (191 : Int) < b1) ∧ 128 ≤ b2 ∧ b2 ≤ 191
      · rw [if_pos hw, dW_3 (by omega)]; rfl
      · rw [if_neg hw, dW_not2 (by omega) (by omega) (by omega)]; rfl
    · rw [if_neg (by omega)]
      by_cases h237 : b0 = 237
      · subst h237
        rw [if_pos (by omega), three]
        by_cases hw : 3 ≤ n ∧ ¬ ((b1 : Int) < 128 ∨ (159 : Int) < b1) ∧ 128 ≤ b2 ∧ b2 ≤ 191
        · rw [if_pos hw, dW_3 (by omega)]; rfl
        · rw [if_neg hw, dW_not2 (by omega) (by omega) (by omega)]; rfl
      · rw [if_neg (by omega), three]
        by_cases hw : 3 ≤ n ∧ ¬ ((b1 : Int) < 128 ∨ (191 : Int) < b1) ∧ 128 ≤ b2 ∧ b2 ≤ 191
        · rw [if_pos hw, dW_3 (by omega)]; rfl
        · rw [if_neg hw, dW_not2 (by omega) (by omega) (by omega)]; rfl
  rw [decide_eq_false (by omega : ¬ (b0 : Int) ≤ 239)]
  simp only [spec_runeLen.j1, Bool.false_eq_true, if_false]
  rw [if_pos (by omega)]
  by_cases r4 : b0 ≤ 244
  · rw [decide_eq_true (by omega : (b0 : Int) ≤ 244)]
    simp only [spec_runeLen.j2, if_true]
    by_cases h240 : b0 = 240
    · subst h240
      rw [if_pos (by omega), if_neg (by omega), four]
      by_cases hw : 4 ≤ n ∧ ¬ ((b1 : Int) < 144 ∨ (191 : Int) < b1) ∧ 128 ≤ b2 ∧ b2 ≤ 191 ∧ 128 ≤ b3 ∧ b3 ≤ 191
      · rw [if_pos hw, dW_4 (by omega)]; rfl
      · rw [if_neg hw, dW_not2 (by omega) (by omega) (by omega)]; rfl
    · rw [if_neg (by omega)]
      by_cases h244 : b0 = 244
      · subst h244
        rw [if_pos (by omega), four]
        by_cases hw : 4 ≤ n ∧ ¬ ((b1 : Int) < 128 ∨ (143 : Int) < b1) ∧ 128 ≤ b2 ∧ b2 ≤ 191 ∧ 128 ≤ b3 ∧ b3 ≤ 191
        · rw [if_pos hw, dW_4 (by omega)]; rfl
        · rw [if_neg hw, dW_not2 (by omega) (by omega) (by omega)]; rfl
      · rw [if_neg (by omega), four]
        by_cases hw : 4 ≤ n ∧ ¬ ((b1 : Int) < 128 ∨ (191 : Int) < b1) ∧ 128 ≤ b2 ∧ b2 ≤ 191 ∧ 128 ≤ b3 ∧ b3 ≤ 191
        · rw [if_pos hw, dW_4 (by omega)]; rfl
        · rw [if_neg hw, dW_not2 (by omega) (by omega) (by omega)]; rfl
  rw [decide_eq_false (by omega : ¬ (b0 : Int) ≤ 244)]
  simp only [spec_runeLen.j2, Bool.false_eq_true, if_false]
  rw [one, dW_not2 (by omega) (by omega) (by omega)]
  rfl
end Go.Proofs.YtkbaihcamimnjaaDoor.Q
