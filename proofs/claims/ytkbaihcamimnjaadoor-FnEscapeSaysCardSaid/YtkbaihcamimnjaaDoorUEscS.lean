/- The reference's escapes in plain Lean: what spec.Escape says of a text that is UTF-8 is what the program writes. No condition. -/
import Derived.Test.YtkbaihcamimnjaaDoorUUtf
import Derived.Test.YtkbaihcamimnjaaDoorHEscC
import Derived.Test.YtkbaihcamimnjaaDoorQspecEscape
import Derived.Test.YtkbaihcamimnjaaDoorULegM
set_option linter.unusedVariables false
set_option linter.unusedSimpArgs false
namespace Go.Proofs.YtkbaihcamimnjaaDoor.Q
open Go.RowKit Go.Proofs.YtkbaihcamimnjaaDoorW.PrintWords Go.Proofs.YtkbaihcamimnjaaDoorW.PrintLast Go.Proofs.YtkbaihcamimnjaaDoorW.PrintMore
theorem ofInt_toNat (m : Nat) (a : Nat) (h : a < 2 ^ m) : (BitVec.ofInt m (a : Int)).toNat = a := by
  rw [BitVec.ofInt_natCast, BitVec.toNat_ofNat]; exact Nat.mod_eq_of_lt h
theorem bits_and_i64 (a b : Nat) (ha : a < 9223372036854775808) (hb : b < 9223372036854775808) : Go.bits .and .i64 (a : Int) (b : Int) = ((a &&& b : Nat) : Int) := by
  have hx : a &&& b < 9223372036854775808 := Nat.and_lt_two_pow (n := 63) _ hb
  show IntKind.i64.wrap ((BitVec.ofInt 64 (a : Int) &&& BitVec.ofInt 64 (b : Int)).toNat : Int) = _
  rw [BitVec.toNat_and, ofInt_toNat 64 a (by omega), ofInt_toNat 64 b (by omega)]
  simp only [IntKind.wrap, IntKind.bits, IntKind.signed]
  simp
  omega
theorem bits_or_i64 (a b : Nat) (ha : a < 9223372036854775808) (hb : b < 9223372036854775808) : Go.bits .or .i64 (a : Int) (b : Int) = ((a ||| b : Nat) : Int) := by
  have hx : a ||| b < 9223372036854775808 := Nat.or_lt_two_pow (n := 63) ha hb
  show IntKind.i64.wrap ((BitVec.ofInt 64 (a : Int) ||| BitVec.ofInt 64 (b : Int)).toNat : Int) = _
  rw [BitVec.toNat_or, ofInt_toNat 64 a (by omega), ofInt_toNat 64 b (by omega)]
  simp only [IntKind.wrap, IntKind.bits, IntKind.signed]
  simp
  omega
theorem bits_and_u8 (a b : Nat) (ha : a < 256) (hb : b < 256) : Go.bits .and .u8 (a : Int) (b : Int) = ((a &&& b : Nat) : Int) := by
  have hx : a &&& b < 2 ^ 8 := Nat.and_lt_two_pow _ hb
  show IntKind.u8.wrap ((BitVec.ofInt 8 (a : Int) &&& BitVec.ofInt 8 (b : Int)).toNat : Int) = _
  rw [BitVec.toNat_and, ofInt_toNat 8 a ha, ofInt_toNat 8 b hb]
  simp only [IntKind.wrap, IntKind.bits, IntKind.signed]
  simp
  omega
theorem low_31 (a : Nat) : a &&& 31 = a % 32 := Nat.and_two_pow_sub_one_eq_mod a 5
theorem low_63 (a : Nat) : a &&& 63 = a % 64 := Nat.and_two_pow_sub_one_eq_mod a 6
theorem low_15 (a : Nat) : a &&& 15 = a % 16 := Nat.and_two_pow_sub_one_eq_mod a 4
theorem low_7 (a : Nat) : a &&& 7 = a % 8 := Nat.and_two_pow_sub_one_eq_mod a 3
theorem or_add (a b m P : Nat) (hP : 2 ^ m = P) (h : b < P) : a * P ||| b = a * P + b := by
  subst hP
  rw [Nat.mul_comm]; exact (Nat.two_pow_add_eq_or_of_lt h a).symm
theorem w64 (a : Nat) (h : a < 9223372036854775808) : wrap64 (a : Int) = (a : Int) := by unfold wrap64; omega
theorem wm (a b : Nat) (h : a * b < 9223372036854775808) : wrap64 ((a : Int) * (b : Int)) = ((a * b : Nat) : Int) := by rw [← Int.natCast_mul]; exact w64 _ h
theorem w63 (b : Nat) (hb : b < 256) : wrap64 (Go.bits .and .u8 (b : Int) 63) = ((b % 64 : Nat) : Int) := by
  have := bits_and_u8 b 63 hb (by decide)
  rw [show ((63 : Nat) : Int) = 63 from rfl] at this
  rw [this, low_63, w64 _ (by omega)]
theorem w31 (b : Nat) (hb : b < 256) : wrap64 (Go.bits .and .u8 (b : Int) 31) = ((b % 32 : Nat) : Int) := by
  have := bits_and_u8 b 31 hb (by decide)
  rw [show ((31 : Nat) : Int) = 31 from rfl] at this
  rw [this, low_31, w64 _ (by omega)]
theorem w15 (b : Nat) (hb : b < 256) : wrap64 (Go.bits .and .u8 (b : Int) 15) = ((b % 16 : Nat) : Int) := by
  have := bits_and_u8 b 15 hb (by decide)
  rw [show ((15 : Nat) : Int) = 15 from rfl] at this
  rw [this, low_15, w64 _ (by omega)]
theorem w7 (b : Nat) (hb : b < 256) : wrap64 (Go.bits .and .u8 (b : Int) 7) = ((b % 8 : Nat) : Int) := by
  have := bits_and_u8 b 7 hb (by decide)
  rw [show ((7 : Nat) : Int) = 7 from rfl] at this
  rw [this, low_7, w64 _ (by omega)]
theorem m64 (a : Nat) (ha : a < 256) : wrap64 ((a : Int) * 64) = ((a * 64 : Nat) : Int) := wm a 64 (by omega)
theorem m4096 (a : Nat) (ha : a < 256) : wrap64 ((a : Int) * 4096) = ((a * 4096 : Nat) : Int) := wm a 4096 (by omega)
theorem m262144 (a : Nat) (ha : a < 256) : wrap64 ((a : Int) * 262144) = ((a * 262144 : Nat) : Int) := wm a 262144 (by omega)
set_option maxRecDepth 100000 in
/-- The number of the character at a place, as the reference reckons it. -/
theorem point_is (s : ByteArray) (i : Nat) (hi : i < s.size) (hv : ¬ ((Utf8.decode s i).2 = 1 ∧ 128 ≤ by1 s i)) : spec_point.f (s.extract i s.size) ((Utf8.decode s i).2 : Int) = some ((Utf8.decode s i).1 : Int) := by
  rw [decode_is s i hi] at hv ⊢
  have hz : (s.extract i s.size).size = s.size - i := by rw [ByteArray.size_extract]; omega
  have l0 := by1_lt s i
  have l1 := by1_lt s (i + 1)
  have l2 := by1_lt s (i + 2)
  have l3 := by1_lt s (i + 3)
  have e0 : bt (s.extract i s.size) 0 = (by1 s i : Int) := by1_ext s i 0 (by omega)
  have e1 : i + 1 < s.size → bt (s.extract i s.size) 1 = (by1 s (i + 1) : Int) := fun h => by1_ext s i 1 h
  have e2 : i + 2 < s.size → bt (s.extract i s.size) 2 = (by1 s (i + 2) : Int) := fun h => by1_ext s i 2 h
  have e3 : i + 3 < s.size → bt (s.extract i s.size) 3 = (by1 s (i + 3) : Int) := fun h => by1_ext s i 3 h
  generalize s.extract i s.size = t at *
  generalize by1 s i = b0 at *
  generalize by1 s (i + 1) = b1 at *
  generalize by1 s (i + 2) = b2 at *
  generalize by1 s (i + 3) = b3 at *
  obtain ⟨n, hn⟩ : ∃ n, s.size = i + n := ⟨s.size - i, by omega⟩
  have en : s.size - i = n := by omega
  rw [hn] at e1 e2 e3
  rw [en] at hz hv ⊢
  have hn0 : 0 < n := by omega
  have e1 : 1 < n → bt t 1 = (b1 : Int) := fun h => e1 (by omega)
  have e2 : 2 < n → bt t 2 = (b2 : Int) := fun h => e2 (by omega)
  have e3 : 3 < n → bt t 3 = (b3 : Int) := fun h => e3 (by omega)
  clear en hn hi
  simp only at hv ⊢
  by_cases w2 : 194 ≤ b0 ∧ b0 ≤ 223 ∧ 2 ≤ n ∧ 128 ≤ b1 ∧ b1 ≤ 191
  · unfold dE
    rw [dW_2 w2, if_neg (by omega), if_pos rfl]
    unfold spec_point.f
    rw [if_pos (by omega), if_pos (by omega), if_pos (by omega), e0, e1 (by omega), w31 b0 l0, w63 b1 l1, m64 (b0 % 32) (by omega), bits_or_i64 (b0 % 32 * 64) (b1 % 64) (by omega) (by omega), or_add (b0 % 32) (b1 % 64) 6 64 rfl (by omega)]
  by_cases w3 : 224 ≤ b0 ∧ b0 ≤ 239 ∧ 3 ≤ n ∧ (b0 = 224 → 160 ≤ b1) ∧ (b0 = 237 → b1 ≤ 159) ∧ 128 ≤ b1 ∧ b1 ≤ 191 ∧ 128 ≤ b2 ∧ b2 ≤ 191
  · clear w2
    unfold dE
    rw [dW_3 w3, if_neg (by omega), if_neg (by omega), if_pos rfl]
    unfold spec_point.f
    rw [if_neg (by omega), if_pos (by omega), if_pos (by omega), if_pos (by omega), if_pos (by omega), e0, e1 (by omega), e2 (by omega), w15 b0 l0, w63 b1 l1, w63 b2 l2, m4096 (b0 % 16) (by omega), m64 (b1 % 64) (by omega), bits_or_i64 (b0 % 16 * 4096) (b1 % 64 * 64) (by omega) (by omega)]
    rw [or_add (b0 % 16) (b1 % 64 * 64) 12 4096 (by decide) (by omega), bits_or_i64 (b0 % 16 * 4096 + b1 % 64 * 64) (b2 % 64) (by omega) (by omega)]
    have o2 := or_add (b0 % 16 * 64 + b1 % 64) (b2 % 64) 6 64 rfl (by omega)
    have e5 : b0 % 16 * 4096 + b1 % 64 * 64 = (b0 % 16 * 64 + b1 % 64) * 64 := by omega
    rw [e5, o2]
  by_cases w4 : 240 ≤ b0 ∧ b0 ≤ 244 ∧ 4 ≤ n ∧ (b0 = 240 → 144 ≤ b1) ∧ (b0 = 244 → b1 ≤ 143) ∧ 128 ≤ b1 ∧ b1 ≤ 191 ∧ 128 ≤ b2 ∧ b2 ≤ 191 ∧ 128 ≤ b3 ∧ b3 ≤ 191
  · clear w2 w3
    unfold dE
    rw [dW_4 w4, if_neg (by omega), if_neg (by omega), if_neg (by omega), if_pos rfl]
    unfold spec_point.f
    rw [if_neg (by omega), if_neg (by omega), if_pos (by omega), if_pos (by omega), if_pos (by omega), if_pos (by omega), if_pos (by omega), e0, e1 (by omega), e2 (by omega), e3 (by omega), w7 b0 l0, w63 b1 l1, w63 b2 l2, w63 b3 l3, m262144 (b0 % 8) (by omega), m4096 (b1 % 64) (by omega), m64 (b2 % 64) (by omega), bits_or_i64 (b0 % 8 * 262144) (b1 % 64 * 4096) (by omega) (by omega)]
    rw [or_add (b0 % 8) (b1 % 64 * 4096) 18 262144 (by decide) (by omega), bits_or_i64 (b0 % 8 * 262144 + b1 % 64 * 4096) (b2 % 64 * 64) (by omega) (by omega)]
    have o2 := or_add (b0 % 8 * 64 + b1 % 64) (b2 % 64 * 64) 12 4096 (by decide) (by omega)
    have e5 : b0 % 8 * 262144 + b1 % 64 * 4096 = (b0 % 8 * 64 + b1 % 64) * 4096 := by omega
    rw [e5, o2, bits_or_i64 ((b0 % 8 * 64 + b1 % 64) * 4096 + b2 % 64 * 64) (b3 % 64) (by omega) (by omega)]
    have o3 := or_add (b0 % 8 * 4096 + b1 % 64 * 64 + b2 % 64) (b3 % 64) 6 64 rfl (by omega)
    have e6 : (b0 % 8 * 64 + b1 % 64) * 4096 + b2 % 64 * 64 = (b0 % 8 * 4096 + b1 % 64 * 64 + b2 % 64) * 64 := by omega
    rw [e6, o3]
  have hd := dW_not2 w2 w3 w4
  rw [hd] at hv
  clear w2 w3 w4
  unfold dE
  rw [hd, if_neg (by omega), if_neg (by omega), if_neg (by omega), if_neg (by omega), if_pos (by omega)]
  unfold spec_point.f
  rw [if_neg (by omega), if_neg (by omega), if_neg (by omega), if_pos (by omega), e0, w64 _ (by omega)]
theorem ext_ext (s : ByteArray) (i n : Nat) (h : i + n ≤ s.size) : (s.extract i s.size).extract n (s.extract i s.size).size = s.extract (i + n) s.size := by
  have hz : (s.extract i s.size).size = s.size - i := by rw [ByteArray.size_extract]; omega
  rw [hz]
  apply ByteArray.ext_getElem
  · simp only [ByteArray.size_extract]; omega
  · intro j h1 h2
    simp only [ByteArray.getElem_extract, Nat.add_assoc]
/-- Is a text UTF-8 from a place on. -/
def validF (s : ByteArray) (pos : Nat) : Bool :=
  if h : pos < s.size then (if (Utf8.decode s pos).2 = 1 ∧ 128 ≤ by1 s pos then false else validF s (pos + (Utf8.decode s pos).2)) else true
termination_by s.size - pos
decreasing_by have := decode_wide s pos; omega
theorem validF_go (s : ByteArray) (pos : Nat) (h : pos < s.size) : validF s pos = if (Utf8.decode s pos).2 = 1 ∧ 128 ≤ by1 s pos then false else validF s (pos + (Utf8.decode s pos).2) := by rw [validF, dif_pos h]
theorem validF_end (s : ByteArray) (pos : Nat) (h : ¬ pos < s.size) : validF s pos = true := by rw [validF, dif_neg h]
theorem valid_round (s : ByteArray) (pos k : Nat) (h : pos < s.size) (r : Option Bool) (hk : 12 ≤ k) (hr : spec_Valid.l0 k (s.extract (pos + (Utf8.decode s pos).2) s.size) = r) :
    spec_Valid.l0 (k + 1) (s.extract pos s.size) = if (Utf8.decode s pos).2 = 1 ∧ 128 ≤ by1 s pos then some false else r := by
  have hz : (s.extract pos s.size).size = s.size - pos := by rw [ByteArray.size_extract]; omega
  have hf := decode_fits s pos h
  have hl := runeLen_is s pos h (k - 12)
  rw [Nat.sub_add_cancel hk] at hl
  have h0 : bt (s.extract pos s.size) 0 = (by1 s pos : Int) := by1_ext s pos 0 (by omega)
  have he := ext_ext s pos _ hf.2
  subst hr
  simp only [spec_Valid.l0]
  rw [if_pos (by omega), hl]
  simp only [Option.bind_some, h0]
  rw [Int.toNat_natCast, he]
  generalize (Utf8.decode s pos).2 = n at *
  clear hl he h0
  by_cases h1 : n = 1
  · rw [if_pos (by omega), if_pos (by omega)]
    by_cases h128 : 128 ≤ by1 s pos
    · rw [if_pos (by omega), if_pos ⟨h1, h128⟩]
    · rw [if_neg (by omega), if_pos (by omega), if_pos (by omega), if_neg (by omega)]
  · rw [if_neg (by omega), if_pos (by omega), if_pos (by omega), if_neg (by omega)]
theorem valid_is (s : ByteArray) (d : Nat) : ∀ (pos : Nat), s.size - pos ≤ d → ∀ k, d + 14 ≤ k → spec_Valid.l0 k (s.extract pos s.size) = some (validF s pos) := by
  have ends : ∀ pos k, ¬ pos < s.size → 14 ≤ k → spec_Valid.l0 k (s.extract pos s.size) = some (validF s pos) := fun pos k h hk => by
    obtain ⟨k, rfl⟩ : ∃ m, k = m + 1 := ⟨k - 1, by omega⟩
    have hz : (s.extract pos s.size).size = s.size - pos := by rw [ByteArray.size_extract]; omega
    simp only [spec_Valid.l0]
    rw [if_neg (by omega), validF_end s pos h]
  induction d with
  | zero => exact fun pos hd k hk => ends pos k (by omega) (by omega)
  | succ d ih =>
    intro pos hd k hk
    by_cases h : pos < s.size
    · obtain ⟨k, rfl⟩ : ∃ m, k = m + 1 := ⟨k - 1, by omega⟩
      have hw := decode_wide s pos
      rw [valid_round s pos k h _ (by omega) (ih (pos + (Utf8.decode s pos).2) (by omega) k (by omega)), validF_go s pos h]
      split <;> rfl
    · exact ends pos k h (by omega)
theorem validF_step (s : ByteArray) (pos : Nat) (h : pos < s.size) (hv : validF s pos = true) : ¬ ((Utf8.decode s pos).2 = 1 ∧ 128 ≤ by1 s pos) ∧ validF s (pos + (Utf8.decode s pos).2) = true := by
  rw [validF_go s pos h] at hv
  by_cases hc : (Utf8.decode s pos).2 = 1 ∧ 128 ≤ by1 s pos
  · rw [if_pos hc] at hv; cases hv
  · rw [if_neg hc] at hv; exact ⟨hc, hv⟩
theorem hexc_ext : ∀ (d : Nat), d < 16 → (⟨#[48, 49, 50, 51, 52, 53, 54, 55, 56, 57, 97, 98, 99, 100, 101, 102]⟩ : ByteArray).extract d (d + 1) = ⟨#[hexc d]⟩
  | 0, _ => by kernel_rfl
  | 1, _ => by kernel_rfl
  | 2, _ => by kernel_rfl
  | 3, _ => by kernel_rfl
  | 4, _ => by kernel_rfl
  | 5, _ => by kernel_rfl
  | 6, _ => by kernel_rfl
  | 7, _ => by kernel_rfl
  | 8, _ => by kernel_rfl
  | 9, _ => by kernel_rfl
  | 10, _ => by kernel_rfl
  | 11, _ => by kernel_rfl
  | 12, _ => by kernel_rfl
  | 13, _ => by kernel_rfl
  | 14, _ => by kernel_rfl
  | 15, _ => by kernel_rfl
  | n + 16, h => absurd h (by omega)
theorem and15_i64 (n : Nat) (h : n < 4294967296) : Go.bits .and .i64 (n : Int) 15 = ((n % 16 : Nat) : Int) := by
  have := bits_and_i64 n 15 (by omega) (by decide)
  rw [show ((15 : Nat) : Int) = 15 from rfl] at this
  rw [this, low_15]
theorem w16 (n : Nat) : wrap64 (((n % 16 : Nat) : Int) + 1) = ((n % 16 + 1 : Nat) : Int) := by unfold wrap64; omega
theorem hexD_step (n : Nat) (h : ¬ n < 16) : hexD n = hexD (n / 16) ++ [hexc (n % 16)] := by rw [hexD, dif_neg h]
theorem hexD_one (n : Nat) (h : n < 16) : hexD n = [hexc n] := by rw [hexD, dif_pos h]
theorem hex_is (m : Nat) : ∀ (n : Nat), n < 16 ^ (m + 1) → n < 4294967296 → ∀ k, m + 1 ≤ k → spec_hexadecimal.f k (n : Int) = some ⟨(hexD n).toArray⟩ := by
  induction m with
  | zero =>
    intro n h hn k hk
    obtain ⟨k, rfl⟩ : ∃ j, k = j + 1 := ⟨k - 1, by omega⟩
    have h16 : n < 16 := by simpa using h
    have h16' : n % 16 < 16 := Nat.mod_lt _ (by decide)
    simp only [spec_hexadecimal.f, and15_i64 n hn, w16, Int.toNat_natCast, hexc_ext (n % 16) h16']
    rw [if_pos (by omega), if_pos (by omega), if_pos (by omega), if_pos (by omega), hexD_one n h16, Nat.mod_eq_of_lt h16]
  | succ m ih =>
    intro n h hn k hk
    obtain ⟨k, rfl⟩ : ∃ j, k = j + 1 := ⟨k - 1, by omega⟩
    have h16' : n % 16 < 16 := Nat.mod_lt _ (by decide)
    simp only [spec_hexadecimal.f, and15_i64 n hn, w16, Int.toNat_natCast, hexc_ext (n % 16) h16']
    rw [if_pos (by omega), if_pos (by omega), if_pos (by omega)]
    by_cases h16 : n < 16
    · rw [if_pos (by omega), hexD_one n h16, Nat.mod_eq_of_lt h16]
    · have hd : ((n : Int) / 16) = ((n / 16 : Nat) : Int) := by omega
      have hlt : n / 16 < 16 ^ (m + 1) := by
        rw [Nat.pow_succ] at h
        exact Nat.div_lt_of_lt_mul (by rw [Nat.mul_comm]; exact h)
      have hl : (hexD (n / 16)).length ≤ 8 := hexD_len 7 (n / 16) (Nat.lt_of_le_of_lt (Nat.div_le_self _ _) hn)
      have hs : (⟨(hexD (n / 16)).toArray⟩ : ByteArray).size = (hexD (n / 16)).length := by simp [ByteArray.size]
      have hs2 : (⟨#[hexc (n % 16)]⟩ : ByteArray).size = 1 := rfl
      have hn2 : n / 16 < 4294967296 := Nat.lt_of_le_of_lt (Nat.div_le_self _ _) hn
      rw [if_neg (by omega), hd, ih (n / 16) hlt hn2 k (by omega), hexD_step n h16]
      simp only [Option.bind_some]
      rw [if_pos (by rw [hs, hs2]; omega)]
      congr 1
end Go.Proofs.YtkbaihcamimnjaaDoor.Q
