/- Plain words: what the old reader takes of a value, byte by byte. No condition. -/
import Derived.Lib.ValidU
import Derived.Lib.ValidLaws
import Derived.Lib.TrimU
import Derived.Lib.TrimUEq
import Derived.Lib.MapLaws
import Derived.Lib.TrimAscii
import Derived.Laws.RangeAny
set_option linter.unusedVariables false
set_option linter.unusedSimpArgs false
namespace Go.Proofs.YtkngnoipipnioaaDoor.Q
open Go.Lib
/-- The value out of a raw one: 'esc': a backslash is open; 'ex': a closing quote is awaited; 'acc': what has been written. -/
def valF : Bool → Bool → List UInt8 → List UInt8 → Option (List UInt8)
  | _, ex, [], acc => if ex then none else some acc
  | true, ex, c :: l, acc => if c = 110 then valF false ex l (acc ++ [10]) else if c = 34 ∨ c = 92 then valF false ex l (acc ++ [c]) else valF false ex l (acc ++ [92, c])
  | false, ex, c :: l, acc => if c = 92 then (if l ≠ [] then valF true ex l acc else valF false ex l (acc ++ [92])) else if c = 34 then (if ex = false ∨ l ≠ [] then none else valF false false l acc) else valF false ex l (acc ++ [c])
theorem valF_copy (ex : Bool) : ∀ (h l acc : List UInt8), (∀ c ∈ h, 128 ≤ c.toNat) → valF false ex (h ++ l) acc = valF false ex l (acc ++ h)
  | [], l, acc, _ => by rw [List.nil_append, List.append_nil]
  | c :: h, l, acc, hh => by
    have hc := hh c (by simp)
    have h1 : c ≠ 92 := fun e => by rw [e] at hc; exact absurd hc (by decide)
    have h2 : c ≠ 34 := fun e => by rw [e] at hc; exact absurd hc (by decide)
    rw [List.cons_append, valF, if_neg h1, if_neg h2, valF_copy ex h l _ (fun d hd => hh d (by simp [hd])), List.append_assoc]
    rfl
theorem valF_esc (ex : Bool) (c : UInt8) (h l acc : List UInt8) (hc : 128 ≤ c.toNat) (hh : ∀ c ∈ h, 128 ≤ c.toNat) : valF true ex (c :: h ++ l) acc = valF false ex l (acc ++ [92] ++ (c :: h)) := by
  have h0 : c ≠ 110 := fun e => by rw [e] at hc; exact absurd hc (by decide)
  have h1 : c ≠ 92 := fun e => by rw [e] at hc; exact absurd hc (by decide)
  have h2 : c ≠ 34 := fun e => by rw [e] at hc; exact absurd hc (by decide)
  rw [List.cons_append, valF, if_neg h0, if_neg (fun e => e.elim h2 h1), valF_copy ex h l _ hh]
  simp
/-- Every byte of a character beyond ASCII is beyond ASCII. -/
theorem enc_high (r : Int) (h0 : 128 ≤ r) : ∀ b ∈ encodeRune r, 128 ≤ b.toNat := by
  have one : ∀ x : Int, 128 ≤ x → x ≤ 255 → 128 ≤ (x.toNat.toUInt8).toNat := fun x h0 h1 => by
    have : (x.toNat.toUInt8).toNat = x.toNat % 256 := by simp
    omega
  intro b hb
  unfold encodeRune at hb
  obtain ⟨x, hx, rfl⟩ := List.mem_map.1 hb
  have hx2 : 128 ≤ x ∧ x ≤ 255 := by
    unfold encodeRuneZ at hx
    repeat' split at hx
    all_goals simp at hx
    all_goals omega
  exact one x hx2.1 hx2.2
theorem valid_step (l : List UInt8) (hne : l ≠ []) (h : validD l = true) : ¬ ((decodeL l).1 = 65533 ∧ (decodeL l).2 = 1) ∧ validD (l.drop (decodeL l).2) = true := by
  have hw := decodeL_width l
  have hl : 0 < l.length := List.length_pos_iff.2 hne
  obtain ⟨n, hn⟩ : ∃ n, l.length = n + 1 := ⟨l.length - 1, by omega⟩
  unfold validD at h
  rw [hn] at h
  simp only [validGoD, if_neg hne] at h
  split at h
  · cases h
  · rename_i hv
    refine ⟨hv, ?_⟩
    unfold validD
    rw [← h]
    exact validGoD_fuel _ _ _ (Nat.le_refl _) (by rw [List.length_drop]; omega)
theorem decode_fits_ (s : ByteArray) (pos : Nat) (h : pos < s.size) : pos + (Utf8.decode s pos).2 ≤ s.size := by
  unfold Utf8.decode
  dsimp only
  (repeat' split) <;> simp_all <;> omega
theorem drop_cons (raw : ByteArray) (pos : Nat) (hp : pos < raw.size) : raw.data.toList.drop pos = (raw[pos]'hp) :: raw.data.toList.drop (pos + 1) :=
  List.drop_eq_getElem_cons (by rw [Array.length_toList]; exact hp)
theorem step_ascii (raw : ByteArray) (pos : Nat) (hp : pos < raw.size) (hb : (raw[pos]'hp).toNat < 128) (hv : validD (raw.data.toList.drop pos) = true) : validD (raw.data.toList.drop (pos + 1)) = true := by
  have hs := (valid_step _ (by rw [drop_cons raw pos hp]; simp) hv).2
  rw [drop_cons raw pos hp, decodeL_ascii _ _ hb] at hs
  exact hs
theorem step_high (raw : ByteArray) (pos : Nat) (hp : pos < raw.size) (hb : 128 ≤ (raw[pos]'hp).toNat) (hv : validD (raw.data.toList.drop pos) = true) (ex : Bool) (acc : List UInt8) :
    pos + (Utf8.decode raw pos).2 ≤ raw.size ∧ validD (raw.data.toList.drop (pos + (Utf8.decode raw pos).2)) = true ∧ (encodeRune ((Utf8.decode raw pos).1 : Int)).length = (Utf8.decode raw pos).2 ∧
    valF false ex (raw.data.toList.drop pos) acc = valF false ex (raw.data.toList.drop (pos + (Utf8.decode raw pos).2)) (acc ++ encodeRune ((Utf8.decode raw pos).1 : Int)) ∧
    valF true ex (raw.data.toList.drop pos) acc = valF false ex (raw.data.toList.drop (pos + (Utf8.decode raw pos).2)) (acc ++ [92] ++ encodeRune ((Utf8.decode raw pos).1 : Int)) := by
  have hne : raw.data.toList.drop pos ≠ [] := by rw [drop_cons raw pos hp]; simp
  obtain ⟨h1, h2⟩ := valid_step _ hne hv
  have he := encode_decode _ hne h1
  have hh := enc_high ((Utf8.decode raw pos).1 : Int) (by have := (decode_high raw pos hp hb).1; omega)
  rw [decodeL_drop] at h2 he
  rw [List.drop_drop] at h2
  have hsplit : raw.data.toList.drop pos = encodeRune ((Utf8.decode raw pos).1 : Int) ++ raw.data.toList.drop (pos + (Utf8.decode raw pos).2) := by
    rw [he, ← List.drop_drop, List.take_append_drop]
  have hfit : pos + (Utf8.decode raw pos).2 ≤ raw.size := by
    have hw1 := (decode_high raw pos hp hb).2
    exact (decode_fits_ raw pos hp)
  refine ⟨hfit, h2, ?_, ?_, ?_⟩
  · rw [he, List.length_take, List.length_drop, Array.length_toList]
    show min _ (raw.size - pos) = _
    omega
  · conv => lhs; rw [hsplit]
    exact valF_copy ex _ _ acc hh
  · conv => lhs; rw [hsplit]
    cases hE : encodeRune ((Utf8.decode raw pos).1 : Int) with
    | nil =>
      have := (runeCells_le ((Utf8.decode raw pos).1 : Int)).1
      rw [runeCells_length, hE] at this
      simp at this
    | cons c t =>
      rw [hE] at hh
      exact valF_esc ex c t _ acc (hh c (by simp)) (fun d hd => hh d (by simp [hd]))
end Go.Proofs.YtkngnoipipnioaaDoor.Q
