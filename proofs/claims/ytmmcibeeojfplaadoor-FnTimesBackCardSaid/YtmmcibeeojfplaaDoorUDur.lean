/- Plain words: digits, spans, units of time, durations. No condition. -/
import Derived.Lib.ParseIntBCases
set_option linter.unusedVariables false
set_option linter.unusedSimpArgs false
namespace Go.Proofs.YtmmcibeeojfplaaDoor.Q
open Go
def isDigI (c : Int) : Bool := decide (48 ≤ c) && decide (c ≤ 57)
def isDig (c : UInt8) : Bool := isDigI (c.toNat : Int)
/-- How many elements at the head of a list have a property. -/
def spanN (p : UInt8 → Bool) (l : List UInt8) : Nat := (l.takeWhile p).length
theorem spanN_nil (p : UInt8 → Bool) : spanN p [] = 0 := rfl
theorem spanN_cons (p : UInt8 → Bool) (c : UInt8) (l : List UInt8) : spanN p (c :: l) = if p c then spanN p l + 1 else 0 := by
  unfold spanN
  rw [List.takeWhile_cons]
  split <;> simp
theorem spanN_le (p : UInt8 → Bool) : ∀ l : List UInt8, spanN p l ≤ l.length
  | [] => Nat.le_refl _
  | c :: l => by
    rw [spanN_cons]
    have := spanN_le p l
    split <;> simp <;> omega
theorem spanN_lt (p : UInt8 → Bool) : ∀ (l : List UInt8) (k : Nat) (h : k < spanN p l), p (l[k]'(Nat.lt_of_lt_of_le h (spanN_le p l))) = true
  | [], k, h => by rw [spanN_nil] at h; omega
  | c :: l, k, h => by
    rw [spanN_cons] at h
    by_cases hc : p c = true
    · rw [if_pos hc] at h
      cases k with
      | zero => exact hc
      | succ k => exact spanN_lt p l k (by omega)
    · rw [if_neg hc] at h
      omega
theorem spanN_at (p : UInt8 → Bool) : ∀ (l : List UInt8) (h : spanN p l < l.length), p (l[spanN p l]) = false
  | [], h => by simp at h
  | c :: l, h => by
    by_cases hc : p c = true
    · have e : spanN p (c :: l) = spanN p l + 1 := by rw [spanN_cons, if_pos hc]
      have h2 : spanN p l < l.length := by rw [e] at h; simpa using h
      have := spanN_at p l h2
      simp only [e]
      exact this
    · have e : spanN p (c :: l) = 0 := by rw [spanN_cons, if_neg hc]
      simp only [e]
      simpa using hc
theorem spanN_unique (p : UInt8 → Bool) (l : List UInt8) (n : Nat) (hn : n ≤ l.length) (h1 : ∀ k (h : k < n), p (l[k]'(by omega)) = true) (h2 : ∀ h : n < l.length, p (l[n]) = false) : spanN p l = n := by
  rcases Nat.lt_trichotomy (spanN p l) n with h | h | h
  · have a := spanN_at p l (by omega)
    rw [h1 _ h] at a
    cases a
  · exact h
  · have a := spanN_lt p l n h
    rw [h2 (Nat.lt_of_lt_of_le h (spanN_le p l))] at a
    cases a
/-- A unit of time: its place, and how many nanoseconds it is. -/
def unitT (u : List UInt8) : Option (Int × Nat) :=
  if u = [109, 115] then some (7, 1000000) else if u = [115] then some (6, 1000000000) else if u = [109] then some (5, 60000000000) else if u = [104] then some (4, 3600000000000)
  else if u = [100] then some (3, 86400000000000) else if u = [119] then some (2, 604800000000000) else if u = [121] then some (1, 31536000000000000) else none
/-- What is left of a duration: how long it is with what has been read, or that it is none. -/
def durR : Nat → List UInt8 → Nat → Int → Option Nat
  | 0, _, _, _ => none
  | k + 1, l, dur, last =>
    if l = [] then some dur
    else if spanN isDig l = 0 then none
    else match Lib.parseUintB 64 (l.take (spanN isDig l)) with
      | .ok v =>
        if spanN (fun c => !isDig c) (l.drop (spanN isDig l)) = 0 then none
        else match unitT ((l.drop (spanN isDig l)).take (spanN (fun c => !isDig c) (l.drop (spanN isDig l)))) with
          | none => none
          | some (pos, mult) =>
            if pos ≤ last then none
            else if 9223372036854775808 / mult < v then none
            else if 9223372036854775807 < dur + v * mult then none
            else durR k ((l.drop (spanN isDig l)).drop (spanN (fun c => !isDig c) (l.drop (spanN isDig l)))) (dur + v * mult) pos
      | _ => none
def durF (l : List UInt8) : Option Nat := if l = [48] then some 0 else if l = [] then none else durR (l.length + 1) l 0 0
theorem unitT_mult {u : List UInt8} {pos : Int} {mult : Nat} (h : unitT u = some (pos, mult)) : 0 < mult ∧ mult ≤ 31536000000000000 ∧ 1 ≤ pos ∧ pos ≤ 7 := by
  unfold unitT at h
  repeat (split at h; · (injection h with h; injection h with h1 h2; subst h1 h2; decide))
  cases h
theorem digits_uint (M : Nat) : ∀ (l : List UInt8) (acc : Nat), (∀ c ∈ l, isDig c = true) → (∃ v, Lib.parseUintM M acc l = .ok v) ∨ Lib.parseUintM M acc l = .range
  | [], acc, _ => Or.inl ⟨acc, rfl⟩
  | c :: l, acc, h => by
    have hc := h c (by simp)
    have hc2 : 48 ≤ c.toNat ∧ c.toNat ≤ 57 := by simp [isDig, isDigI] at hc; omega
    simp only [Lib.parseUintM, if_pos hc2]
    split
    · exact Or.inr rfl
    split
    · exact Or.inr rfl
    exact digits_uint M l _ (fun d hd => h d (by simp [hd]))
theorem take_span_all (p : UInt8 → Bool) (l : List UInt8) : ∀ c ∈ l.take (spanN p l), p c = true := by
  intro c hc
  obtain ⟨k, hk, rfl⟩ := List.getElem_of_mem hc
  rw [List.getElem_take]
  exact spanN_lt p l k (by rw [List.length_take] at hk; omega)
theorem uint_span (l : List UInt8) (h : spanN isDig l ≠ 0) : (∃ v, Lib.parseUintB 64 (l.take (spanN isDig l)) = .ok v) ∨ Lib.parseUintB 64 (l.take (spanN isDig l)) = .range := by
  unfold Lib.parseUintB
  rw [if_neg]
  · exact digits_uint _ _ _ (take_span_all isDig l)
  · intro e
    have := congrArg List.length e
    have h2 := spanN_le isDig l
    rw [List.length_take, List.length_nil] at this
    omega
end Go.Proofs.YtmmcibeeojfplaaDoor.Q
