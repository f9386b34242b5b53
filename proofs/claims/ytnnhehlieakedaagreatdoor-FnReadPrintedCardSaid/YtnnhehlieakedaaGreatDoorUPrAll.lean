/- Plain words: lexing what was printed: a word, an operator, a text in quotes. No condition. Plain words: lexing a printed name without reserved characters. No condition. Plain words: a text in quotes with escapes, and what it stands for. No condition. Plain words: what strconv.Quote writes of a valid text stands for that text. No condition on the tables. Plain words: what is printed of plain matchers is read as those matchers. No condition. Plain words: the pieces of the laws on printed matchers. No condition. -/
import Derived.Test.YtnnhehlieakedaaGreatDoorUXM
import Derived.Test.YtnnhehlieakedaaGreatDoorHPrM
import Derived.Test.YtnnhehlieakedaaGreatDoorUParGM
import Derived.Test.YtnnhehlieakedaaGreatDoorUParL
set_option linter.unusedVariables false
set_option linter.unusedSimpArgs false
namespace Go.Proofs.YtnnhehlieakedaaGreatDoor.Q
open Go.RowKit Go.Lib Go.Proofs.YtnnhehlieakedaaGreatDoorW.PrintWords Go.Proofs.YtnnhehlieakedaaGreatDoorW.PrintLast Go.Proofs.YtnnhehlieakedaaGreatDoorW.PrintMore
/-- A state, and what is left of the text. -/
structure On (s : ByteArray) (x : LSt) (rest : List UInt8) : Prop where
  g : LGd s x
  d : s.data.toList.drop x.p.toNat = rest
section
variable {s : ByteArray} {x : LSt}
theorem On.lt {c : UInt8} {rest : List UInt8} (h : On s x (c :: rest)) : x.p.toNat < s.size := by
  have := congrArg List.length h.d
  rw [List.length_drop, len_toList, List.length_cons] at this
  omega
theorem On.at {rest : List UInt8} (h : On s x rest) (hne : rest ≠ []) : nextR s x.p = ((decodeL rest).1 : Int) ∧ (nextS s x).p = x.p + ((decodeL rest).2 : Int) ∧ (nextS s x).st = x.st ∧ On s (nextS s x) (rest.drop (decodeL rest).2) := by
  obtain ⟨c, t, rfl⟩ : ∃ c t, rest = c :: t := by cases rest with
    | nil => exact absurd rfl hne
    | cons c t => exact ⟨c, t, rfl⟩
  have hlt := h.lt
  have hd := decodeL_drop s x.p.toNat
  rw [h.d] at hd
  have hp0 : 0 ≤ x.p := by have := h.g.s0; have := h.g.s1; omega
  have hn : (nextS s x).p = x.p + ((decodeL (c :: t)).2 : Int) := by
    unfold nextS
    rw [if_pos hlt, hd]
  refine ⟨?_, hn, ?_, h.g.next, ?_⟩
  · unfold nextR
    rw [if_pos hlt, hd]
  · unfold nextS
    split <;> rfl
  · have e : (nextS s x).p.toNat = x.p.toNat + (decodeL (c :: t)).2 := by omega
    rw [e, ← List.drop_drop, h.d]
theorem On.asc {c : UInt8} {rest : List UInt8} (h : On s x (c :: rest)) (hc : c.toNat < 128) : nextR s x.p = (c.toNat : Int) ∧ (nextS s x).p = x.p + 1 ∧ (nextS s x).st = x.st ∧ On s (nextS s x) rest := by
  have := h.at (by simp)
  rw [decodeL_ascii c rest hc] at this
  exact this
theorem On.back {rest : List UInt8} (h : On s x rest) : On s (backS (nextS s x)) rest ∧ (backS (nextS s x)).p = x.p ∧ (backS (nextS s x)).st = x.st := by
  have e := back_p h.g
  exact ⟨⟨h.g.back, by rw [e]; exact h.d⟩, e, ((same_next s x).trans (same_back _)).1⟩
theorem quot_fwd : ∀ (k : Nat) (esc : Bool) (x : LSt) (body rest : List UInt8), On s x (body ++ 34 :: rest) → okE esc body = true → validD body = true → body.length < k →
    On s (quotS s k esc x) (34 :: rest) ∧ (quotS s k esc x).p = x.p + (body.length : Int) ∧ (quotS s k esc x).st = x.st
  | 0, _, _, _, _, _, _, _, h => absurd h (by omega)
  | k + 1, esc, x, body, rest, h, ho, hv, hk => by
    cases body with
    | nil =>
      cases esc with
      | true => exact absurd ho (by decide)
      | false =>
        obtain ⟨hr, -, -, -⟩ := h.asc (c := 34) (by decide)
        have hr34 : nextR s x.p = 34 := hr
        have e : quotS s (k + 1) false x = backS (nextS s x) := by rw [quotS, if_neg (by rw [hr34]; decide), if_neg (by decide), if_neg (by rw [hr34]; decide), if_pos hr34]
        rw [e]
        obtain ⟨b1, b2, b3⟩ := h.back
        exact ⟨b1, by rw [b2]; simp, b3⟩
    | cons c t =>
      have go : ∀ (e2 : Bool) (a b : List UInt8), c :: t = a ++ b → 1 ≤ a.length → quotS s (k + 1) esc x = quotS s k e2 (nextS s x) → On s (nextS s x) (b ++ 34 :: rest) → (nextS s x).p = x.p + (a.length : Int) → (nextS s x).st = x.st → okE e2 b = true → validD b = true →
          On s (quotS s (k + 1) esc x) (34 :: rest) ∧ (quotS s (k + 1) esc x).p = x.p + ((c :: t).length : Int) ∧ (quotS s (k + 1) esc x).st = x.st := fun e2 a b e ha eq hon hp hst hok hvb => by
        have hl := congrArg List.length e
        rw [List.length_append] at hl
        obtain ⟨i1, i2, i3⟩ := quot_fwd k e2 (nextS s x) b rest hon hok hvb (by omega)
        rw [eq]
        exact ⟨i1, by rw [i2, hp, hl]; omega, i3.trans hst⟩
      by_cases hc : c.toNat < 128
      · obtain ⟨hr, hp, hst, hon⟩ := On.asc (rest := t ++ 34 :: rest) h hc
        rw [validD_cons c t hc] at hv
        have hne : nextR s x.p ≠ -1 := by rw [hr]; omega
        cases esc with
        | true => exact go false [c] t rfl (by simp) (by rw [quotS, if_neg hne, if_pos rfl]) hon (by rw [hp]; rfl) hst ho hv
        | false =>
          have hok : okB (c :: t) = true := ho
          rw [okB_cons] at hok
          by_cases h34 : c = 34
          · rw [if_pos h34] at hok; cases hok
          · rw [if_neg h34] at hok
            have n34 : nextR s x.p ≠ 34 := by rw [hr]; intro q; exact h34 (UInt8.toNat_inj.1 (by show c.toNat = 34; omega))
            by_cases h92 : c = 92
            · rw [if_pos h92] at hok
              have e92 : nextR s x.p = 92 := by rw [hr, h92]; rfl
              refine go true [c] t rfl (by simp) (by rw [quotS, if_neg hne, if_neg (by decide), if_pos e92]) hon (by rw [hp]; rfl) hst ?_ hv
              cases t with
              | nil => cases hok
              | cons d t => exact hok
            · rw [if_neg h92] at hok
              have n92 : nextR s x.p ≠ 92 := by rw [hr]; intro q; exact h92 (UInt8.toNat_inj.1 (by show c.toNat = 92; omega))
              exact go false [c] t rfl (by simp) (by rw [quotS, if_neg hne, if_neg (by decide), if_neg n92, if_neg n34]) hon (by rw [hp]; rfl) hst hok hv
      · obtain ⟨a, b, e, ha, hah, hvb, hm⟩ := high_step c t (by omega) hv
        obtain ⟨m1, m2, m3, m4⟩ := hm (b ++ 34 :: rest)
        have hon := h
        rw [e, List.append_assoc] at hon
        obtain ⟨hr, hp, hst, ho2⟩ := hon.at (by cases a with | nil => simp at ha | cons _ _ => simp)
        rw [m1, List.drop_left] at ho2
        rw [m1] at hp
        have hne : nextR s x.p ≠ -1 := by rw [hr]; omega
        have n34 : nextR s x.p ≠ 34 := by rw [hr]; omega
        have n92 : nextR s x.p ≠ 92 := by rw [hr]; omega
        cases esc with
        | true =>
          refine go false a b e ha (by rw [quotS, if_neg hne, if_pos rfl]) ho2 hp hst ?_ hvb
          cases a with
          | nil => simp at ha
          | cons c' a =>
            have hok : okE true (c :: t) = true := ho
            rw [e] at hok
            have hok2 : okB (a ++ b) = true := hok
            rw [okB_high a b (fun y hy => hah y (List.mem_cons_of_mem _ hy))] at hok2
            exact hok2
        | false =>
          have hok : okB (c :: t) = true := ho
          rw [e, okB_high a b hah] at hok
          exact go false a b e ha (by rw [quotS, if_neg hne, if_neg (by decide), if_neg n92, if_neg n34]) ho2 hp hst hok hvb
theorem emitOn {rest : List UInt8} (h : On s x rest) : On s (emitS x) rest := ⟨h.g.emit, h.d⟩
/-- What lies between two places of a text. -/
theorem tok_mid {a b c : List UInt8} {y : LSt} (hs : s.data.toList = a ++ (b ++ c)) (h1 : y.st = (a.length : Int)) (h2 : y.p = ((a.length + b.length : Nat) : Int)) : tokS s y = mk b := by
  unfold tokS
  rw [h1, h2, Int.toNat_natCast, Int.toNat_natCast]
  apply ByteArray.ext
  apply Array.ext'
  rw [ByteArray.data_extract, Array.toList_extract, List.extract_eq_take_drop, hs, List.drop_left, Nat.add_sub_cancel_left, List.take_left]
  simp [mk]
/-- A token in quotes. -/
theorem quo_fwd {body rest : List UInt8} (h : On s x (34 :: (body ++ 34 :: rest))) (ho : okB body = true) (hv : validD body = true) :
    ∃ y, pkT s x = (.tok 8, y) ∧ On s y rest ∧ y.p = x.p + ((body.length + 2 : Nat) : Int) ∧ y.st = x.st := by
  obtain ⟨hr, hp, hst, hon⟩ := h.asc (c := 34) (by decide)
  have hr34 : nextR s x.p = 34 := hr
  obtain ⟨b1, b2, b3⟩ := h.back
  have hz := congrArg List.length h.d
  rw [List.length_drop, len_toList, List.length_cons, List.length_append, List.length_cons] at hz
  have hrb : nextR s (backS (nextS s x)).p = 34 := by rw [b2]; exact hr34
  obtain ⟨hr2, hp2, hst2, hon2⟩ := b1.asc (c := 34) (by decide)
  have a1 : acB s (backS (nextS s x)) ⟨#[34]⟩ = true := by unfold acB; rw [hrb, hasX34]; rfl
  have a2 : acS s (backS (nextS s x)) ⟨#[34]⟩ = nextS s (backS (nextS s x)) := by unfold acS; rw [if_pos a1]
  obtain ⟨q1, q2, q3⟩ := quot_fwd (s.size + 1) false (nextS s (backS (nextS s x))) body rest hon2 ho hv (by omega)
  have hq := Aside0.mk (rfl : quotS s (s.size + 1) false (nextS s (backS (nextS s x))) = quotS s (s.size + 1) false (nextS s (backS (nextS s x))))
  obtain ⟨z, hz'⟩ : ∃ z, quotS s (s.size + 1) false (nextS s (backS (nextS s x))) = z := ⟨_, rfl⟩
  rw [hz'] at q1 q2 q3
  obtain ⟨r1, r2, r3, r4⟩ := q1.asc (c := 34) (by decide)
  have a3 : acB s z ⟨#[34]⟩ = true := by unfold acB; rw [r1, hasX34]; rfl
  have a4 : acS s z ⟨#[34]⟩ = nextS s z := by unfold acS; rw [if_pos a3]
  refine ⟨nextS s z, pk_some ?_, r4, by rw [r2, q2, hp2, b2]; omega, by rw [r3, q3, hst2, b3]⟩
  have hf : quoF s (backS (nextS s x)) = (some 8, nextS s z) := by
    unfold quoF
    rw [if_pos a1, a2, hz', if_pos a3, a4]
  unfold scan1
  simp only
  rw [hr34, if_neg (by decide), if_neg (by decide), if_neg (by decide), if_neg (by decide), if_neg (by decide), if_pos rfl, hf]
  rfl
theorem hasX33 (r : Int) : hasR ⟨#[33]⟩ r = decide (r = 33) := has_ofX _ 33 (by kernel_rfl) (by decide) r
theorem hasX61 (r : Int) : hasR ⟨#[61]⟩ r = decide (r = 61) := has_ofX _ 61 (by kernel_rfl) (by decide) r
theorem hasX126 (r : Int) : hasR ⟨#[126]⟩ r = decide (r = 126) := has_ofX _ 126 (by kernel_rfl) (by decide) r
theorem acNo {rest : List UInt8} {c : UInt8} (h : On s x (c :: rest)) (hc : c.toNat < 128) (d : ByteArray) (hd : hasR d (c.toNat : Int) = false) : acB s x d = false ∧ On s (acS s x d) (c :: rest) ∧ (acS s x d).p = x.p ∧ (acS s x d).st = x.st := by
  obtain ⟨hr, -, -, -⟩ := h.asc hc
  have a1 : acB s x d = false := by unfold acB; rw [hr]; exact hd
  have a2 : acS s x d = backS (nextS s x) := by unfold acS; rw [a1]; rfl
  rw [a2]
  obtain ⟨b1, b2, b3⟩ := h.back
  exact ⟨a1, b1, b2, b3⟩
theorem acYes {rest : List UInt8} {c : UInt8} (h : On s x (c :: rest)) (hc : c.toNat < 128) (d : ByteArray) (hd : hasR d (c.toNat : Int) = true) : acB s x d = true ∧ On s (acS s x d) rest ∧ (acS s x d).p = x.p + 1 ∧ (acS s x d).st = x.st := by
  obtain ⟨hr, hp, hst, hon⟩ := h.asc hc
  have a1 : acB s x d = true := by unfold acB; rw [hr]; exact hd
  have a2 : acS s x d = nextS s x := by unfold acS; rw [if_pos a1]
  rw [a2]
  exact ⟨a1, hon, hp, hst⟩
/-- An equals sign ahead of a quote. -/
theorem eq_fwd {rest : List UInt8} (h : On s x (61 :: 34 :: rest)) : ∃ y, pkT s x = (.tok 4, y) ∧ On s y (34 :: rest) ∧ y.p = x.p + 1 ∧ y.st = x.st := by
  obtain ⟨hr, -, -, -⟩ := h.asc (c := 61) (by decide)
  have hr61 : nextR s x.p = 61 := hr
  obtain ⟨b1, b2, b3⟩ := h.back
  obtain ⟨u1, u2, u3, u4⟩ := acNo b1 (by decide) ⟨#[33]⟩ (by rw [hasX33]; decide)
  obtain ⟨v1, v2, v3, v4⟩ := acYes u2 (by decide) ⟨#[61]⟩ (by rw [hasX61]; decide)
  obtain ⟨w1, w2, w3, w4⟩ := acNo v2 (by decide) ⟨#[126]⟩ (by rw [hasX126]; decide)
  refine ⟨_, pk_some ?_, w2, by rw [w3, v3, u3, b2], by rw [w4, v4, u4, b3]⟩
  have hf : opF s (backS (nextS s x)) = (some 4, acS s (acS s (acS s (backS (nextS s x)) ⟨#[33]⟩) ⟨#[61]⟩) ⟨#[126]⟩) := by
    unfold opF
    rw [u1, v1, w1]
    rfl
  unfold scan1
  simp only
  rw [hr61, if_neg (by decide), if_neg (by decide), if_neg (by decide), if_neg (by decide), if_pos (Or.inl rfl), hf]
  rfl
/-- '!=' . -/
theorem ne_fwd {rest : List UInt8} (h : On s x (33 :: 61 :: rest)) : ∃ y, pkT s x = (.tok 5, y) ∧ On s y rest ∧ y.p = x.p + 2 ∧ y.st = x.st := by
  obtain ⟨hr, -, -, -⟩ := h.asc (c := 33) (by decide)
  have hr33 : nextR s x.p = 33 := hr
  obtain ⟨b1, b2, b3⟩ := h.back
  obtain ⟨u1, u2, u3, u4⟩ := acYes b1 (by decide) ⟨#[33]⟩ (by rw [hasX33]; decide)
  obtain ⟨v1, v2, v3, v4⟩ := acYes u2 (by decide) ⟨#[61]⟩ (by rw [hasX61]; decide)
  refine ⟨_, pk_some ?_, v2, by rw [v3, u3, b2]; omega, by rw [v4, u4, b3]⟩
  have hf : opF s (backS (nextS s x)) = (some 5, acS s (acS s (backS (nextS s x)) ⟨#[33]⟩) ⟨#[61]⟩) := by
    unfold opF
    rw [u1, v1]
    rfl
  unfold scan1
  simp only
  rw [hr33, if_neg (by decide), if_neg (by decide), if_neg (by decide), if_neg (by decide), if_pos (Or.inr rfl), hf]
  rfl
end
end Go.Proofs.YtnnhehlieakedaaGreatDoor.Q
set_option linter.unusedVariables false
set_option linter.unusedSimpArgs false
namespace Go.Proofs.YtnnhehlieakedaaGreatDoor.Q
open Go.RowKit Go.Lib Go.Proofs.YtnnhehlieakedaaGreatDoorW.PrintWords Go.Proofs.YtnnhehlieakedaaGreatDoorW.PrintLast Go.Proofs.YtnnhehlieakedaaGreatDoorW.PrintMore
/-- The first character of a valid text. -/
theorem char_step (c : UInt8) (t : List UInt8) (hv : validD (c :: t) = true) :
    ∃ a b, c :: t = a ++ b ∧ 1 ≤ a.length ∧ validD b = true ∧ (decodeL (c :: t)).2 = a.length ∧ (∀ m, decodeL (a ++ m) = decodeL (c :: t)) ∧ ((c.toNat < 128 ∧ a = [c]) ∨ (128 ≤ c.toNat ∧ 128 ≤ (decodeL (c :: t)).1 ∧ ∀ x ∈ a, 128 ≤ x.toNat)) ∧ encodeRune ((decodeL (c :: t)).1 : Int) = a ∧ (∀ m, validD (a ++ m) = validD m) := by
  by_cases hc : c.toNat < 128
  · have hd := decodeL_ascii c t hc
    rw [validD_cons c t hc] at hv
    have he := encode_decode (c :: t) (by simp) (by rw [hd]; intro q; have h1 : c.toNat = 65533 := q.1; omega)
    rw [hd] at he ⊢
    exact ⟨[c], t, rfl, by simp, hv, rfl, fun m => decodeL_ascii c m hc, Or.inl ⟨hc, rfl⟩, he, fun m => validD_cons c m hc⟩
  · obtain ⟨n, h1, h2, h3, h4, h5, h6, h7⟩ := high_parts c t (by omega) hv
    have hl : ((c :: t).take n).length = n := by rw [List.length_take]; omega
    have hd : ∀ m, decodeL ((c :: t).take n ++ m) = decodeL (c :: t) := fun m => by
      have := dec_ext (c :: t) m (by simp) h7
      rwa [h3] at this
    refine ⟨(c :: t).take n, (c :: t).drop n, (List.take_append_drop _ _).symm, by omega, h6, by rw [hl]; exact h3, hd, Or.inr ⟨by omega, decL_high c t (by omega), h5⟩, h4, fun m => ?_⟩
    have hne : (c :: t).take n ++ m ≠ [] := fun e => by
      have := congrArg List.length e
      rw [List.length_append, hl] at this
      simp at this
      omega
    rw [validD_step _ hne, hd, if_neg h7, h3]
    congr 1
    rw [List.drop_append_of_le_length (by omega), List.drop_of_length_le (by omega), List.nil_append]
/-- No character of a text is reserved. -/
def noRes : Nat → List UInt8 → Bool
  | 0, _ => true
  | f + 1, l => if l = [] then true else !resR ((decodeL l).1 : Int) && noRes f (l.drop (decodeL l).2)
theorem noRes_of (s : ByteArray) : ∀ (f pos : Nat), idxFuncFrom (fun r => resR (r : Int)) true s f pos = -1 → noRes f (s.data.toList.drop pos) = true
  | 0, _, _ => rfl
  | f + 1, pos, h => by
    rw [noRes]
    by_cases hp : pos < s.size
    · have hd := decodeL_drop s pos
      rw [idxFuncFrom, if_pos hp] at h
      by_cases hr : resR ((Utf8.decode s pos).1 : Int) = true
      · rw [if_pos hr] at h
        omega
      · rw [if_neg hr] at h
        rw [hd, List.drop_drop, noRes_of s f _ h, Bool.eq_false_iff.2 hr]
        simp
    · rw [List.drop_of_length_le (by rw [len_toList]; omega), if_pos rfl]
theorem noRes_is {n : ByteArray} (h : hasRes n = false) : noRes n.size n.data.toList = true := by
  have h0 : idxFunc (fun r => resR (r : Int)) true n = -1 := by
    unfold hasRes at h
    have h1 := of_decide_eq_false h
    unfold idxFunc at h1 ⊢
    rcases idxFuncFrom_range (fun r => resR (r : Int)) true n n.size 0 with q | q
    · exact q
    · exact absurd q.1 h1
  exact noRes_of n n.size 0 h0
theorem allU8P (P : UInt8 → Prop) (h : ∀ n : Fin 256, P (UInt8.ofNat n.val)) (c : UInt8) : P c := by
  have := h ⟨c.toNat, c.toNat_lt⟩
  simpa using this
def sresP (c : UInt8) : Bool := c == 123 || c == 125 || c == 33 || c == 61 || c == 126 || c == 44 || c == 92 || c == 34 || c == 39 || c == 96 || (c == 32 || (9 ≤ c && c ≤ 13))
theorem resC_runesP : runesI resC 0 = [123, 125, 33, 61, 126, 44, 92, 34, 39, 96] := by kernel_rfl
theorem resR_ascP (c : UInt8) (h : c.toNat < 128) : resR (c.toNat : Int) = sresP c := by
  have e : ∀ c : UInt8, c.toNat < 128 → (Lib.isSpaceZ (c.toNat : Int) || (okR (c.toNat : Int) && ([123, 125, 33, 61, 126, 44, 92, 34, 39, 96] : List Nat).any fun d => decide ((d : Int) = (c.toNat : Int)))) = sresP c := by
    refine allU8P _ ?_
    decide +kernel
  have h2 := e c h
  unfold resR hasR
  rw [resC_runesP]
  exact h2
theorem resR_not {r : Int} (h : resR r = false) : r ≠ 123 ∧ r ≠ 125 ∧ r ≠ 44 ∧ r ≠ 61 ∧ r ≠ 33 ∧ r ≠ 34 := by
  have e : ∀ c : UInt8, c.toNat < 128 → sresP c = true → r ≠ (c.toNat : Int) := fun c hc hs q => by
    rw [q, resR_ascP c hc, hs] at h
    cases h
  exact ⟨e 123 (by decide) (by decide), e 125 (by decide) (by decide), e 44 (by decide) (by decide), e 61 (by decide) (by decide), e 33 (by decide) (by decide), e 34 (by decide) (by decide)⟩
section
variable {s : ByteArray}
theorem word_end {x : LSt} {c : UInt8} {rest : List UInt8} (hc : c = 61 ∨ c = 33) (h : On s x (c :: rest)) (k : Nat) : On s (wordS s (k + 1) x) (c :: rest) ∧ (wordS s (k + 1) x).p = x.p ∧ (wordS s (k + 1) x).st = x.st := by
  have hlt : c.toNat < 128 := by rcases hc with rfl | rfl <;> decide
  obtain ⟨hr, -, -, -⟩ := h.asc hlt
  have hs : resR (nextR s x.p) = true := by rw [hr, resR_ascP c hlt]; rcases hc with rfl | rfl <;> rfl
  have e : wordS s (k + 1) x = backS (nextS s x) := by rw [wordS, if_neg (by rw [hr]; omega), if_pos hs]
  rw [e]
  exact h.back
theorem word_fwd : ∀ (k f : Nat) (x : LSt) (w : List UInt8) (c : UInt8) (rest : List UInt8), (c = 61 ∨ c = 33) → On s x (w ++ c :: rest) → validD w = true → noRes f w = true → w.length ≤ f → w.length < k →
    On s (wordS s k x) (c :: rest) ∧ (wordS s k x).p = x.p + (w.length : Int) ∧ (wordS s k x).st = x.st
  | 0, _, _, _, _, _, _, _, _, _, _, h => absurd h (by omega)
  | k + 1, f, x, w, c, rest, hc, h, hv, hn, hf, hk => by
    cases w with
    | nil =>
      obtain ⟨b1, b2, b3⟩ := word_end hc h k
      exact ⟨b1, by rw [b2]; simp, b3⟩
    | cons d t =>
      obtain ⟨a, b, e, ha, hvb, hw, hdec, hcase, _, _⟩ := char_step d t hv
      obtain ⟨f', rfl⟩ : ∃ g, f = g + 1 := ⟨f - 1, by rw [List.length_cons] at hf; omega⟩
      rw [noRes, if_neg (by simp), Bool.and_eq_true] at hn
      have hres : resR ((decodeL (d :: t)).1 : Int) = false := by simpa using hn.1
      have hon := h
      rw [e, List.append_assoc] at hon
      obtain ⟨hr, hp, hst, ho2⟩ := hon.at (by cases a with | nil => simp at ha | cons _ _ => simp)
      rw [hdec] at hr hp ho2
      rw [hw, List.drop_left] at ho2
      rw [hw] at hp
      have hl := congrArg List.length e
      rw [List.length_append] at hl
      have hn2 := hn.2
      rw [hw, e, List.drop_left] at hn2
      obtain ⟨i1, i2, i3⟩ := word_fwd k f' (nextS s x) b c rest hc ho2 hvb hn2 (by omega) (by omega)
      have eq : wordS s (k + 1) x = wordS s k (nextS s x) := by rw [wordS, if_neg (by rw [hr]; omega), if_neg (by rw [hr, hres]; decide)]
      rw [eq]
      exact ⟨i1, by rw [i2, hp, hl]; omega, i3.trans hst⟩
/-- A name ahead of an operator. -/
theorem name_fwd {x : LSt} {n : ByteArray} {c : UInt8} {rest : List UInt8} (hc : c = 61 ∨ c = 33) (h : On s x (n.data.toList ++ c :: rest)) (hv : validD n.data.toList = true) (hn : hasRes n = false) (hne : n.size ≠ 0) :
    ∃ y, pkT s x = (.tok 9, y) ∧ On s y (c :: rest) ∧ y.p = x.p + (n.size : Int) ∧ y.st = x.st := by
  have hN := noRes_is hn
  have hlen := len_toList n
  obtain ⟨d, t, hl⟩ : ∃ d t, n.data.toList = d :: t := by
    cases hq : n.data.toList with
    | nil => rw [hq] at hlen; exact absurd hlen.symm hne
    | cons d t => exact ⟨d, t, rfl⟩
  have hz := congrArg List.length h.d
  rw [List.length_drop, len_toList, List.length_append, hlen, List.length_cons] at hz
  obtain ⟨b1, b2, b3⟩ := h.back
  obtain ⟨w1, w2, w3⟩ := word_fwd (s.size + 1) n.size (backS (nextS s x)) n.data.toList c rest hc b1 hv hN (by omega) (by omega)
  rw [hl] at hN hv
  obtain ⟨m, hm⟩ : ∃ m, n.size = m + 1 := ⟨n.size - 1, by omega⟩
  obtain ⟨a, b, e, ha, hvb, hw, hdec, hcase, _, _⟩ := char_step d t hv
  rw [hm, noRes, if_neg (by simp), Bool.and_eq_true] at hN
  have hres : resR ((decodeL (d :: t)).1 : Int) = false := by simpa using hN.1
  have hon := h
  rw [hl, e, List.append_assoc] at hon
  obtain ⟨hr, -, -, -⟩ := hon.at (by cases a with | nil => simp at ha | cons _ _ => simp)
  rw [hdec] at hr
  obtain ⟨n1, n2, n3, n4, n5, n6⟩ := resR_not hres
  rw [hlen] at w2
  refine ⟨_, pk_some ?_, w1, by rw [w2, b2], w3.trans b3⟩
  unfold scan1
  simp only
  rw [hr, if_neg (by omega), if_neg n1, if_neg n2, if_neg n3, if_neg (by rintro (q | q); exact n4 q; exact n5 q), if_neg n6, if_pos hres]
end
end Go.Proofs.YtnnhehlieakedaaGreatDoor.Q
set_option linter.unusedVariables false
set_option linter.unusedSimpArgs false
namespace Go.Proofs.YtnnhehlieakedaaGreatDoor.Q
open Go.RowKit Go.Lib Go.Proofs.YtnnhehlieakedaaGreatDoorW.PrintWords Go.Proofs.YtnnhehlieakedaaGreatDoorW.PrintLast Go.Proofs.YtnnhehlieakedaaGreatDoorW.PrintMore
/-- An inner text, and what it stands for. -/
inductive Esc : List UInt8 → List UInt8 → Prop
  | nil : Esc [] []
  | raw {c : UInt8} {b t : List UInt8} (h : c.toNat < 128) (h34 : c ≠ 34) (h92 : c ≠ 92) (h10 : c ≠ 10) (e : Esc b t) : Esc (c :: b) (c :: t)
  | high {a b t : List UInt8} (h0 : 1 ≤ a.length) (ha : ∀ x ∈ a, 128 ≤ x.toNat) (hd : ∀ m, (decodeL (a ++ m)).2 = a.length ∧ encodeRune ((decodeL (a ++ m)).1 : Int) = a ∧ 128 ≤ (decodeL (a ++ m)).1 ∧ validD (a ++ m) = validD m) (e : Esc b t) : Esc (a ++ b) (a ++ t)
  | esc {d : UInt8} {x a b t : List UInt8} (r : Nat) (mb : Bool) (hd : d.toNat < 128) (hx : ∀ y ∈ x, y.toNat < 128 ∧ y ≠ 34 ∧ y ≠ 92) (hu : ∀ m, escC d (x ++ m) = some (r, mb, m)) (hv : (if r < 128 ∨ mb = false then [UInt8.ofNat r] else encodeRune (r : Int)) = a) (e : Esc b t) : Esc (92 :: d :: (x ++ b)) (a ++ t)
theorem okB_low : ∀ (x b : List UInt8), (∀ y ∈ x, y.toNat < 128 ∧ y ≠ 34 ∧ y ≠ 92) → okB (x ++ b) = okB b
  | [], b, _ => by simp
  | y :: x, b, h => by
    have hy := h y (by simp)
    rw [List.cons_append, okB_cons, if_neg hy.2.1, if_neg hy.2.2]
    exact okB_low x b (fun z hz => h z (List.mem_cons_of_mem _ hz))
theorem valid_low : ∀ (x b : List UInt8), (∀ y ∈ x, y.toNat < 128 ∧ y ≠ 34 ∧ y ≠ 92) → validD (x ++ b) = validD b
  | [], b, _ => by simp
  | y :: x, b, h => by
    rw [List.cons_append, validD_cons _ _ (h y (by simp)).1]
    exact valid_low x b (fun z hz => h z (List.mem_cons_of_mem _ hz))
theorem Esc.ok {b t : List UInt8} (h : Esc b t) : okB b = true ∧ validD b = true := by
  induction h with
  | nil => exact ⟨rfl, rfl⟩
  | raw h h34 h92 h10 e ih => exact ⟨by rw [okB_cons, if_neg h34, if_neg h92]; exact ih.1, by rw [validD_cons _ _ h]; exact ih.2⟩
  | high h0 ha hd e ih => exact ⟨by rw [okB_high _ _ ha]; exact ih.1, by rw [(hd _).2.2.2]; exact ih.2⟩
  | esc r mb hd hx hu hv e ih =>
    refine ⟨?_, ?_⟩
    · rw [okB_cons, if_neg (by decide), if_pos rfl]
      show okB _ = true
      rw [okB_low _ _ hx]
      exact ih.1
    · rw [validD_cons _ _ (by decide), validD_cons _ _ hd, valid_low _ _ hx]
      exact ih.2
theorem Esc.unq {b t : List UInt8} (h : Esc b t) : ∀ (k : Nat) (acc rest : List UInt8), b.length < k → unqL k (b ++ 34 :: rest) acc = some (acc ++ t, rest) := by
  induction h with
  | nil =>
    intro k acc rest hk
    obtain ⟨k, rfl⟩ : ∃ j, k = j + 1 := ⟨k - 1, by simp at hk; omega⟩
    rw [List.nil_append, unqL, if_neg (by simp), if_pos (show (34 :: rest).head? = some 34 from rfl)]
    simp
  | @raw c b t h h34 h92 h10 e ih =>
    intro k acc rest hk
    obtain ⟨k, rfl⟩ : ∃ j, k = j + 1 := ⟨k - 1, by simp at hk; omega⟩
    have hu : uqC (c :: (b ++ 34 :: rest)) = some (c.toNat, false, b ++ 34 :: rest) := by
      unfold uqC
      simp only
      rw [if_neg h34, if_neg (by omega), if_pos h92]
    rw [List.cons_append, unqL_go h34 h10 hu, if_pos (Or.inr rfl), ih k _ _ (by simp at hk; omega)]
    simp
  | @high a b t h0 ha hd e ih =>
    intro k acc rest hk
    rw [List.length_append] at hk
    obtain ⟨k, rfl⟩ : ∃ j, k = j + 1 := ⟨k - 1, by omega⟩
    obtain ⟨c, a', rfl⟩ : ∃ c a', a = c :: a' := by
      cases a with
      | nil => simp at h0
      | cons c a' => exact ⟨c, a', rfl⟩
    obtain ⟨m1, m2, m3, m4⟩ := hd (b ++ 34 :: rest)
    have hc := ha c (by simp)
    have h34 : c ≠ 34 := fun q => by rw [q] at hc; exact absurd hc (by decide)
    have h10 : c ≠ 10 := fun q => by rw [q] at hc; exact absurd hc (by decide)
    have hu : uqC (c :: (a' ++ (b ++ 34 :: rest))) = some ((decodeL (c :: a' ++ (b ++ 34 :: rest))).1, true, b ++ 34 :: rest) := by
      unfold uqC
      simp only
      rw [if_neg h34, if_pos hc]
      have e1 : c :: (a' ++ (b ++ 34 :: rest)) = c :: a' ++ (b ++ 34 :: rest) := rfl
      rw [e1, m1, List.drop_left]
    rw [List.append_assoc, List.cons_append, unqL_go h34 h10 hu, if_neg (by rintro (q | q); omega; exact absurd q (by decide)), m2, ih k _ _ (by simp at hk; omega)]
    simp
  | @esc d x a b t r mb hd hx hu hv e ih =>
    intro k acc rest hk
    rw [List.length_cons, List.length_cons, List.length_append] at hk
    obtain ⟨k, rfl⟩ : ∃ j, k = j + 1 := ⟨k - 1, by omega⟩
    have hq : uqC (92 :: d :: (x ++ (b ++ 34 :: rest))) = some (r, mb, b ++ 34 :: rest) := by
      unfold uqC
      simp only
      rw [if_neg (by decide), if_neg (by decide), if_neg (by simp)]
      exact hu _
    have e1 : (92 :: d :: (x ++ b)) ++ 34 :: rest = 92 :: d :: (x ++ (b ++ 34 :: rest)) := by simp
    rw [e1, unqL_go (by decide) (by decide) hq, hv, ih k _ _ (by omega)]
    simp
theorem idx_ne {c : UInt8} (h : c ≠ 34) (l : List UInt8) : (c :: l).idxOf 34 = l.idxOf 34 + 1 := by
  have : (c == 34) = false := beq_eq_false_iff_ne.2 h
  rw [List.idxOf_cons, this]
  rfl
theorem idx_high : ∀ (a l : List UInt8), (∀ x ∈ a, 128 ≤ x.toNat) → (a ++ l).idxOf 34 = a.length + l.idxOf 34
  | [], l, _ => by simp
  | x :: a, l, h => by
    have hx := h x (by simp)
    have hne : x ≠ 34 := fun q => by rw [q] at hx; exact absurd hx (by decide)
    rw [List.cons_append, idx_ne hne, idx_high a l (fun y hy => h y (List.mem_cons_of_mem _ hy)), List.length_cons]
    omega
theorem Esc.plain {b t : List UInt8} (h : Esc b t) (rest : List UInt8) : 92 ∉ (b ++ 34 :: rest).take ((b ++ 34 :: rest).idxOf 34) → t = b ∧ (b ++ 34 :: rest).idxOf 34 = b.length := by
  induction h with
  | nil => intro _; exact ⟨rfl, by rw [List.nil_append, List.idxOf_cons]; simp⟩
  | @raw c b t h h34 h92 h10 e ih =>
    intro hn
    have e1 : (c :: b ++ 34 :: rest).idxOf 34 = (b ++ 34 :: rest).idxOf 34 + 1 := by rw [List.cons_append, idx_ne h34]
    rw [e1, List.cons_append, List.take_succ_cons] at hn
    obtain ⟨i1, i2⟩ := ih (fun q => hn (List.mem_cons_of_mem _ q))
    exact ⟨by rw [i1], by rw [e1, i2]; rfl⟩
  | @high a b t h0 ha hd e ih =>
    intro hn
    have e1 : (a ++ b ++ 34 :: rest).idxOf 34 = a.length + (b ++ 34 :: rest).idxOf 34 := by rw [List.append_assoc]; exact idx_high a _ ha
    rw [e1, List.append_assoc, List.take_append, List.take_of_length_le (by omega), Nat.add_sub_cancel_left] at hn
    obtain ⟨i1, i2⟩ := ih (fun q => hn (List.mem_append_right _ q))
    exact ⟨by rw [i1], by rw [e1, i2, List.length_append]⟩
  | @esc d x a b t r mb hd hx hu hv e ih =>
    intro hn
    have e1 : (92 :: d :: (x ++ b) ++ 34 :: rest).idxOf 34 = (d :: (x ++ b) ++ 34 :: rest).idxOf 34 + 1 := by rw [List.cons_append, idx_ne (by decide)]
    have e0 : (92 :: d :: (x ++ b)) ++ 34 :: rest = 92 :: (d :: (x ++ b) ++ 34 :: rest) := rfl
    rw [e1, e0, List.take_succ_cons] at hn
    exact absurd (List.mem_cons_self) hn
theorem Esc.unqF {b t : List UInt8} (h : Esc b t) : unqF (mk (34 :: (b ++ [34]))) = some (mk t) := by
  have hc : ((34 :: (b ++ [34])).drop 1).contains 34 = true := by simp
  have e1 : (34 :: (b ++ [34])).drop 1 = b ++ 34 :: [] := rfl
  have hu : unq1 (34 :: (b ++ [34])) = some (t, []) := by
    unfold unq1
    rw [if_pos hc, e1]
    simp only
    split
    · rename_i hcond
      obtain ⟨i1, i2⟩ := h.plain [] hcond.1.1
      rw [i2, List.take_left, i1]
      simp
    · rw [h.unq _ _ _ (by simp; omega)]
      rfl
  unfold Q.unqF
  show (match unq1 (34 :: (b ++ [34])) with | none => none | some (out, rem) => if rem = [] then some (mk out) else none) = _
  rw [hu]
  rfl
theorem Esc.unqT {b t : List UInt8} (h : Esc b t) (hv : validD t = true) : unqT 8 (mk (34 :: (b ++ [34]))) = some (mk t) := by
  unfold Q.unqT
  rw [if_pos rfl, h.unqF]
  show (if validD t = true then some (mk t) else none) = _
  rw [if_pos hv]
theorem omeL_high : ∀ (a l : List UInt8), (∀ x ∈ a, 128 ≤ x.toNat) → omeL (a ++ l) = a ++ omeL l
  | [], l, _ => by simp
  | x :: a, l, h => by
    have hx := h x (by simp)
    have h1 : x ≠ 92 := fun q => by rw [q] at hx; exact absurd hx (by decide)
    have h2 : x ≠ 10 := fun q => by rw [q] at hx; exact absurd hx (by decide)
    have h3 : x ≠ 34 := fun q => by rw [q] at hx; exact absurd hx (by decide)
    rw [List.cons_append, omeL, if_neg h1, if_neg h2, if_neg h3, omeL_high a l (fun y hy => h y (List.mem_cons_of_mem _ hy))]
    rfl
theorem ome_esc : ∀ (f : Nat) (v : List UInt8), v.length ≤ f → validD v = true → Esc (omeL v) v
  | _, [], _, _ => Esc.nil
  | 0, c :: t, h, _ => absurd h (by simp)
  | f + 1, c :: t, hf, hv => by
    obtain ⟨a, b, e, ha, hvb, hw, hdec, hcase, henc, hvm⟩ := char_step c t hv
    have hl := congrArg List.length e
    rw [List.length_append] at hl
    have ih := ome_esc f b (by omega) hvb
    rcases hcase with ⟨hc, rfl⟩ | ⟨hc, hr, hall⟩
    · obtain rfl : t = b := by injection e
      rw [omeL]
      by_cases h1 : c = 92
      · rw [if_pos h1]
        subst h1
        exact Esc.esc (d := 92) (x := []) (a := [92]) 92 false (by decide) (by simp) (fun m => rfl) rfl ih
      rw [if_neg h1]
      by_cases h2 : c = 10
      · rw [if_pos h2]
        subst h2
        exact Esc.esc (d := 110) (x := []) (a := [10]) 10 false (by decide) (by simp) (fun m => rfl) rfl ih
      rw [if_neg h2]
      by_cases h3 : c = 34
      · rw [if_pos h3]
        subst h3
        exact Esc.esc (d := 34) (x := []) (a := [34]) 34 false (by decide) (by simp) (fun m => rfl) rfl ih
      rw [if_neg h3]
      exact Esc.raw hc h3 h1 h2 ih
    · rw [e, omeL_high a b hall]
      exact Esc.high ha hall (fun m => ⟨by rw [hdec, hw], by rw [hdec, henc], by rw [hdec]; exact hr, hvm m⟩) ih
end Go.Proofs.YtnnhehlieakedaaGreatDoor.Q
set_option linter.unusedVariables false
set_option linter.unusedSimpArgs false
namespace Go.Proofs.YtnnhehlieakedaaGreatDoor.Q
open Go.RowKit Go.Lib Go.Proofs.YtnnhehlieakedaaGreatDoorW.PrintWords Go.Proofs.YtnnhehlieakedaaGreatDoorW.PrintLast Go.Proofs.YtnnhehlieakedaaGreatDoorW.PrintMore
def nb (l : List Int) : List UInt8 := l.map fun n => UInt8.ofNat n.toNat
theorem nb_app (a b : List Int) : nb (a ++ b) = nb a ++ nb b := List.map_append
def hb (x : Nat) : UInt8 := UInt8.ofNat (Lib.hexDigit x).toNat
theorem hb_is (x : Nat) (h : x < 16) : hexV (hb x) = some x ∧ (hb x).toNat < 128 ∧ hb x ≠ 34 ∧ hb x ≠ 92 := by
  have e : ∀ x : Fin 16, hexV (hb x.val) = some x.val ∧ (hb x.val).toNat < 128 ∧ hb x.val ≠ 34 ∧ hb x.val ≠ 92 := by decide
  exact e ⟨x, h⟩
theorem digits_len (r : Nat) : ∀ n, (hexDigits r n).length = n
  | 0 => rfl
  | n + 1 => by rw [hexDigits, List.length_cons, digits_len r n]
theorem digits_low (r : Nat) : ∀ n, ∀ y ∈ nb (hexDigits r n), y.toNat < 128 ∧ y ≠ 34 ∧ y ≠ 92
  | 0, y, h => by simp [nb, hexDigits] at h
  | n + 1, y, h => by
    rw [hexDigits] at h
    rcases List.mem_cons.1 h with rfl | h
    · exact (hb_is _ (Nat.mod_lt _ (by omega))).2
    · exact digits_low r n y h
theorem hexNat_digits (r : Nat) (m : List UInt8) : ∀ (n v : Nat), hexNat n (nb (hexDigits r n) ++ m) v = some (v * 16 ^ n + r % 16 ^ n)
  | 0, v => by rw [hexNat, Nat.pow_zero, Nat.mod_one]; simp
  | n + 1, v => by
    have hx := (hb_is (r / 16 ^ n % 16) (Nat.mod_lt _ (by omega))).1
    have e : nb (hexDigits r (n + 1)) ++ m = hb (r / 16 ^ n % 16) :: (nb (hexDigits r n) ++ m) := rfl
    rw [e, hexNat, hx]
    simp only
    rw [hexNat_digits r m n, Nat.mod_pow_succ, Nat.pow_succ]
    congr 1
    have h1 : v * (16 ^ n * 16) = v * 16 * 16 ^ n := by rw [Nat.mul_comm (16 ^ n) 16, Nat.mul_assoc]
    rw [h1, Nat.add_mul, Nat.mul_comm (r / 16 ^ n % 16)]
    omega
theorem digits_drop (r n : Nat) (m : List UInt8) : (nb (hexDigits r n) ++ m).drop n = m := by
  have e : (nb (hexDigits r n)).length = n := by unfold nb; rw [List.length_map, digits_len]
  have := List.drop_left (l₁ := nb (hexDigits r n)) (l₂ := m)
  rwa [e] at this
theorem encR_is (r : Int) : nb (encodeRuneZ r) = encodeRune r := rfl
theorem notBadRune {c : UInt8} {t a : List UInt8} (hdec : ∀ m, decodeL (a ++ m) = decodeL (c :: t)) (henc : encodeRune ((decodeL (c :: t)).1 : Int) = a) : Lib.validRune ((decodeL (c :: t)).1 : Int) = true := by
  cases hv : Lib.validRune ((decodeL (c :: t)).1 : Int) with
  | true => rfl
  | false =>
    exfalso
    have hm := decodeL_rune (c :: t)
    unfold Lib.validRune at hv
    have hn := of_decide_eq_false hv
    have hb : encodeRuneZ ((decodeL (c :: t)).1 : Int) = [239, 191, 189] := encodeRuneZ_bad (by omega)
    have ha : a = [239, 191, 189] := by rw [← henc, ← encR_is, hb]; rfl
    have h0 := hdec []
    rw [ha] at h0
    have h1 : decodeL ([239, 191, 189] ++ []) = (65533, 3) := by decide
    rw [h1] at h0
    rw [← h0] at hn
    exact hn (by decide)
set_option maxRecDepth 10000 in
theorem rune_piece (T : PrintTabs) {c : UInt8} {t a b t' : List UInt8} (hdec : ∀ m, decodeL (a ++ m) = decodeL (c :: t)) (hw : (decodeL (c :: t)).2 = a.length) (ha : 1 ≤ a.length)
    (hcase : (c.toNat < 128 ∧ a = [c]) ∨ (128 ≤ c.toNat ∧ 128 ≤ (decodeL (c :: t)).1 ∧ ∀ x ∈ a, 128 ≤ x.toNat)) (henc : encodeRune ((decodeL (c :: t)).1 : Int) = a) (hvm : ∀ m, validD (a ++ m) = validD m) (e : Esc b t') :
    Esc (nb (escRune T ((decodeL (c :: t)).1 : Int)) ++ b) (a ++ t') ∧ (escRune T ((decodeL (c :: t)).1 : Int)).length ≤ 4 * a.length := by
  have hvr := notBadRune hdec henc
  have hmax := decodeL_rune (c :: t)
  have hlow : (decodeL (c :: t)).1 < 128 → c.toNat < 128 ∧ a = [c] ∧ c.toNat = (decodeL (c :: t)).1 := fun h => by
    rcases hcase with ⟨h1, h2⟩ | ⟨_, h2, _⟩
    · exact ⟨h1, h2, by rw [decodeL_ascii c t h1]⟩
    · omega
  have hd2 : ∀ m, 128 ≤ (decodeL (c :: t)).1 → (decodeL (a ++ m)).2 = a.length ∧ encodeRune ((decodeL (a ++ m)).1 : Int) = a ∧ 128 ≤ (decodeL (a ++ m)).1 ∧ validD (a ++ m) = validD m := fun m h => ⟨by rw [hdec, hw], by rw [hdec, henc], by rw [hdec]; exact h, hvm m⟩
  have hall : 128 ≤ (decodeL (c :: t)).1 → ∀ x ∈ a, 128 ≤ x.toNat := fun h => by
    rcases hcase with ⟨h1, h2⟩ | ⟨_, _, h2⟩
    · rw [decodeL_ascii c t h1] at h
      have h' : 128 ≤ c.toNat := h
      omega
    · exact h2
  have hal : (decodeL (c :: t)).1 < 128 ∨ (2 ≤ a.length ∧ (65536 ≤ (decodeL (c :: t)).1 → a.length = 4)) := by
    rcases Nat.lt_or_ge (decodeL (c :: t)).1 128 with h | h
    · exact Or.inl h
    · right
      have hl : a.length = (encodeRuneZ ((decodeL (c :: t)).1 : Int)).length := by rw [← henc, ← encR_is]; unfold nb; rw [List.length_map]
      rw [hl]
      refine ⟨?_, fun h2 => by rw [encodeRuneZ_four (by omega) (by omega)]; rfl⟩
      unfold encodeRuneZ
      rw [if_neg (by omega)]
      repeat' split
      all_goals simp
  generalize (decodeL (c :: t)).1 = r at *
  have one : ∀ (d : UInt8) (q : Nat), r = q → q < 128 → d.toNat < 128 → (∀ m, escC d ([] ++ m) = some (q, false, m)) → Esc (92 :: d :: ([] ++ b)) (a ++ t') := fun d q h hq hd hu => by
    obtain ⟨h1, h2, h3⟩ := hlow (by omega)
    refine Esc.esc (x := []) q false hd (by simp) hu ?_ e
    have h8 : UInt8.ofNat q = c := UInt8.toNat_inj.1 (by
      have h9 : (UInt8.ofNat q).toNat = q % 256 := by simp
      omega)
    rw [if_pos (Or.inr (rfl : false = false)), h2, h8]
  unfold escRune
  by_cases c1 : (r : Int) = 34 ∨ (r : Int) = 92
  · rw [if_pos c1]
    refine ⟨?_, by simp; omega⟩
    rcases c1 with c1 | c1
    · rw [c1]; exact one 34 34 (by omega) (by decide) (by decide) (fun m => rfl)
    · rw [c1]; exact one 92 92 (by omega) (by decide) (by decide) (fun m => rfl)
  rw [if_neg c1]
  by_cases c2 : isPrintR T (r : Int) = true
  · rw [if_pos c2, encR_is, henc]
    have hl : (encodeRuneZ (r : Int)).length = a.length := by rw [← henc, ← encR_is]; unfold nb; rw [List.length_map]
    refine ⟨?_, by omega⟩
    rcases Nat.lt_or_ge r 128 with h | h
    · obtain ⟨h1, h2, h3⟩ := hlow h
      rw [h2]
      refine Esc.raw h1 (fun q => ?_) (fun q => ?_) (fun q => ?_) e
      · rw [q] at h3; have h4 : 34 = r := h3; omega
      · rw [q] at h3; have h4 : 92 = r := h3; omega
      · rw [q] at h3
        have h4 : 10 = r := h3
        rw [← h4] at c2
        exact absurd c2 (by rw [show isPrintR T (((10 : Nat) : Nat) : Int) = false from rfl]; decide)
    · exact Esc.high ha (hall h) (fun m => hd2 m h) e
  rw [if_neg c2]
  by_cases c3 : (r : Int) = 7
  · rw [if_pos c3]; exact ⟨one 97 7 (by omega) (by decide) (by decide) (fun m => rfl), by simp; omega⟩
  rw [if_neg c3]
  by_cases c4 : (r : Int) = 8
  · rw [if_pos c4]; exact ⟨one 98 8 (by omega) (by decide) (by decide) (fun m => rfl), by simp; omega⟩
  rw [if_neg c4]
  by_cases c5 : (r : Int) = 12
  · rw [if_pos c5]; exact ⟨one 102 12 (by omega) (by decide) (by decide) (fun m => rfl), by simp; omega⟩
  rw [if_neg c5]
  by_cases c6 : (r : Int) = 10
  · rw [if_pos c6]; exact ⟨one 110 10 (by omega) (by decide) (by decide) (fun m => rfl), by simp; omega⟩
  rw [if_neg c6]
  by_cases c7 : (r : Int) = 13
  · rw [if_pos c7]; exact ⟨one 114 13 (by omega) (by decide) (by decide) (fun m => rfl), by simp; omega⟩
  rw [if_neg c7]
  by_cases c8 : (r : Int) = 9
  · rw [if_pos c8]; exact ⟨one 116 9 (by omega) (by decide) (by decide) (fun m => rfl), by simp; omega⟩
  rw [if_neg c8]
  by_cases c9 : (r : Int) = 11
  · rw [if_pos c9]; exact ⟨one 118 11 (by omega) (by decide) (by decide) (fun m => rfl), by simp; omega⟩
  rw [if_neg c9]
  by_cases ca : (r : Int) < 32 ∨ (r : Int) = 127
  · rw [if_pos ca]
    obtain ⟨h1, h2, h3⟩ := hlow (by omega)
    refine ⟨?_, by rw [h2]; simp⟩
    have e2 : nb [92, 120, Lib.hexDigit ((r : Int).toNat / 16), Lib.hexDigit ((r : Int).toNat % 16)] = 92 :: 120 :: nb (hexDigits r 2) := by
      have q1 : (r : Int).toNat / 16 = r / 16 ^ 1 % 16 := by omega
      have q2 : (r : Int).toNat % 16 = r / 16 ^ 0 % 16 := by omega
      rw [q1, q2]
      rfl
    rw [e2, List.cons_append, List.cons_append]
    refine Esc.esc r false (by decide) (digits_low r 2) (fun m => ?_) ?_ e
    · show (hexNat 2 (nb (hexDigits r 2) ++ m) 0).map (fun v => (v, false, (nb (hexDigits r 2) ++ m).drop 2)) = _
      rw [hexNat_digits, digits_drop]
      show some (0 * 16 ^ 2 + r % 16 ^ 2, false, m) = _
      rw [show 0 * 16 ^ 2 + r % 16 ^ 2 = r by omega]
    · have h8 : UInt8.ofNat r = c := UInt8.toNat_inj.1 (by
        have h9 : (UInt8.ofNat r).toNat = r % 256 := by simp
        omega)
      rw [if_pos (Or.inr (rfl : false = false)), h2, h8]
  rw [if_neg ca, if_neg (by rw [hvr]; decide)]
  have h128 : 128 ≤ r := by
    rcases Nat.lt_or_ge r 128 with h | h
    · exfalso
      apply c2
      unfold isPrintR isPrintLatin
      rw [if_pos (by omega)]
      simp
      omega
    · exact h
  have hok : okRune r = true := by
    unfold Lib.validRune at hvr
    have := of_decide_eq_true hvr
    unfold okRune
    exact decide_eq_true (by omega)
  by_cases cb : (r : Int) < 65536
  · rw [if_pos cb]
    refine ⟨?_, by rw [List.length_cons, List.length_cons, digits_len]; omega⟩
    have e2 : nb (92 :: 117 :: hexDigits (r : Int).toNat 4) = 92 :: 117 :: nb (hexDigits r 4) := rfl
    rw [e2, List.cons_append, List.cons_append]
    refine Esc.esc r true (by decide) (digits_low r 4) (fun m => ?_) ?_ e
    · show (match hexNat 4 (nb (hexDigits r 4) ++ m) 0 with | none => none | some v => if okRune v then some (v, true, (nb (hexDigits r 4) ++ m).drop 4) else none) = _
      rw [hexNat_digits, digits_drop, show 0 * 16 ^ 4 + r % 16 ^ 4 = r by omega]
      simp only
      rw [if_pos hok]
    · rw [if_neg (by rintro (q | q); omega; exact absurd q (by decide)), henc]
  · rw [if_neg cb]
    refine ⟨?_, by rw [List.length_cons, List.length_cons, digits_len]; omega⟩
    have e2 : nb (92 :: 85 :: hexDigits (r : Int).toNat 8) = 92 :: 85 :: nb (hexDigits r 8) := rfl
    rw [e2, List.cons_append, List.cons_append]
    refine Esc.esc r true (by decide) (digits_low r 8) (fun m => ?_) ?_ e
    · show (match hexNat 8 (nb (hexDigits r 8) ++ m) 0 with | none => none | some v => if okRune v then some (v, true, (nb (hexDigits r 8) ++ m).drop 8) else none) = _
      rw [hexNat_digits, digits_drop, show 0 * 16 ^ 8 + r % 16 ^ 8 = r by omega]
      simp only
      rw [if_pos hok]
    · rw [if_neg (by rintro (q | q); omega; exact absurd q (by decide)), henc]
theorem quote_esc (T : PrintTabs) : ∀ (f : Nat) (l : List UInt8), validD l = true → l.length ≤ f → Esc (nb (quoteFrom T f (mk l))) l ∧ (quoteFrom T f (mk l)).length ≤ 4 * l.length
  | f, [], _, _ => by
    rw [quoteFrom_end T f (mk []) (by decide)]
    exact ⟨Esc.nil, Nat.le_refl _⟩
  | 0, c :: t, _, h => absurd h (by simp)
  | f + 1, c :: t, hv, hf => by
    have hz : (mk (c :: t)).size = (c :: t).length := mk_size _
    have hd : Utf8.decode (mk (c :: t)) 0 = decodeL (c :: t) := (decodeL_drop (mk (c :: t)) 0).symm
    have hnb : ¬ ((decodeL (c :: t)).2 = 1 ∧ (decodeL (c :: t)).1 = 65533) := fun q => by
      rw [validD_step _ (by simp), if_pos ⟨q.2, q.1⟩] at hv
      cases hv
    obtain ⟨a, b, e, ha, hvb, hw, hdec, hcase, henc, hvm⟩ := char_step c t hv
    have hl := congrArg List.length e
    rw [List.length_append] at hl
    have hx : (mk (c :: t)).extract (decodeL (c :: t)).2 (mk (c :: t)).size = mk b := by
      apply ByteArray.ext
      apply Array.ext'
      rw [ByteArray.data_extract, Array.toList_extract, List.extract_eq_take_drop]
      show ((c :: t).drop _).take _ = b
      rw [hz.trans hl, hw, e, List.drop_left]
      exact List.take_of_length_le (by omega)
    obtain ⟨i1, i2⟩ := quote_esc T f b hvb (by omega)
    obtain ⟨p1, p2⟩ := rune_piece T hdec hw ha hcase henc hvm i1
    rw [quoteFrom_step T (f + 1) (mk (c :: t)) (by rw [hz]; simp) (by rw [hz]; exact hf), quoteStep_good T _ (by rw [hd]; exact hnb), hd, hx, nb_app, Nat.add_sub_cancel]
    exact ⟨by rw [e] at p1 ⊢; exact p1, by rw [List.length_append, hl]; omega⟩
/-- A quoted text. -/
theorem quoB_is {s : ByteArray} (hv : validD s.data.toList = true) : ∃ b, quoB s = mk (34 :: (b ++ [34])) ∧ Esc b s.data.toList ∧ b.length ≤ 4 * s.size := by
  obtain ⟨l, rfl⟩ : ∃ l, s = mk l := ⟨s.data.toList, by cases s; rfl⟩
  obtain ⟨h1, h2⟩ := quote_esc goPrintTabs (mk l).size l hv (by rw [mk_size]; exact Nat.le_refl _)
  refine ⟨_, ?_, h1, by unfold nb; rw [List.length_map, mk_size]; exact h2⟩
  unfold quoB quoteZ
  show mk (nb (34 :: (quoteFrom goPrintTabs (mk l).size (mk l) ++ [34]))) = _
  have e : nb (34 :: (quoteFrom goPrintTabs (mk l).size (mk l) ++ [34])) = 34 :: (nb (quoteFrom goPrintTabs (mk l).size (mk l)) ++ [34]) := by
    show (34 : UInt8) :: nb (_ ++ [34]) = _
    rw [nb_app]
    rfl
  rw [e]
end Go.Proofs.YtnnhehlieakedaaGreatDoor.Q
set_option linter.unusedVariables false
set_option linter.unusedSimpArgs false
namespace Go.Proofs.YtnnhehlieakedaaGreatDoor.Q
open Go.RowKit Go.Lib Go.Proofs.YtnnhehlieakedaaGreatDoorW.PrintWords Go.Proofs.YtnnhehlieakedaaGreatDoorW.PrintLast Go.Proofs.YtnnhehlieakedaaGreatDoorW.PrintMore
theorem sim_valid (s : ByteArray) : ∀ (d pos : Nat), s.size - pos ≤ d → simA s pos = true → validD (s.data.toList.drop pos) = true
  | d, pos, hd, h => by
    by_cases hp : pos < s.size
    · match d, hd with
      | 0, hd => omega
      | d + 1, hd =>
        unfold simA at h
        rw [runesI_go s pos hp, List.all_cons, Bool.and_eq_true] at h
        have hw := decode_wide s pos
        have hdl := decodeL_drop s pos
        have ih := sim_valid s d (pos + (Utf8.decode s pos).2) (by omega) h.2
        have hne : s.data.toList.drop pos ≠ [] := fun q => by
          have := congrArg List.length q
          rw [List.length_drop, len_toList] at this
          simp at this
          omega
        rw [validD_step _ hne, hdl, List.drop_drop, ih, if_neg]
        intro q
        have h1 := h.1
        rw [q.1] at h1
        exact absurd h1 (by decide)
    · rw [List.drop_of_length_le (by rw [len_toList]; omega)]
      rfl
structure Pla (m : S25) : Prop where
  ty : m.f0 = 0 ∨ m.f0 = 1
  ne : m.f1.size ≠ 0
  vn : validD m.f1.data.toList = true
  vv : validD m.f2.data.toList = true
  ln : m.f1.size ≤ 65536
  lv : m.f2.size ≤ 65536
theorem simB_is {s : ByteArray} (h : simB s = true) : validD s.data.toList = true ∧ s.size ≤ 65536 := by
  unfold simB at h
  rw [Bool.and_eq_true] at h
  have h1 := sim_valid s s.size 0 (by omega) h.1
  have h2 := of_decide_eq_true h.2
  exact ⟨h1, by omega⟩
theorem pla_is {m : S25} (h : plaB m = true) : Pla m := by
  unfold plaB at h
  rw [Bool.and_eq_true, Bool.and_eq_true, Bool.and_eq_true, Bool.or_eq_true] at h
  obtain ⟨⟨⟨h1, h2⟩, h3⟩, h4⟩ := h
  have ⟨a1, a2⟩ := simB_is h3
  have ⟨b1, b2⟩ := simB_is h4
  refine ⟨?_, ?_, a1, b1, a2, b2⟩
  · rcases h1 with h1 | h1
    · exact Or.inl (of_decide_eq_true h1)
    · exact Or.inr (of_decide_eq_true h1)
  · intro q
    have e0 : (⟨#[]⟩ : ByteArray).toList = [] := by kernel_rfl
    have e : m.f1.toList = [] := by
      have e1 : m.f1 = ⟨#[]⟩ := by
        apply ByteArray.ext
        exact Array.eq_empty_of_size_eq_zero q
      rw [e1, e0]
    rw [e] at h2
    cases h2
theorem pla_ok {m : S25} (h : Pla m) : okPr m = true := by
  unfold okPr
  simp only [Bool.and_eq_true, Bool.or_eq_true, decide_eq_true_eq]
  exact ⟨⟨h.ty, h.ln⟩, h.lv⟩
/-- The text of a plain matcher, part by part. -/
theorem prM_parts {m : S25} (h : Pla m) : ∃ H bv, (prM m).data.toList = H ++ ((tyS m.f0).data.toList ++ 34 :: (bv ++ [34])) ∧ Esc bv m.f2.data.toList ∧ bv.length ≤ 262144 ∧ H.length ≤ 262146 ∧
    ((∃ bn, H = 34 :: (bn ++ [34]) ∧ Esc bn m.f1.data.toList) ∨ (H = m.f1.data.toList ∧ hasRes m.f1 = false)) := by
  have hln := h.ln
  have hlv := h.lv
  unfold prM
  by_cases hr : hasRes m.f1 = true
  · rw [if_pos hr]
    obtain ⟨bn, n1, n2, n3⟩ := quoB_is h.vn
    obtain ⟨bv, v1, v2, v3⟩ := quoB_is h.vv
    refine ⟨34 :: (bn ++ [34]), bv, ?_, v2, by omega, by simp; omega, Or.inl ⟨bn, rfl, n2⟩⟩
    rw [n1, v1]
    simp [mk]
  · rw [if_neg hr]
    have ho := omeL_len m.f2.data.toList
    rw [len_toList] at ho
    refine ⟨m.f1.data.toList, omeL m.f2.data.toList, ?_, ome_esc _ _ (Nat.le_refl _) h.vv, by omega, by rw [len_toList]; omega, Or.inr ⟨rfl, by simpa using hr⟩⟩
    unfold escB
    simp [mk]
theorem prM_len {m : S25} (h : Pla m) : (prM m).size ≤ 600000 := by
  obtain ⟨H, bv, e, _, h1, h2, _⟩ := prM_parts h
  have := congrArg List.length e
  rw [len_toList, List.length_append, List.length_append, List.length_cons, List.length_append, List.length_singleton, len_toList] at this
  have := tyS_size m.f0
  omega
theorem mkD (s : ByteArray) : mk s.data.toList = s := by cases s; rfl
/-- The tokens of a plain matcher's text. -/
theorem prM_toks {m : S25} (h : Pla m) : ∃ k u o c w, TK (prM m) lx0 [(k, u), (o, c), (8, w)] true ∧ (k = 8 ∨ k = 9) ∧ (o = 4 ∨ o = 5) ∧ o - 4 = m.f0 ∧ unqT k u = some m.f1 ∧ unqT 8 w = some m.f2 := by
  obtain ⟨H, bv, e, hev, hbv, hH, hcase⟩ := prM_parts h
  have hsz := prM_len h
  generalize prM m = s at *
  have hlen := congrArg List.length e
  rw [len_toList, List.length_append, List.length_append, List.length_cons, List.length_append, List.length_singleton] at hlen
  have g0 := lx0_good s (by omega)
  have o0 : On s lx0 (H ++ ((tyS m.f0).data.toList ++ 34 :: (bv ++ [34]))) := ⟨g0, e⟩
  have hty : (m.f0 = 0 ∧ (tyS m.f0).data.toList = [61]) ∨ (m.f0 = 1 ∧ (tyS m.f0).data.toList = [33, 61]) := by
    rcases h.ty with q | q
    · left; exact ⟨q, by rw [q]; rfl⟩
    · right; exact ⟨q, by rw [q]; rfl⟩
  have first : ∃ k y, pkT s lx0 = (.tok k, y) ∧ On s y ((tyS m.f0).data.toList ++ 34 :: (bv ++ [34])) ∧ y.p = (H.length : Int) ∧ y.st = 0 ∧ (k = 8 ∨ k = 9) ∧ unqT k (mk H) = some m.f1 := by
    rcases hcase with ⟨bn, rfl, hen⟩ | ⟨rfl, hres⟩
    · have o1 : On s lx0 (34 :: (bn ++ 34 :: ((tyS m.f0).data.toList ++ 34 :: (bv ++ [34])))) := ⟨g0, by rw [show s.data.toList.drop lx0.p.toNat = s.data.toList from rfl, e]; simp⟩
      obtain ⟨y, h1, h2, h3, h4⟩ := quo_fwd o1 hen.ok.1 hen.ok.2
      exact ⟨8, y, h1, h2, by rw [h3]; show (0 : Int) + _ = _; simp; omega, h4, Or.inl rfl, by rw [hen.unqT h.vn, mkD]⟩
    · have h9 : unqT 9 (mk m.f1.data.toList) = some m.f1 := by
        rw [mkD]
        unfold unqT
        rw [if_neg (by decide)]
      rcases hty with ⟨_, ht⟩ | ⟨_, ht⟩
      · rw [ht] at o0 ⊢
        obtain ⟨y, h1, h2, h3, h4⟩ := name_fwd (Or.inl rfl) o0 h.vn hres h.ne
        exact ⟨9, y, h1, h2, by rw [h3, len_toList]; show (0 : Int) + _ = _; omega, h4, Or.inr rfl, h9⟩
      · rw [ht] at o0 ⊢
        obtain ⟨y, h1, h2, h3, h4⟩ := name_fwd (Or.inr rfl) o0 h.vn hres h.ne
        exact ⟨9, y, h1, h2, by rw [h3, len_toList]; show (0 : Int) + _ = _; omega, h4, Or.inr rfl, h9⟩
  obtain ⟨k, y1, a1, a2, a3, a4, a5, a6⟩ := first
  have a7 : tokS s y1 = mk H := tok_mid (a := []) (b := H) (c := (tyS m.f0).data.toList ++ 34 :: (bv ++ [34])) (by rw [e]; rfl) (by rw [a4]; rfl) (by rw [a3]; simp)
  have e1 := emitOn a2
  have e1p : (emitS y1).p = (H.length : Int) := a3
  have second : ∃ o y, pkT s (emitS y1) = (.tok o, y) ∧ On s y (34 :: (bv ++ [34])) ∧ y.p = ((H.length + (tyS m.f0).data.toList.length : Nat) : Int) ∧ (o = 4 ∨ o = 5) ∧ o - 4 = m.f0 := by
    rcases hty with ⟨hq, ht⟩ | ⟨hq, ht⟩
    · rw [ht] at e1 ⊢
      obtain ⟨y, h1, h2, h3, h4⟩ := eq_fwd e1
      exact ⟨4, y, h1, h2, by rw [h3, e1p]; simp, Or.inl rfl, by rw [hq]; rfl⟩
    · rw [ht] at e1 ⊢
      obtain ⟨y, h1, h2, h3, h4⟩ := ne_fwd e1
      exact ⟨5, y, h1, h2, by rw [h3, e1p]; simp, Or.inr rfl, by rw [hq]; rfl⟩
  obtain ⟨o, y2, b1, b2, b3, b4, b5⟩ := second
  have e2 := emitOn b2
  obtain ⟨y3, c1, c2, c3, c4⟩ := quo_fwd (rest := []) e2 hev.ok.1 hev.ok.2
  have c5 : y3.st = ((H.length + (tyS m.f0).data.toList.length : Nat) : Int) := by rw [c4]; exact b3
  have c6 : y3.p = ((H.length + (tyS m.f0).data.toList.length + (bv.length + 2) : Nat) : Int) := by
    rw [c3, show (emitS y2).p = y2.p from rfl, b3]
    omega
  have c7 : tokS s y3 = mk (34 :: (bv ++ [34])) := tok_mid (a := H ++ (tyS m.f0).data.toList) (b := 34 :: (bv ++ [34])) (c := []) (by rw [e]; simp) (by rw [c5, List.length_append]) (by rw [c6]; simp; omega)
  obtain ⟨y4, d1⟩ := pk_end (emitOn c2).g (show (emitS y3).p = (s.size : Int) by show y3.p = _; rw [c6, hlen]; simp; omega)
  exact ⟨k, tokS s y1, o, tokS s y2, tokS s y3, .tok a1 (.tok b1 (.tok c1 (.eof d1))), a5, b4, b5, by rw [a7]; exact a6, by rw [c7, hev.unqT h.vv, mkD]⟩
theorem gram_three {k o : Int} {u c w : ByteArray} {m : S25} (hk : k = 8 ∨ k = 9) (ho : o = 4 ∨ o = 5) (hm : o - 4 = m.f0) (hu : unqT k u = some m.f1) (hw : unqT 8 w = some m.f2) : gram true [(k, u), (o, c), (8, w)] = some [m] := by
  have h3 : mat3 [(k, u), (o, c), (8, w)] = some (m, []) := by
    simp only [mat3, if_pos hk, hu]
    rw [if_pos (by omega), if_pos (Or.inl trivial), hw, hm]
  have h1 : k ≠ 1 := by omega
  have h2 : k ≠ 2 := by omega
  show runG true 20 .ob ⟨[], false, [(k, u), (o, c), (8, w)]⟩ = _
  have s1 : stepG true .ob ⟨[], false, [(k, u), (o, c), (8, w)]⟩ = some (some .ma, ⟨[], false, [(k, u), (o, c), (8, w)]⟩) := by
    unfold stepG
    simp only [if_neg h1, if_neg h2]
  have s2 : stepG true .ma ⟨[], false, [(k, u), (o, c), (8, w)]⟩ = some (some .en, ⟨[m], false, []⟩) := by
    unfold stepG
    simp only [h3, List.nil_append]
  rw [runG, s1]
  simp only
  rw [runG, s2]
  rfl
theorem prM_par {m : S25} (h : Pla m) : parF (prM m) = some [m] := by
  obtain ⟨k, u, o, c, w, ht, h1, h2, h3, h4, h5⟩ := prM_toks h
  rw [parF_gram (by have := prM_len h; omega) ht]
  exact gram_three h1 h2 h3 h4 h5
/-- The tokens and the matchers of texts with commas between. -/
theorem body_par : ∀ (m : S25) (t : List S25), (∀ x ∈ m :: t, Pla x) → (m :: t).length ≤ 1000 →
    (bodyL (m :: t)).length ≤ 600001 * (m :: t).length ∧ ∃ k z r, TK (mk (bodyL (m :: t))) lx0 ((k, z) :: r) true ∧ k ≠ 1 ∧ (∀ y, ((k, z) :: r).getLast? = some y → y.1 ≠ 3) ∧ parF (mk (bodyL (m :: t))) = some (m :: t)
  | m, [], h, _ => by
    have hp := h m (by simp)
    have hl := prM_len hp
    obtain ⟨k, u, o, c, w, ht, h1, h2, h3, h4, h5⟩ := prM_toks hp
    have e : mk (bodyL [m]) = prM m := mkD _
    refine ⟨?_, k, u, [(o, c), (8, w)], by rw [e]; exact ht, by omega, fun y hy => ?_, by rw [e]; exact prM_par hp⟩
    · show (prM m).data.toList.length ≤ _
      rw [len_toList]
      simp
      omega
    · have : (8, w) = y := by simpa using hy
      rw [← this]
      exact (by decide : (8 : Int) ≠ 3)
  | m, b :: t, h, hn => by
    have hp := h m (by simp)
    have hl := prM_len hp
    obtain ⟨k, u, o, c, w, ht, h1, h2, h3, h4, h5⟩ := prM_toks hp
    obtain ⟨l2, k2, z2, r2, ht2, hk2, hlast, hpar⟩ := body_par b t (fun x hx => h x (List.mem_cons_of_mem _ hx)) (by rw [List.length_cons] at hn; omega)
    have e : mk (bodyL (m :: b :: t)) = (prM m ++ ⟨#[44]⟩) ++ mk (bodyL (b :: t)) := by
      show mk ((prM m).data.toList ++ 44 :: bodyL (b :: t)) = _
      apply ByteArray.ext
      apply Array.ext'
      simp [mk]
    have hz : (prM m).size + (mk (bodyL (b :: t))).size + 1 ≤ 4294967296 := by
      rw [mk_size]
      rw [List.length_cons] at hn
      omega
    obtain ⟨v, hc⟩ := TK.comma hz ht ht2
    refine ⟨?_, k, u, [(o, c), (8, w)] ++ (3, v) :: ((k2, z2) :: r2), by rw [e]; exact hc, by omega, fun y hy => ?_, ?_⟩
    · show ((prM m).data.toList ++ 44 :: bodyL (b :: t)).length ≤ _
      rw [List.length_append, List.length_cons, len_toList, List.length_cons (a := m)]
      omega
    · apply hlast y
      rw [← hy, show ((k, u) :: ([(o, c), (8, w)] ++ (3, v) :: ((k2, z2) :: r2))) = [(k, u), (o, c), (8, w), (3, v)] ++ ((k2, z2) :: r2) from rfl, List.getLast?_append]
      cases hq : ((k2, z2) :: r2).getLast? with
      | none => simp at hq
      | some q => rfl
    · rw [e]
      exact parF_append hz ht ht2 (by omega) hk2 (prM_par hp) hpar (fun y hy => by
        have : (8, w) = y := by simpa using hy
        rw [← this]
        exact (by decide : (8 : Int) ≠ 3))
theorem prL_par (l : List S25) (h : ∀ x ∈ l, Pla x) (hn : l.length ≤ 1000) : parF (prL l) = some l ∧ (prL l).size ≤ 1000000000 := by
  cases l with
  | nil => exact ⟨by kernel_rfl, by decide⟩
  | cons m t =>
    obtain ⟨hb, k, z, r, ht, hk, _, hp⟩ := body_par m t h hn
    have e : prL (m :: t) = (⟨#[123]⟩ ++ mk (bodyL (m :: t))) ++ ⟨#[125]⟩ := by
      unfold prL
      apply ByteArray.ext
      apply Array.ext'
      simp [mk]
    have hsz : (mk (bodyL (m :: t))).size ≤ 600001000 := by rw [mk_size]; omega
    refine ⟨?_, ?_⟩
    · rw [e, parF_braces (by omega) ht hk, hp]
    · rw [e, ByteArray.size_append, ByteArray.size_append]
      show 1 + _ + 1 ≤ _
      omega
end Go.Proofs.YtnnhehlieakedaaGreatDoor.Q
set_option linter.unusedVariables false
set_option linter.unusedSimpArgs false
namespace Go.Proofs.YtnnhehlieakedaaGreatDoor.Q
open Go.RowKit Go.Lib Go.Proofs.YtnnhehlieakedaaGreatDoorW.PrintWords Go.Proofs.YtnnhehlieakedaaGreatDoorW.PrintLast Go.Proofs.YtnnhehlieakedaaGreatDoorW.PrintMore
theorem pr1_f {m : S25} (h : plaB m = true) : impl_PrintMatcher.f m.f0 m.f1 m.f2 = some (prM m) := if_pos (pla_ok (pla_is h))
theorem prl_f {l : List S25} (h : l.all plaB = true) (hn : l.length ≤ 1000) : impl_PrintMatchers.f l = some (prL l) :=
  if_pos ⟨List.all_eq_true.2 fun m hm => pla_ok (pla_is (List.all_eq_true.1 h m hm)), by omega⟩
theorem back1_f {m : S25} (h : plaB m = true) : impl_ParseMatcher.f (prM m) = some (m.f0, m.f1, m.f2, true) := by
  have hp := pla_is h
  rw [p1_f _ (by have := prM_len hp; omega)]
  unfold p1R parM
  rw [prM_par hp]
  rfl
theorem backl_f {l : List S25} (h : l.all plaB = true) (hn : l.length ≤ 1000) : impl_ParseMatchers.f (prL l) = some (l, true) := by
  obtain ⟨h1, h2⟩ := prL_par l (fun m hm => pla_is (List.all_eq_true.1 h m hm)) hn
  rw [pm_f _ h2]
  unfold pmR
  rw [h1]
theorem all_f (l : List S25) (h : l.length ≤ 4294967296) : laws_allPlain.f l = some (l.all plaB && decide ((l.length : Int) ≤ 1000)) := if_pos h
end Go.Proofs.YtnnhehlieakedaaGreatDoor.Q
