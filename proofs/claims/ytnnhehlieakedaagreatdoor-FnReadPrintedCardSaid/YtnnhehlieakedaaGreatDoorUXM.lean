/- Plain words: what a quoted text stands for where it has no escapes but those of a line feed, a quote and a backslash, and no control characters. No condition. Plain words: the reference's reading of a list of tokens, and that the grammar says the same. No condition. Plain words: what a token in quotes of a valid text is: a quote, an inner text, a quote. No condition. -/
import Derived.Test.YtnnhehlieakedaaGreatDoorHParKM
import Derived.Test.YtnnhehlieakedaaGreatDoorUParGM
set_option linter.unusedVariables false
set_option linter.unusedSimpArgs false
namespace Go.Proofs.YtnnhehlieakedaaGreatDoor.Q
open Go.RowKit Go.Lib Go.Proofs.YtnnhehlieakedaaGreatDoorW.PrintWords Go.Proofs.YtnnhehlieakedaaGreatDoorW.PrintLast Go.Proofs.YtnnhehlieakedaaGreatDoorW.PrintMore
--BODY
/-- An inner text: each quote is escaped, and no backslash stands alone at its end. -/
def okB : List UInt8 → Bool
  | [] => true
  | c :: t => if c = 34 then false else if c = 92 then (match t with
      | [] => false
      | _ :: t' => okB t')
    else okB t
theorem okB_cons (c : UInt8) (t : List UInt8) : okB (c :: t) = if c = 34 then false else if c = 92 then (match t with
      | [] => false
      | _ :: t' => okB t')
    else okB t := by cases t <;> rfl
theorem enc_highW (r : Int) (h0 : 128 ≤ r) : ∀ b ∈ encodeRune r, 128 ≤ b.toNat := by
  have one : ∀ x : Int, 128 ≤ x → x ≤ 255 → 128 ≤ (x.toNat.toUInt8).toNat := fun x h0 h1 => by
    have : (x.toNat.toUInt8).toNat = x.toNat % 256 := by simp
    omega
  intro b hb
  unfold encodeRune at hb
  obtain ⟨x, hx, rfl⟩ := List.mem_map.1 hb
  have hx2 : 128 ≤ x ∧ x ≤ 255 := by
    unfold encodeRuneZ at hx
    repeat' split at hx
    all_goals simp at hx
    all_goals omega
  exact one x hx2.1 hx2.2
theorem decL_high (c : UInt8) (t : List UInt8) (h : 128 ≤ c.toNat) : 128 ≤ (decodeL (c :: t)).1 := by
  rw [decodeL_N]
  simp only [List.getD_cons_zero]
  unfold decodeN
  rw [if_neg (by omega)]
  repeat' split
  all_goals (dsimp only; omega)
/-- The parts of a valid text that begins beyond ASCII. -/
theorem high_parts (c : UInt8) (t : List UInt8) (hc : 128 ≤ c.toNat) (hv : validD (c :: t) = true) :
    ∃ n, 1 ≤ n ∧ n ≤ (c :: t).length ∧ (decodeL (c :: t)).2 = n ∧ encodeRune ((decodeL (c :: t)).1 : Int) = (c :: t).take n ∧ (∀ b ∈ (c :: t).take n, 128 ≤ b.toNat) ∧ validD ((c :: t).drop n) = true ∧ ¬ ((decodeL (c :: t)).1 = 65533 ∧ (decodeL (c :: t)).2 = 1) := by
  have hne : (c :: t) ≠ [] := by simp
  rw [validD_step _ hne] at hv
  by_cases hb : (decodeL (c :: t)).1 = 65533 ∧ (decodeL (c :: t)).2 = 1
  · rw [if_pos hb] at hv; cases hv
  · rw [if_neg hb] at hv
    have he := encode_decode _ hne hb
    have hh := enc_highW ((decodeL (c :: t)).1 : Int) (by have := decL_high c t hc; omega)
    exact ⟨_, decodeL_width _, decodeL_le _ hne, rfl, he, by rw [← he]; exact hh, hv, hb⟩
theorem okB_high : ∀ (a b : List UInt8), (∀ x ∈ a, 128 ≤ x.toNat) → okB (a ++ b) = okB b
  | [], b, _ => by simp
  | x :: a, b, h => by
    have hx := h x (by simp)
    have h92 : x ≠ 92 := fun e => by rw [e] at hx; exact absurd hx (by decide)
    have h34 : x ≠ 34 := fun e => by rw [e] at hx; exact absurd hx (by decide)
    rw [List.cons_append, okB_cons, if_neg h34, if_neg h92]
    exact okB_high a b (fun y hy => h y (by simp [hy]))
theorem decodeN_ext (n N b0 b1 b2 b3 c1 c2 c3 : Nat) (hok : ¬ ((decodeN n b0 b1 b2 b3).1 = 65533 ∧ (decodeN n b0 b1 b2 b3).2 = 1)) (hN : (decodeN n b0 b1 b2 b3).2 ≤ N) (h1 : 1 < (decodeN n b0 b1 b2 b3).2 → c1 = b1) (h2 : 2 < (decodeN n b0 b1 b2 b3).2 → c2 = b2) (h3 : 3 < (decodeN n b0 b1 b2 b3).2 → c3 = b3) : decodeN N b0 c1 c2 c3 = decodeN n b0 b1 b2 b3 := by
  unfold decodeN at hok hN h1 h2 h3 ⊢
  by_cases a0 : b0 < 128
  · rw [if_pos a0, if_pos a0]
  rw [if_neg a0] at hok hN h1 h2 h3 ⊢
  rw [if_neg a0]
  by_cases q1 : b0 / 32 = 6 ∧ (1 < n ∧ b1 / 64 = 2)
  · rw [if_pos q1] at hok hN h1 h2 h3 ⊢
    split at hok
    · rename_i v
      rw [if_pos v] at hN h1 ⊢
      have e1 := h1 (show 1 < 2 by decide)
      subst e1
      have g1 : 1 < N := hN
      rw [if_pos ⟨q1.1, g1, q1.2.2⟩, if_pos v]
    · exact absurd ⟨rfl, rfl⟩ hok
  rw [if_neg q1] at hok hN h1 h2 h3 ⊢
  by_cases q2 : b0 / 16 = 14 ∧ (1 < n ∧ b1 / 64 = 2) ∧ (2 < n ∧ b2 / 64 = 2)
  · rw [if_pos q2] at hok hN h1 h2 h3 ⊢
    split at hok
    · rename_i v
      rw [if_pos v] at hN h1 h2 ⊢
      have e1 := h1 (show 1 < 3 by decide)
      have e2 := h2 (show 2 < 3 by decide)
      subst e1 e2
      have g1 : 2 < N := hN
      rw [if_neg (by omega), if_pos ⟨q2.1, ⟨by omega, q2.2.1.2⟩, ⟨g1, q2.2.2.2⟩⟩, if_pos v]
    · exact absurd ⟨rfl, rfl⟩ hok
  rw [if_neg q2] at hok hN h1 h2 h3 ⊢
  by_cases q3 : b0 / 8 = 30 ∧ (1 < n ∧ b1 / 64 = 2) ∧ (2 < n ∧ b2 / 64 = 2) ∧ (3 < n ∧ b3 / 64 = 2)
  · rw [if_pos q3] at hok hN h1 h2 h3 ⊢
    split at hok
    · rename_i v
      rw [if_pos v] at hN h1 h2 h3 ⊢
      have e1 := h1 (show 1 < 4 by decide)
      have e2 := h2 (show 2 < 4 by decide)
      have e3 := h3 (show 3 < 4 by decide)
      subst e1 e2 e3
      have g1 : 3 < N := hN
      rw [if_neg (by omega), if_neg (by omega), if_pos ⟨q3.1, ⟨by omega, q3.2.1.2⟩, ⟨by omega, q3.2.2.1.2⟩, ⟨g1, q3.2.2.2.2⟩⟩, if_pos v]
    · exact absurd ⟨rfl, rfl⟩ hok
  rw [if_neg q3] at hok
  exact absurd ⟨rfl, rfl⟩ hok
/-- A whole character, with whatever behind it. -/
theorem dec_ext (l m : List UInt8) (hne : l ≠ []) (hb : ¬ ((decodeL l).1 = 65533 ∧ (decodeL l).2 = 1)) : decodeL (l.take (decodeL l).2 ++ m) = decodeL l := by
  have hw := decodeL_width l
  have hle := decodeL_le l hne
  have hlen : (l.take (decodeL l).2 ++ m).length = (decodeL l).2 + m.length := by rw [List.length_append, List.length_take]; omega
  have hg : ∀ j, j < (decodeL l).2 → (l.take (decodeL l).2 ++ m).getD j 0 = l.getD j 0 := fun j hj => by
    rw [List.getD_eq_getElem?_getD, List.getD_eq_getElem?_getD, List.getElem?_append_left (by rw [List.length_take]; omega), List.getElem?_take, if_pos hj]
  generalize hk : l.take (decodeL l).2 ++ m = k at *
  rw [decodeL_N k]
  rw [decodeL_N l] at hb hlen hg hw hle ⊢
  rw [hg 0 (by omega)]
  exact decodeN_ext _ _ _ _ _ _ _ _ _ hb (by omega) (fun h => by rw [hg 1 h]) (fun h => by rw [hg 2 h]) (fun h => by rw [hg 3 h])
/-- A valid text begins with a character beyond ASCII: that character's bytes, ahead of whatever. -/
theorem high_step (c : UInt8) (t : List UInt8) (hc : 128 ≤ c.toNat) (hv : validD (c :: t) = true) :
    ∃ a b, c :: t = a ++ b ∧ 1 ≤ a.length ∧ (∀ x ∈ a, 128 ≤ x.toNat) ∧ validD b = true ∧ (∀ m, (decodeL (a ++ m)).2 = a.length ∧ encodeRune ((decodeL (a ++ m)).1 : Int) = a ∧ 128 ≤ (decodeL (a ++ m)).1 ∧ validD (a ++ m) = validD m) := by
  obtain ⟨n, h1, h2, h3, h4, h5, h6, h7⟩ := high_parts c t hc hv
  refine ⟨(c :: t).take n, (c :: t).drop n, (List.take_append_drop _ _).symm, by rw [List.length_take]; omega, h5, h6, fun m => ?_⟩
  have hd := dec_ext (c :: t) m (by simp) h7
  rw [h3] at hd
  refine ⟨by rw [hd, h3, List.length_take]; omega, by rw [hd, h4], by rw [hd]; exact decL_high c t hc, ?_⟩
  have hne : (c :: t).take n ++ m ≠ [] := fun e => by
    have := congrArg List.length e
    rw [List.length_append, List.length_take] at this
    simp at this h2
    omega
  rw [validD_step _ hne, hd, if_neg h7, h3]
  congr 1
  rw [List.drop_append_of_le_length (by rw [List.length_take]; omega), List.drop_of_length_le (by rw [List.length_take]; omega), List.nil_append]
theorem unqL_go {k : Nat} {c : UInt8} {t acc : List UInt8} {r : Nat} {mb : Bool} {rest : List UInt8} (h34 : c ≠ 34) (h10 : c ≠ 10) (hu : uqC (c :: t) = some (r, mb, rest)) :
    unqL (k + 1) (c :: t) acc = unqL k rest (acc ++ if r < 128 ∨ mb = false then [UInt8.ofNat r] else Lib.encodeRune (r : Int)) := by
  rw [unqL, if_neg (by simp), if_neg (by simpa using h34), hu]
  exact if_neg (by simpa using h10)
end Go.Proofs.YtnnhehlieakedaaGreatDoor.Q
set_option linter.unusedVariables false
set_option linter.unusedSimpArgs false
namespace Go.Proofs.YtnnhehlieakedaaGreatDoor.Q
open Go.RowKit Go.Lib Go.Proofs.YtnnhehlieakedaaGreatDoorW.PrintWords Go.Proofs.YtnnhehlieakedaaGreatDoorW.PrintLast Go.Proofs.YtnnhehlieakedaaGreatDoorW.PrintMore
--BODY
/-- What the reference says: no, it is open, or this. -/
inductive Say (α : Type) | no | op | yes (a : α)
def Say.cons {α : Type} : Say α → Say (List α) → Say (List α)
  | .no, _ => .no
  | _, .no => .no
  | .op, _ => .op
  | _, .op => .op
  | .yes a, .yes l => .yes (a :: l)
/-- W says of each token what it stands for to the grammar. -/
def Fair (W : Int × ByteArray → Say ByteArray) (ts : List (Int × ByteArray)) : Prop := ∀ k v, (k, v) ∈ ts → match W (k, v) with
  | .no => ¬ (k = 8 ∨ k = 9)
  | .op => k = 8 ∨ k = 9
  | .yes x => (k = 8 ∨ k = 9) ∧ unqT k v = some x
theorem Fair.tail {W : Int × ByteArray → Say ByteArray} {p r : List (Int × ByteArray)} (h : Fair W (p ++ r)) : Fair W r := fun k v hm => h k v (List.mem_append_right _ hm)
end Go.Proofs.YtnnhehlieakedaaGreatDoor.Q
set_option linter.unusedVariables false
set_option linter.unusedSimpArgs false
namespace Go.Proofs.YtnnhehlieakedaaGreatDoor.Q
open Go.RowKit Go.Lib Go.Proofs.YtnnhehlieakedaaGreatDoorW.PrintWords Go.Proofs.YtnnhehlieakedaaGreatDoorW.PrintLast Go.Proofs.YtnnhehlieakedaaGreatDoorW.PrintMore
--BODY
/-- A state between two characters of a valid text. -/
structure Bd (s : ByteArray) (x : LSt) : Prop where
  g : LGd s x
  v : validD (s.data.toList.drop x.p.toNat) = true
def slc (s : ByteArray) (q e : Nat) : List UInt8 := (s.data.toList.drop q).take (e - q)
section
variable {s : ByteArray} {x : LSt}
theorem Bd.back (h : Bd s x) : Bd s (backS (nextS s x)) := ⟨h.g.back, by rw [back_p h.g]; exact h.v⟩
theorem len_toList (s : ByteArray) : s.data.toList.length = s.size := Array.length_toList
/-- The character at a state: its bytes, and the state behind it. -/
theorem Bd.char (h : Bd s x) (hp : x.p < s.size) : ∃ c a, s.data.toList.drop x.p.toNat = (c :: a) ++ s.data.toList.drop (nextS s x).p.toNat ∧ Bd s (nextS s x) ∧ (nextS s x).p.toNat = x.p.toNat + (a.length + 1) ∧ (nextS s x).st = x.st ∧
    ((c.toNat < 128 ∧ a = [] ∧ nextR s x.p = (c.toNat : Int)) ∨ (128 ≤ nextR s x.p ∧ (∀ b ∈ c :: a, 128 ≤ b.toNat))) ∧ ∀ m, validD ((c :: a) ++ m) = validD m := by
  have h0 := h.g.s0; have h1 := h.g.s1
  have hlt : x.p.toNat < s.size := by omega
  have hst : (nextS s x).st = x.st := by unfold nextS; split <;> rfl
  have hr : nextR s x.p = ((decodeL (s.data.toList.drop x.p.toNat)).1 : Int) := by
    unfold nextR
    rw [if_pos hlt, decodeL_drop]
  have hn : (nextS s x).p.toNat = x.p.toNat + (decodeL (s.data.toList.drop x.p.toNat)).2 := by
    unfold nextS
    rw [if_pos hlt, decodeL_drop]
    simp only
    omega
  have hgn := h.g.next
  have hv := h.v
  cases hl : s.data.toList.drop x.p.toNat with
  | nil =>
    have := congrArg List.length hl
    rw [List.length_drop, len_toList] at this
    simp at this
    omega
  | cons c t =>
    rw [hl] at hr hn hv
    have hdd : s.data.toList.drop (nextS s x).p.toNat = (c :: t).drop (decodeL (c :: t)).2 := by rw [hn, ← List.drop_drop, hl]
    by_cases hc : c.toNat < 128
    · rw [decodeL_ascii c t hc] at hr hn hdd
      rw [validD_cons c t hc] at hv
      exact ⟨c, [], by rw [hdd]; rfl, ⟨hgn, by rw [hdd]; exact hv⟩, hn, hst, Or.inl ⟨hc, rfl, hr⟩, fun m => validD_cons c m hc⟩
    · obtain ⟨a, b, e, ha, hah, hvb, hm⟩ := high_step c t (by omega) hv
      obtain ⟨m1, m2, m3, m4⟩ := hm b
      rw [← e] at m1 m3
      cases a with
      | nil => simp at ha
      | cons c' a =>
        have e1 : c = c' := by injection e
        subst e1
        rw [m1] at hn hdd
        have hb : s.data.toList.drop (nextS s x).p.toNat = b := by rw [hdd, e, List.drop_left]
        exact ⟨c, a, by rw [hb, ← e], ⟨hgn, by rw [hb]; exact hvb⟩, hn, hst, Or.inr ⟨by rw [hr]; omega, hah⟩, fun m => (hm m).2.2.2⟩
theorem Bd.next (h : Bd s x) : Bd s (nextS s x) := by
  by_cases hp : x.p < s.size
  · obtain ⟨_, _, _, h2, _⟩ := h.char hp
    exact h2
  · have e : (nextS s x).p = x.p := by
      have := h.g.s0; have := h.g.s1
      unfold nextS
      rw [if_neg (by omega)]
    exact ⟨h.g.next, by rw [e]; exact h.v⟩
theorem Bd.ac (h : Bd s x) (c : ByteArray) : Bd s (acS s x c) := by
  unfold acS
  split
  · exact h.next
  · exact h.back
theorem Bd.skip (h : Bd s x) : Bd s (skipS x) := ⟨h.g.skip, h.v⟩
theorem Bd.emit (h : Bd s x) : Bd s (emitS x) := ⟨h.g.emit, h.v⟩
theorem Bd.op (h : Bd s x) : Bd s (opF s x).2 := by
  have h1 := h.ac ⟨#[33]⟩
  have h2 := h1.ac ⟨#[61]⟩
  have h3 := h2.ac ⟨#[126]⟩
  unfold opF
  generalize acB s x ⟨#[33]⟩ = b1
  generalize acS s x ⟨#[33]⟩ = y1 at *
  generalize acB s y1 ⟨#[61]⟩ = b2
  generalize acS s y1 ⟨#[61]⟩ = y2 at *
  generalize acB s y2 ⟨#[126]⟩ = b3
  generalize acS s y2 ⟨#[126]⟩ = y3 at *
  cases b1 <;> cases b2 <;> cases b3 <;> first | exact h3 | exact h2 | exact h1
theorem Bd.word : ∀ (k : Nat) (x : LSt), Bd s x → Bd s (wordS s k x)
  | 0, _, h => h
  | k + 1, x, h => by
    rw [wordS]
    by_cases h1 : nextR s x.p = -1
    · rw [if_pos h1]; exact h.next
    · rw [if_neg h1]
      by_cases h2 : resR (nextR s x.p) = true
      · rw [if_pos h2]; exact h.back
      · rw [if_neg h2]; exact Bd.word k _ h.next
/-- An inner text, behind a backslash or not. -/
def okE : Bool → List UInt8 → Bool
  | false, l => okB l
  | true, [] => false
  | true, _ :: t => okB t
theorem slc_char {q q2 e : Nat} {c : UInt8} {a : List UInt8} (hd : s.data.toList.drop q = (c :: a) ++ s.data.toList.drop q2) (hq : q2 = q + (a.length + 1)) (he : q2 ≤ e) : slc s q e = (c :: a) ++ slc s q2 e := by
  unfold slc
  rw [hd, List.take_append, List.take_of_length_le (by simp; omega)]
  congr 2
  simp
  omega
theorem quot_body : ∀ (k : Nat) (esc : Bool) (x : LSt), Bd s x → s.size - x.p.toNat < k → nextR s (quotS s k esc x).p = 34 →
    Bd s (quotS s k esc x) ∧ x.p.toNat ≤ (quotS s k esc x).p.toNat ∧ (quotS s k esc x).st = x.st ∧ okE esc (slc s x.p.toNat (quotS s k esc x).p.toNat) = true ∧ validD (slc s x.p.toNat (quotS s k esc x).p.toNat) = true
  | 0, _, _, _, h, _ => absurd h (by omega)
  | k + 1, esc, x, h, hk, he => by
    have h0 := h.g.s0; have h1 := h.g.s1; have hp1 := h.g.p1
    by_cases hp : x.p < s.size
    · have hne : nextR s x.p ≠ -1 := fun q => by have := (nextR_end h.g).1 q; omega
      obtain ⟨c, a, hd, hb, hn, hst, hcase, hval⟩ := h.char hp
      have go : ∀ (e2 : Bool), quotS s (k + 1) esc x = quotS s k e2 (nextS s x) → (∀ m, okE e2 m = true → okE esc ((c :: a) ++ m) = true) →
          Bd s (quotS s (k + 1) esc x) ∧ x.p.toNat ≤ (quotS s (k + 1) esc x).p.toNat ∧ (quotS s (k + 1) esc x).st = x.st ∧ okE esc (slc s x.p.toNat (quotS s (k + 1) esc x).p.toNat) = true ∧ validD (slc s x.p.toNat (quotS s (k + 1) esc x).p.toNat) = true := fun e2 e hok => by
        rw [e] at he ⊢
        obtain ⟨i1, i2, i3, i4, i5⟩ := quot_body k e2 (nextS s x) hb (by omega) he
        have hs := slc_char hd hn i2
        exact ⟨i1, by omega, i3.trans hst, by rw [hs]; exact hok _ i4, by rw [hs, hval]; exact i5⟩
      cases esc with
      | true =>
        refine go false (by rw [quotS, if_neg hne, if_pos rfl]) (fun m hm => ?_)
        rcases hcase with ⟨_, ha, _⟩ | ⟨_, ha⟩
        · subst ha; exact hm
        · show okB (a ++ m) = true
          rw [okB_high a m (fun b hb => ha b (List.mem_cons_of_mem _ hb))]
          exact hm
      | false =>
        by_cases h92 : nextR s x.p = 92
        · refine go true (by rw [quotS, if_neg hne, if_neg (by decide), if_pos h92]) (fun m hm => ?_)
          rcases hcase with ⟨hc, ha, hr⟩ | ⟨hr, _⟩
          · subst ha
            have e : c = 92 := by
              apply UInt8.toNat_inj.1
              rw [h92] at hr
              show c.toNat = 92
              omega
            subst e
            show okB (92 :: m) = true
            rw [okB_cons, if_neg (by decide), if_pos rfl]
            cases m with
            | nil => cases hm
            | cons b m => exact hm
          · omega
        · by_cases h34 : nextR s x.p = 34
          · have e : quotS s (k + 1) false x = backS (nextS s x) := by rw [quotS, if_neg hne, if_neg (by decide), if_neg h92, if_pos h34]
            have ep := back_p h.g
            rw [e, ep]
            refine ⟨h.back, Nat.le_refl _, ((same_next s x).trans (same_back _)).1, ?_, ?_⟩
            · unfold slc; rw [Nat.sub_self, List.take_zero]; rfl
            · unfold slc; rw [Nat.sub_self, List.take_zero]; rfl
          · refine go false (by rw [quotS, if_neg hne, if_neg (by decide), if_neg h92, if_neg h34]) (fun m hm => ?_)
            rcases hcase with ⟨hc, ha, hr⟩ | ⟨_, ha⟩
            · subst ha
              show okB (c :: m) = true
              rw [okB_cons, if_neg (fun e => h34 (by rw [hr, e]; rfl)), if_neg (fun e => h92 (by rw [hr, e]; rfl))]
              exact hm
            · show okB ((c :: a) ++ m) = true
              rw [okB_high _ m ha]
              exact hm
    · have hr := (nextR_end h.g).2 (show x.p = s.size by omega)
      have e : (nextS s x).p = x.p := by
        unfold nextS
        rw [if_neg (by omega)]
      rw [quotS, if_pos hr, e, hr] at he
      exact absurd he (by decide)
end
theorem has_ofX (c : ByteArray) (d : Nat) (hr : runesI c 0 = [d]) (ho : okR (d : Int) = true) (r : Int) : hasR c r = decide (r = (d : Int)) := by
  unfold hasR
  rw [hr]
  by_cases h : r = (d : Int)
  · rw [h, ho]; simp
  · rw [decide_eq_false h]
    have : (([d] : List Nat).any fun d => decide ((d : Int) = r)) = false := by
      simp
      omega
    rw [this, Bool.and_false]
theorem hasX34 (r : Int) : hasR ⟨#[34]⟩ r = decide (r = 34) := has_ofX _ 34 (by kernel_rfl) (by decide) r
section
variable {s : ByteArray} {x : LSt}
theorem slc_drop {q e : Nat} (h : q ≤ e) : slc s q e ++ s.data.toList.drop e = s.data.toList.drop q := by
  unfold slc
  have e1 : s.data.toList.drop e = (s.data.toList.drop q).drop (e - q) := by rw [List.drop_drop]; congr 1; omega
  rw [e1, List.take_append_drop]
theorem slc_len {q e : Nat} (h : q ≤ e) (he : e ≤ s.size) : (slc s q e).length = e - q := by
  unfold slc
  rw [List.length_take, List.length_drop, len_toList]
  omega
/-- A token in quotes, as text. -/
theorem quo_text (h : Bd s x) (hq : nextR s x.p = 34) (hst : x.st = x.p) (hk : (quoF s x).1 = some 8) : Bd s (quoF s x).2 ∧ ∃ b, tokS s (quoF s x).2 = mk (34 :: (b ++ [34])) ∧ okB b = true ∧ validD b = true := by
  have h0 := h.g.s0; have h1 := h.g.s1; have hp1 := h.g.p1
  have b1 : acB s x ⟨#[34]⟩ = true := by unfold acB; rw [hq, hasX34]; rfl
  have a1 : acS s x ⟨#[34]⟩ = nextS s x := by unfold acS; rw [if_pos b1]
  unfold quoF at hk ⊢
  rw [if_pos b1, a1] at hk ⊢
  have hp : x.p < s.size := by
    rcases Int.lt_or_le x.p s.size with c | c
    · exact c
    · exfalso
      rw [(nextR_end h.g).2 (by omega)] at hq
      exact absurd hq (by decide)
  obtain ⟨c, a, hd, hb, hn, hs1, hcase, _⟩ := h.char hp
  have hbody := quot_body (s.size + 1) false (nextS s x) hb (by omega)
  generalize quotS s (s.size + 1) false (nextS s x) = y at *
  simp only at hk ⊢
  have b2 : acB s y ⟨#[34]⟩ = true := by
    cases hb2 : acB s y ⟨#[34]⟩ with
    | true => rfl
    | false => rw [hb2] at hk; cases hk
  have hy : nextR s y.p = 34 := by
    unfold acB at b2
    rw [hasX34] at b2
    exact of_decide_eq_true b2
  have a2 : acS s y ⟨#[34]⟩ = nextS s y := by unfold acS; rw [if_pos b2]
  obtain ⟨i1, i2, i3, i4, i5⟩ := hbody hy
  have hyp : y.p < s.size := by
    rcases Int.lt_or_le y.p s.size with c | c
    · exact c
    · exfalso
      have := i1.g.p1
      rw [(nextR_end i1.g).2 (by omega)] at hy
      exact absurd hy (by decide)
  obtain ⟨c2, a3, hd2, hb2', hn2, hs2, hcase2, _⟩ := i1.char hyp
  have e1 : c = 34 ∧ a = [] := by
    rcases hcase with ⟨_, ha, hr⟩ | ⟨hr, _⟩
    · exact ⟨UInt8.toNat_inj.1 (by rw [hq] at hr; show c.toNat = 34; omega), ha⟩
    · omega
  have e2 : c2 = 34 ∧ a3 = [] := by
    rcases hcase2 with ⟨_, ha, hr⟩ | ⟨hr, _⟩
    · exact ⟨UInt8.toNat_inj.1 (by rw [hy] at hr; show c2.toNat = 34; omega), ha⟩
    · omega
  obtain ⟨rfl, rfl⟩ := e1
  obtain ⟨rfl, rfl⟩ := e2
  rw [a2]
  refine ⟨hb2', slc s (nextS s x).p.toNat y.p.toNat, ?_, i4, i5⟩
  have hst2 : (nextS s y).st.toNat = x.p.toNat := by rw [hs2, i3, hs1, hst]
  have hlen := slc_len (s := s) i2 (by have := i1.g.p1; have := i1.g.s0; have := i1.g.s1; omega)
  have hsl := slc_drop (s := s) i2
  have hn' : (nextS s x).p.toNat = x.p.toNat + 1 := hn
  have hn2' : (nextS s y).p.toNat = y.p.toNat + 1 := hn2
  unfold tokS
  rw [hst2, hn2']
  apply ByteArray.ext
  apply Array.ext'
  rw [ByteArray.data_extract, Array.toList_extract, List.extract_eq_take_drop, hd, ← hsl, hd2]
  show _ = 34 :: (slc s (nextS s x).p.toNat y.p.toNat ++ [34])
  have e3 : [34] ++ (slc s (nextS s x).p.toNat y.p.toNat ++ ([34] ++ s.data.toList.drop (nextS s y).p.toNat)) = (34 :: (slc s (nextS s x).p.toNat y.p.toNat ++ [34])) ++ s.data.toList.drop (nextS s y).p.toNat := by simp
  rw [e3, List.take_append_of_le_length (by simp; omega), List.take_of_length_le (by simp; omega)]
theorem op_kinds {j : Int} (h : (opF s x).1 = some j) : 4 ≤ j ∧ j ≤ 7 := by
  unfold opF at h
  generalize acB s x ⟨#[33]⟩ = b1 at h
  generalize acS s x ⟨#[33]⟩ = y1 at h
  generalize acB s y1 ⟨#[61]⟩ = b2 at h
  generalize acS s y1 ⟨#[61]⟩ = y2 at h
  generalize acB s y2 ⟨#[126]⟩ = b3 at h
  cases b1 <;> cases b2 <;> cases b3 <;> simp at h <;> omega
theorem quo_kind {j : Int} (h : (quoF s x).1 = some j) : j = 8 := by
  unfold quoF at h
  by_cases h1 : acB s x ⟨#[34]⟩ = true
  · rw [if_pos h1] at h
    simp only at h
    split at h
    · exact (Option.some.inj h).symm
    · cases h
  · rw [if_neg h1] at h; cases h
/-- What a scan comes to in a valid text. -/
theorem scan_text : ∀ (k : Nat) (x : LSt), Bd s x → x.st = x.p → ∀ (j : Int) (y : LSt), scanF s k x = (.tok j, y) → Bd s y ∧ (j = 8 → ∃ b, tokS s y = mk (34 :: (b ++ [34])) ∧ okB b = true ∧ validD b = true)
  | 0, _, _, _, j, y, h => by injection h with h _; cases h
  | k + 1, x, hb, hst, j, y, h => by
    rw [scanF] at h
    have hbk := hb.back
    have hpb := back_p hb.g
    have hsb := ((same_next s x).trans (same_back _)).1
    cases h1 : scan1 s x with
    | none =>
      rw [h1] at h
      exact scan_text k _ hb.next.skip rfl j y h
    | some z =>
      rw [h1] at h
      simp only at h
      subst h
      unfold scan1 at h1
      simp only at h1
      by_cases r1 : nextR s x.p = -1
      · rw [if_pos r1] at h1; injection h1 with h1; injection h1 with h1 _; cases h1
      rw [if_neg r1] at h1
      by_cases r2 : nextR s x.p = 123
      · rw [if_pos r2] at h1
        injection h1 with h1; injection h1 with h1 h2; injection h1 with h1
        subst h1 h2
        exact ⟨hb.next, fun e => absurd e (by decide)⟩
      rw [if_neg r2] at h1
      by_cases r3 : nextR s x.p = 125
      · rw [if_pos r3] at h1
        injection h1 with h1; injection h1 with h1 h2; injection h1 with h1
        subst h1 h2
        exact ⟨hb.next, fun e => absurd e (by decide)⟩
      rw [if_neg r3] at h1
      by_cases r4 : nextR s x.p = 44
      · rw [if_pos r4] at h1
        injection h1 with h1; injection h1 with h1 h2; injection h1 with h1
        subst h1 h2
        exact ⟨hb.next, fun e => absurd e (by decide)⟩
      rw [if_neg r4] at h1
      by_cases r5 : nextR s x.p = 61 ∨ nextR s x.p = 33
      · rw [if_pos r5] at h1
        injection h1 with h1; injection h1 with h1 h2
        cases ho : (opF s (backS (nextS s x))).1 with
        | none => rw [ho] at h1; cases h1
        | some i =>
          rw [ho] at h1
          have h1 : Sc.tok i = Sc.tok j := h1
          injection h1 with h1
          have := op_kinds ho
          subst h2
          exact ⟨hbk.op, fun e => by omega⟩
      rw [if_neg r5] at h1
      by_cases r6 : nextR s x.p = 34
      · rw [if_pos r6] at h1
        injection h1 with h1; injection h1 with h1 h2
        cases ho : (quoF s (backS (nextS s x))).1 with
        | none => rw [ho] at h1; cases h1
        | some i =>
          have := quo_kind ho
          subst this
          subst h2
          obtain ⟨t1, t2⟩ := quo_text hbk (by rw [hpb]; exact r6) (by rw [hpb, hsb]; exact hst) ho
          exact ⟨t1, fun _ => t2⟩
      rw [if_neg r6] at h1
      by_cases r7 : resR (nextR s x.p) = false
      · rw [if_pos r7] at h1
        injection h1 with h1; injection h1 with h1 h2; injection h1 with h1
        subst h1 h2
        exact ⟨Bd.word _ _ hbk, fun e => absurd e (by decide)⟩
      rw [if_neg r7] at h1
      by_cases r8 : Lib.isSpaceZ (nextR s x.p) = true
      · rw [if_pos r8] at h1; cases h1
      · rw [if_neg r8] at h1; injection h1 with h1; injection h1 with h1 _; cases h1
theorem TK.text {l : List (Int × ByteArray)} {ok : Bool} (t : TK s x l ok) : Bd s x → x.st = x.p → ∀ v, (8, v) ∈ l → ∃ b, v = mk (34 :: (b ++ [34])) ∧ okB b = true ∧ validD b = true := by
  induction t with
  | eof h => intro _ _ v hv; simp at hv
  | bad h => intro _ _ v hv; simp at hv
  | @tok x y k l ok h t ih =>
    intro hb hst v hv
    obtain ⟨h1, h2⟩ := scan_text _ x hb hst k y h
    rcases List.mem_cons.1 hv with e | e
    · injection e with e1 e2
      obtain ⟨b, h3, h4⟩ := h2 e1.symm
      exact ⟨b, by rw [e2]; exact h3, h4⟩
    · exact ih h1.emit rfl v e
end
end Go.Proofs.YtnnhehlieakedaaGreatDoor.Q
