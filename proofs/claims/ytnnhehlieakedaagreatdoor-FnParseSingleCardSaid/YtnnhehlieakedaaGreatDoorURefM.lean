/- Plain words: what a quoted text stands for where it has no escapes but those of a line feed, a quote and a backslash, and no control characters. No condition. Plain words: the reference's reading of a list of tokens, and that the grammar says the same. No condition. Plain words: what a token in quotes of a valid text is: a quote, an inner text, a quote. No condition. Plain words: what the reference's reader makes of a list of tokens, step by step, and that it is the reference's list. No condition. Plain words: what the reference says of a token as a name or a value, and of three tokens. Condition: tokens in quotes are texts in quotes. -/
import Derived.Test.YtnnhehlieakedaaGreatDoorHParKM
import Derived.Test.YtnnhehlieakedaaGreatDoorUParGM
import Derived.Test.YtnnhehlieakedaaGreatDoorULexM
import Derived.Test.YtnnhehlieakedaaGreatDoorQspecWM
namespace Go.Proofs.YtnnhehlieakedaaGreatDoor.Q
open Go.RowKit Go.Lib Go.Proofs.YtnnhehlieakedaaGreatDoorW.PrintWords Go.Proofs.YtnnhehlieakedaaGreatDoorW.PrintLast Go.Proofs.YtnnhehlieakedaaGreatDoorW.PrintMore
--BODY
def wiL : List UInt8 → Option (List UInt8)
  | [] => some []
  | c :: t => if c.toNat < 32 ∨ c.toNat = 127 then none else if c = 92 then (match t with
      | [] => none
      | d :: t' => if d = 110 then (wiL t').map (10 :: ·) else if d = 34 ∨ d = 92 then (wiL t').map (d :: ·) else none)
    else (wiL t).map (c :: ·)
def okB : List UInt8 → Bool
  | [] => true
  | c :: t => if c = 34 then false else if c = 92 then (match t with
      | [] => false
      | _ :: t' => okB t')
    else okB t
theorem wiL_cons (c : UInt8) (t : List UInt8) : wiL (c :: t) = if c.toNat < 32 ∨ c.toNat = 127 then none else if c = 92 then (match t with
      | [] => none
      | d :: t' => if d = 110 then (wiL t').map (10 :: ·) else if d = 34 ∨ d = 92 then (wiL t').map (d :: ·) else none)
    else (wiL t).map (c :: ·) := by cases t <;> rfl
theorem okB_cons (c : UInt8) (t : List UInt8) : okB (c :: t) = if c = 34 then false else if c = 92 then (match t with
      | [] => false
      | _ :: t' => okB t')
    else okB t := by cases t <;> rfl
theorem enc_highW (r : Int) (h0 : 128 ≤ r) : ∀ b ∈ encodeRune r, 128 ≤ b.toNat := by
  have one : ∀ x : Int, 128 ≤ x → x ≤ 255 → 128 ≤ (x.toNat.toUInt8).toNat := fun x h0 h1 => by
    have : (x.toNat.toUInt8).toNat = x.toNat % 256 := by simp
    omega
  intro b hb
  unfold encodeRune at hb
  obtain ⟨x, hx, rfl⟩ := List.mem_map.1 hb
  have hx2 : 128 ≤ x ∧ x ≤ 255 := by
    unfold encodeRuneZ at hx
    repeat' split at hx
    all_goals simp at hx
    all_goals omega
  exact one x hx2.1 hx2.2
theorem decL_high (c : UInt8) (t : List UInt8) (h : 128 ≤ c.toNat) : 128 ≤ (decodeL (c :: t)).1 := by
  rw [decodeL_N]
  simp only [List.getD_cons_zero]
  unfold decodeN
  rw [if_neg (by omega)]
  repeat' split
  all_goals (dsimp only; omega)
theorem high_parts (c : UInt8) (t : List UInt8) (hc : 128 ≤ c.toNat) (hv : validD (c :: t) = true) :
    ∃ n, 1 ≤ n ∧ n ≤ (c :: t).length ∧ (decodeL (c :: t)).2 = n ∧ encodeRune ((decodeL (c :: t)).1 : Int) = (c :: t).take n ∧ (∀ b ∈ (c :: t).take n, 128 ≤ b.toNat) ∧ validD ((c :: t).drop n) = true ∧ ¬ ((decodeL (c :: t)).1 = 65533 ∧ (decodeL (c :: t)).2 = 1) := by
  have hne : (c :: t) ≠ [] := by simp
  rw [validD_step _ hne] at hv
  by_cases hb : (decodeL (c :: t)).1 = 65533 ∧ (decodeL (c :: t)).2 = 1
  · rw [if_pos hb] at hv; cases hv
  · rw [if_neg hb] at hv
    have he := encode_decode _ hne hb
    have hh := enc_highW ((decodeL (c :: t)).1 : Int) (by have := decL_high c t hc; omega)
    exact ⟨_, decodeL_width _, decodeL_le _ hne, rfl, he, by rw [← he]; exact hh, hv, hb⟩
theorem wiL_high : ∀ (a b : List UInt8), (∀ x ∈ a, 128 ≤ x.toNat) → wiL (a ++ b) = (wiL b).map (a ++ ·)
  | [], b, _ => by simp
  | x :: a, b, h => by
    have hx := h x (by simp)
    have ih := wiL_high a b (fun y hy => h y (by simp [hy]))
    have h92 : x ≠ 92 := fun e => by rw [e] at hx; exact absurd hx (by decide)
    rw [List.cons_append, wiL_cons, if_neg (by omega), if_neg h92, ih, Option.map_map]
    rfl
theorem okB_high : ∀ (a b : List UInt8), (∀ x ∈ a, 128 ≤ x.toNat) → okB (a ++ b) = okB b
  | [], b, _ => by simp
  | x :: a, b, h => by
    have hx := h x (by simp)
    have h92 : x ≠ 92 := fun e => by rw [e] at hx; exact absurd hx (by decide)
    have h34 : x ≠ 34 := fun e => by rw [e] at hx; exact absurd hx (by decide)
    rw [List.cons_append, okB_cons, if_neg h34, if_neg h92]
    exact okB_high a b (fun y hy => h y (by simp [hy]))
theorem decodeN_ext (n N b0 b1 b2 b3 c1 c2 c3 : Nat) (hok : ¬ ((decodeN n b0 b1 b2 b3).1 = 65533 ∧ (decodeN n b0 b1 b2 b3).2 = 1)) (hN : (decodeN n b0 b1 b2 b3).2 ≤ N) (h1 : 1 < (decodeN n b0 b1 b2 b3).2 → c1 = b1) (h2 : 2 < (decodeN n b0 b1 b2 b3).2 → c2 = b2) (h3 : 3 < (decodeN n b0 b1 b2 b3).2 → c3 = b3) : decodeN N b0 c1 c2 c3 = decodeN n b0 b1 b2 b3 := by
  unfold decodeN at hok hN h1 h2 h3 ⊢
  by_cases a0 : b0 < 128
  · rw [if_pos a0, if_pos a0]
  rw [if_neg a0] at hok hN h1 h2 h3 ⊢
  rw [if_neg a0]
  by_cases q1 : b0 / 32 = 6 ∧ (1 < n ∧ b1 / 64 = 2)
  · rw [if_pos q1] at hok hN h1 h2 h3 ⊢
    split at hok
    · rename_i v
      rw [if_pos v] at hN h1 ⊢
      have e1 := h1 (show 1 < 2 by decide)
      subst e1
      have g1 : 1 < N := hN
      rw [if_pos ⟨q1.1, g1, q1.2.2⟩, if_pos v]
    · exact absurd ⟨rfl, rfl⟩ hok
  rw [if_neg q1] at hok hN h1 h2 h3 ⊢
  by_cases q2 : b0 / 16 = 14 ∧ (1 < n ∧ b1 / 64 = 2) ∧ (2 < n ∧ b2 / 64 = 2)
  · rw [if_pos q2] at hok hN h1 h2 h3 ⊢
    split at hok
    · rename_i v
      rw [if_pos v] at hN h1 h2 ⊢
      have e1 := h1 (show 1 < 3 by decide)
      have e2 := h2 (show 2 < 3 by decide)
      subst e1 e2
      have g1 : 2 < N := hN
      rw [if_neg (by omega), if_pos ⟨q2.1, ⟨by omega, q2.2.1.2⟩, ⟨g1, q2.2.2.2⟩⟩, if_pos v]
    · exact absurd ⟨rfl, rfl⟩ hok
  rw [if_neg q2] at hok hN h1 h2 h3 ⊢
  by_cases q3 : b0 / 8 = 30 ∧ (1 < n ∧ b1 / 64 = 2) ∧ (2 < n ∧ b2 / 64 = 2) ∧ (3 < n ∧ b3 / 64 = 2)
  · rw [if_pos q3] at hok hN h1 h2 h3 ⊢
    split at hok
    · rename_i v
      rw [if_pos v] at hN h1 h2 h3 ⊢
      have e1 := h1 (show 1 < 4 by decide)
      have e2 := h2 (show 2 < 4 by decide)
      have e3 := h3 (show 3 < 4 by decide)
      subst e1 e2 e3
      have g1 : 3 < N := hN
      rw [if_neg (by omega), if_neg (by omega), if_pos ⟨q3.1, ⟨by omega, q3.2.1.2⟩, ⟨by omega, q3.2.2.1.2⟩, ⟨g1, q3.2.2.2.2⟩⟩, if_pos v]
    · exact absurd ⟨rfl, rfl⟩ hok
  rw [if_neg q3] at hok
  exact absurd ⟨rfl, rfl⟩ hok
theorem dec_ext (l m : List UInt8) (hne : l ≠ []) (hb : ¬ ((decodeL l).1 = 65533 ∧ (decodeL l).2 = 1)) : decodeL (l.take (decodeL l).2 ++ m) = decodeL l := by
  have hw := decodeL_width l
  have hle := decodeL_le l hne
  have hlen : (l.take (decodeL l).2 ++ m).length = (decodeL l).2 + m.length := by rw [List.length_append, List.length_take]; omega
  have hg : ∀ j, j < (decodeL l).2 → (l.take (decodeL l).2 ++ m).getD j 0 = l.getD j 0 := fun j hj => by
    rw [List.getD_eq_getElem?_getD, List.getD_eq_getElem?_getD, List.getElem?_append_left (by rw [List.length_take]; omega), List.getElem?_take, if_pos hj]
  generalize hk : l.take (decodeL l).2 ++ m = k at *
  rw [decodeL_N k]
  rw [decodeL_N l] at hb hlen hg hw hle ⊢
  rw [hg 0 (by omega)]
  exact decodeN_ext _ _ _ _ _ _ _ _ _ hb (by omega) (fun h => by rw [hg 1 h]) (fun h => by rw [hg 2 h]) (fun h => by rw [hg 3 h])
theorem high_step (c : UInt8) (t : List UInt8) (hc : 128 ≤ c.toNat) (hv : validD (c :: t) = true) :
    ∃ a b, c :: t = a ++ b ∧ 1 ≤ a.length ∧ (∀ x ∈ a, 128 ≤ x.toNat) ∧ validD b = true ∧ (∀ m, (decodeL (a ++ m)).2 = a.length ∧ encodeRune ((decodeL (a ++ m)).1 : Int) = a ∧ 128 ≤ (decodeL (a ++ m)).1 ∧ validD (a ++ m) = validD m) := by
  obtain ⟨n, h1, h2, h3, h4, h5, h6, h7⟩ := high_parts c t hc hv
  refine ⟨(c :: t).take n, (c :: t).drop n, (List.take_append_drop _ _).symm, by rw [List.length_take]; omega, h5, h6, fun m => ?_⟩
  have hd := dec_ext (c :: t) m (by simp) h7
  rw [h3] at hd
  refine ⟨by rw [hd, h3, List.length_take]; omega, by rw [hd, h4], by rw [hd]; exact decL_high c t hc, ?_⟩
  have hne : (c :: t).take n ++ m ≠ [] := fun e => by
    have := congrArg List.length e
    rw [List.length_append, List.length_take] at this
    simp at this h2
    omega
  rw [validD_step _ hne, hd, if_neg h7, h3]
  congr 1
  rw [List.drop_append_of_le_length (by rw [List.length_take]; omega), List.drop_of_length_le (by rw [List.length_take]; omega), List.nil_append]
theorem unqL_go {k : Nat} {c : UInt8} {t acc : List UInt8} {r : Nat} {mb : Bool} {rest : List UInt8} (h34 : c ≠ 34) (h10 : c ≠ 10) (hu : uqC (c :: t) = some (r, mb, rest)) :
    unqL (k + 1) (c :: t) acc = unqL k rest (acc ++ if r < 128 ∨ mb = false then [UInt8.ofNat r] else Lib.encodeRune (r : Int)) := by
  rw [unqL, if_neg (by simp), if_neg (by simpa using h34), hu]
  exact if_neg (by simpa using h10)
theorem uqC_cons (c : UInt8) (t : List UInt8) : uqC (c :: t) = if c = 34 then none
    else if 128 ≤ c.toNat then some ((Lib.decodeL (c :: t)).1, true, (c :: t).drop (Lib.decodeL (c :: t)).2)
    else if c ≠ 92 then some (c.toNat, false, t)
    else match t with
      | [] => none
      | d :: t' => escC d t' := rfl
theorem unq_body : ∀ (n : Nat) (b o acc : List UInt8) (k : Nat), b.length ≤ n → b.length < k → okB b = true → wiL b = some o → validD b = true → unqL k (b ++ [34]) acc = some (acc ++ o, []) ∧ validD o = true
  | n, [], o, acc, k, _, hk, _, ho, _ => by
    obtain rfl := Option.some.inj ho
    obtain ⟨k, rfl⟩ : ∃ j, k = j + 1 := ⟨k - 1, by omega⟩
    refine ⟨?_, rfl⟩
    rw [unqL]
    simp
  | 0, c :: t, _, _, _, h, _, _, _, _ => by simp at h
  | n + 1, c :: t, o, acc, k, hn, hk, hok, ho, hv => by
    obtain ⟨k, rfl⟩ : ∃ j, k = j + 1 := ⟨k - 1, by simp at hk; omega⟩
    simp only [List.length_cons] at hn hk
    have ho0 := ho
    rw [wiL_cons] at ho
    by_cases hctl : c.toNat < 32 ∨ c.toNat = 127
    · rw [if_pos hctl] at ho; cases ho
    rw [if_neg hctl] at ho
    have h34 : c ≠ 34 := fun e => by rw [okB_cons, if_pos e] at hok; cases hok
    have h10 : c ≠ 10 := fun e => hctl (Or.inl (by rw [e]; decide))
    by_cases hhi : 128 ≤ c.toNat
    · obtain ⟨a, b, e, ha, hah, hvb, hm⟩ := high_step c t hhi hv
      have hlen : a.length + b.length = t.length + 1 := by rw [← List.length_append, ← e]; rfl
      rw [e, wiL_high a b hah] at ho0
      rw [e, okB_high a b hah] at hok
      cases hb : wiL b with
      | none => rw [hb] at ho0; cases ho0
      | some o2 =>
        rw [hb] at ho0
        obtain rfl := Option.some.inj ho0
        obtain ⟨r1, r2⟩ := unq_body n b o2 (acc ++ a) k (by omega) (by omega) hok hb hvb
        obtain ⟨m1, m2, m3, _⟩ := hm (b ++ [34])
        have hu : uqC (c :: t ++ [34]) = some ((decodeL (a ++ (b ++ [34]))).1, true, b ++ [34]) := by
          rw [List.cons_append, uqC_cons, if_neg h34, if_pos hhi, ← List.cons_append, e, List.append_assoc, m1, List.drop_left]
        rw [List.cons_append] at hu ⊢
        rw [unqL_go h34 h10 hu, if_neg (by simp; omega), m2]
        exact ⟨by rw [r1, List.append_assoc], by rw [(hm o2).2.2.2]; exact r2⟩
    · by_cases h92 : c = 92
      · rw [if_pos h92] at ho
        rw [okB_cons, if_neg h34, if_pos h92] at hok
        match t, ho, hok, hn, hk, hv with
        | [], ho, _, _, _, _ => cases ho
        | d :: t', ho, hok, hn, hk, hv =>
          simp only [List.length_cons] at hn hk
          rw [validD_cons c _ (by omega)] at hv
          have fin : ∀ (x : UInt8) (o2 : List UInt8), x.toNat < 128 → d.toNat < 128 → escC d (t' ++ [34]) = some (x.toNat, false, t' ++ [34]) → wiL t' = some o2 → o = x :: o2 → unqL (k + 1) (c :: d :: t' ++ [34]) acc = some (acc ++ o, []) ∧ validD o = true := fun x o2 hx hd he hw2 e => by
            subst e
            rw [validD_cons d _ hd] at hv
            obtain ⟨r1, r2⟩ := unq_body n t' o2 (acc ++ [x]) k (by omega) (by omega) hok hw2 hv
            have hu : uqC (c :: (d :: t' ++ [34])) = some (x.toNat, false, t' ++ [34]) := by
              rw [uqC_cons, if_neg h34, if_neg hhi, if_neg (by simpa using h92)]
              exact he
            rw [List.cons_append, unqL_go h34 h10 hu, if_pos (Or.inl hx), UInt8.ofNat_toNat]
            exact ⟨by rw [r1, List.append_assoc]; rfl, by rw [validD_cons x _ hx]; exact r2⟩
          simp only at ho
          by_cases d1 : d = 110
          · rw [if_pos d1] at ho
            cases hw2 : wiL t' with
            | none => rw [hw2] at ho; cases ho
            | some o2 =>
              rw [hw2] at ho
              obtain rfl := Option.some.inj ho
              exact fin 10 o2 (by decide) (by rw [d1]; decide) (by rw [d1]; rfl) hw2 rfl
          · rw [if_neg d1] at ho
            by_cases d2 : d = 34 ∨ d = 92
            · rw [if_pos d2] at ho
              cases hw2 : wiL t' with
              | none => rw [hw2] at ho; cases ho
              | some o2 =>
                rw [hw2] at ho
                obtain rfl := Option.some.inj ho
                rcases d2 with rfl | rfl
                · exact fin 34 o2 (by decide) (by decide) rfl hw2 rfl
                · exact fin 92 o2 (by decide) (by decide) rfl hw2 rfl
            · rw [if_neg d2] at ho; cases ho
      · rw [if_neg h92] at ho
        rw [okB_cons, if_neg h34, if_neg h92] at hok
        rw [validD_cons c _ (by omega)] at hv
        cases hw2 : wiL t with
        | none => rw [hw2] at ho; cases ho
        | some o2 =>
          rw [hw2] at ho
          obtain rfl := Option.some.inj ho
          obtain ⟨r1, r2⟩ := unq_body n t o2 (acc ++ [c]) k (by omega) (by omega) hok hw2 hv
          have hu : uqC (c :: (t ++ [34])) = some (c.toNat, false, t ++ [34]) := by
            rw [uqC_cons, if_neg h34, if_neg hhi, if_pos h92]
          rw [List.cons_append, unqL_go h34 h10 hu, if_pos (Or.inl (by omega)), UInt8.ofNat_toNat]
          exact ⟨by rw [r1, List.append_assoc]; rfl, by rw [validD_cons c _ (by omega)]; exact r2⟩
theorem ok_no34 : ∀ (b : List UInt8), okB b = true → 92 ∉ b → 34 ∉ b
  | [], _, _ => by simp
  | c :: t, h, h9 => by
    have c34 : c ≠ 34 := fun e => by rw [okB_cons, if_pos e] at h; cases h
    have c92 : c ≠ 92 := fun e => h9 (by rw [e]; simp)
    rw [okB_cons, if_neg c34, if_neg c92] at h
    have := ok_no34 t h (fun e => h9 (List.mem_cons_of_mem _ e))
    intro hm
    rcases List.mem_cons.1 hm with e | e
    · exact c34 e.symm
    · exact this e
theorem wi_plain : ∀ (b o : List UInt8), wiL b = some o → 92 ∉ b → o = b
  | [], o, h, _ => (Option.some.inj h).symm
  | c :: t, o, h, h9 => by
    have c92 : c ≠ 92 := fun e => h9 (by rw [e]; simp)
    rw [wiL_cons] at h
    by_cases hc : c.toNat < 32 ∨ c.toNat = 127
    · rw [if_pos hc] at h; cases h
    · rw [if_neg hc, if_neg c92] at h
      cases hw : wiL t with
      | none => rw [hw] at h; cases h
      | some o2 =>
        rw [hw] at h
        have e := wi_plain t o2 hw (fun e => h9 (List.mem_cons_of_mem _ e))
        subst e
        exact (Option.some.inj h).symm
theorem wi_no10 : ∀ (b o : List UInt8), wiL b = some o → 92 ∉ b → 10 ∉ b
  | [], _, _, _ => by simp
  | c :: t, o, h, h9 => by
    have c92 : c ≠ 92 := fun e => h9 (by rw [e]; simp)
    rw [wiL_cons] at h
    by_cases hc : c.toNat < 32 ∨ c.toNat = 127
    · rw [if_pos hc] at h; cases h
    · rw [if_neg hc, if_neg c92] at h
      cases hw : wiL t with
      | none => rw [hw] at h; cases h
      | some o2 =>
        have := wi_no10 t o2 hw (fun e => h9 (List.mem_cons_of_mem _ e))
        intro hm
        rcases List.mem_cons.1 hm with e | e
        · exact hc (Or.inl (by rw [← e]; decide))
        · exact this e
theorem idx_ne34 (c : UInt8) (l : List UInt8) (h : c ≠ 34) : (c :: l).idxOf 34 = l.idxOf 34 + 1 := by
  rw [List.idxOf_cons, show (c == 34) = false from beq_eq_false_iff_ne.2 h]
  rfl
theorem idx_plain : ∀ (b : List UInt8), 34 ∉ b → (b ++ [34]).idxOf 34 = b.length
  | [], _ => by simp
  | c :: t, h => by
    have c34 : c ≠ 34 := fun e => h (by rw [e]; simp)
    rw [List.cons_append, idx_ne34 c _ c34, idx_plain t (fun e => h (List.mem_cons_of_mem _ e))]
    rfl
theorem idx_esc : ∀ (b : List UInt8), okB b = true → 92 ∈ b → 92 ∈ (b ++ [34]).take ((b ++ [34]).idxOf 34)
  | [], _, h => by simp at h
  | c :: t, h, h9 => by
    have c34 : c ≠ 34 := fun e => by rw [okB_cons, if_pos e] at h; cases h
    rw [List.cons_append, idx_ne34 c _ c34, List.take_succ_cons]
    by_cases c92 : c = 92
    · rw [c92]; simp
    · rw [okB_cons, if_neg c34, if_neg c92] at h
      rcases List.mem_cons.1 h9 with e | e
      · exact absurd e.symm c92
      · exact List.mem_cons_of_mem _ (idx_esc t h e)
theorem unqT_with (b o : List UInt8) (hok : okB b = true) (ho : wiL b = some o) (hv : validD b = true) : unqT 8 (mk (34 :: (b ++ [34]))) = some (mk o) := by
  obtain ⟨hu, hvo⟩ := unq_body b.length b o [] ((34 :: (b ++ [34])).length) (Nat.le_refl _) (by simp; omega) hok ho hv
  have hc : (b ++ [34]).contains 34 = true := by simp
  have h1 : unq1 (34 :: (b ++ [34])) = some (o, []) := by
    unfold unq1
    simp only [List.drop_succ_cons, List.drop_zero]
    rw [if_pos hc]
    by_cases h9 : 92 ∈ b
    · rw [if_neg (fun h => h.1.1 (idx_esc b hok h9))]
      exact hu
    · have e := wi_plain b o ho h9
      subst e
      have h34 := ok_no34 o hok h9
      rw [idx_plain o h34, List.take_left, if_pos ⟨⟨h9, wi_no10 o o ho h9⟩, hv⟩, List.drop_of_length_le (by simp)]
  have hF : unqF (mk (34 :: (b ++ [34]))) = some (mk o) := by
    unfold unqF
    rw [show (mk (34 :: (b ++ [34]))).data.toList = 34 :: (b ++ [34]) from rfl, h1]
    exact if_pos rfl
  unfold unqT
  rw [if_pos rfl, hF]
  exact if_pos hvo
end Go.Proofs.YtnnhehlieakedaaGreatDoor.Q
namespace Go.Proofs.YtnnhehlieakedaaGreatDoor.Q
open Go.RowKit Go.Lib Go.Proofs.YtnnhehlieakedaaGreatDoorW.PrintWords Go.Proofs.YtnnhehlieakedaaGreatDoorW.PrintLast Go.Proofs.YtnnhehlieakedaaGreatDoorW.PrintMore
--BODY
inductive Say (α : Type) | no | op | yes (a : α)
def ref3 (W : Int × ByteArray → Say ByteArray) : List (Int × ByteArray) → Say S25 × List (Int × ByteArray)
  | a :: (o, _) :: b :: r => (if o < 4 ∨ o > 7 then .no else match W a, W b with
    | .no, _ => .no
    | _, .no => .no
    | .op, _ => .op
    | _, .op => .op
    | .yes n, .yes v => if n.size = 0 then .op else .yes ⟨o - 4, n, v⟩, r)
  | _ => (.no, [])
def Say.cons {α : Type} : Say α → Say (List α) → Say (List α)
  | .no, _ => .no
  | _, .no => .no
  | .op, _ => .op
  | _, .op => .op
  | .yes a, .yes l => .yes (a :: l)
def refL (W : Int × ByteArray → Say ByteArray) : Nat → List (Int × ByteArray) → Say (List S25)
  | 0, _ => .no
  | _ + 1, [] => .yes []
  | k + 1, t :: ts => match ref3 W (t :: ts) with
    | (.no, _) => .no
    | (m, []) => Say.cons m (.yes [])
    | (m, (j, _) :: r) => if j = 3 then Say.cons m (refL W k r) else .no
def Fair (W : Int × ByteArray → Say ByteArray) (ts : List (Int × ByteArray)) : Prop := ∀ k v, (k, v) ∈ ts → match W (k, v) with
  | .no => ¬ (k = 8 ∨ k = 9)
  | .op => k = 8 ∨ k = 9
  | .yes x => (k = 8 ∨ k = 9) ∧ unqT k v = some x
theorem ref3_cases {W : Int × ByteArray → Say ByteArray} (t : Int × ByteArray) (ts : List (Int × ByteArray)) (hf : Fair W (t :: ts)) :
    (∃ r, ref3 W (t :: ts) = (.no, r) ∧ mat3 (t :: ts) = none) ∨
    (∃ r, ref3 W (t :: ts) = (.op, r) ∧ (t :: ts).length = r.length + 3 ∧ (∃ p, t :: ts = p ++ r) ∧ (t.1 = 8 ∨ t.1 = 9) ∧ ∀ m q, mat3 (t :: ts) = some (m, q) → q = r) ∨
    (∃ m r, ref3 W (t :: ts) = (.yes m, r) ∧ (t :: ts).length = r.length + 3 ∧ (∃ p, t :: ts = p ++ r) ∧ (t.1 = 8 ∨ t.1 = 9) ∧ mat3 (t :: ts) = some (m, r)) := by
  obtain ⟨k, v⟩ := t
  match ts, hf with
  | [], _ => exact Or.inl ⟨[], rfl, rfl⟩
  | [_], _ => exact Or.inl ⟨[], rfl, rfl⟩
  | (o, c) :: (j, u) :: r, hf =>
    have f1 := hf k v (by simp)
    have f2 := hf j u (by simp)
    have e3 : ref3 W ((k, v) :: (o, c) :: (j, u) :: r) = (if o < 4 ∨ o > 7 then .no else match W (k, v), W (j, u) with
      | .no, _ => .no
      | _, .no => .no
      | .op, _ => .op
      | _, .op => .op
      | .yes n, .yes v => if n.size = 0 then .op else .yes ⟨o - 4, n, v⟩, r) := rfl
    have em : mat3 ((k, v) :: (o, c) :: (j, u) :: r) = if k = 8 ∨ k = 9 then match unqT k v with
      | none => none
      | some n => if 4 ≤ o ∧ o ≤ 7 then if j = 8 ∨ j = 9 then match unqT j u with
        | none => none
        | some z => some (⟨o - 4, n, z⟩, r)
        else none
        else none
      else none := rfl
    have mq : ∀ m q, mat3 ((k, v) :: (o, c) :: (j, u) :: r) = some (m, q) → q = r := fun m q h => by
      obtain ⟨_, _, _, _, _, _, _, _, e, _⟩ := mat3_some h
      injection e with _ e
      injection e with _ e
      injection e with _ e
      exact e.symm
    have hp : ∃ p, (k, v) :: (o, c) :: (j, u) :: r = p ++ r := ⟨[(k, v), (o, c), (j, u)], rfl⟩
    by_cases ho : o < 4 ∨ o > 7
    · left
      rw [e3, if_pos ho, em]
      refine ⟨r, rfl, ?_⟩
      split
      · split
        · rfl
        · rw [if_neg (by omega)]
      · rfl
    rw [e3, if_neg ho]
    cases h1 : W (k, v) with
    | no =>
      rw [h1] at f1
      left
      refine ⟨r, rfl, ?_⟩
      rw [em, if_neg f1]
    | op =>
      rw [h1] at f1
      cases h2 : W (j, u) with
      | no =>
        rw [h2] at f2
        left
        refine ⟨r, rfl, ?_⟩
        rw [em, if_pos f1]
        simp only [if_neg f2]
        repeat' split
        all_goals rfl
      | op => exact Or.inr (Or.inl ⟨r, rfl, rfl, hp, f1, mq⟩)
      | yes z => exact Or.inr (Or.inl ⟨r, rfl, rfl, hp, f1, mq⟩)
    | yes n =>
      rw [h1] at f1
      cases h2 : W (j, u) with
      | no =>
        rw [h2] at f2
        left
        refine ⟨r, rfl, ?_⟩
        rw [em, if_pos f1.1, f1.2]
        simp only [if_neg f2]
        repeat' split
        all_goals rfl
      | op => exact Or.inr (Or.inl ⟨r, rfl, rfl, hp, f1.1, mq⟩)
      | yes z =>
        rw [h2] at f2
        by_cases hn : n.size = 0
        · exact Or.inr (Or.inl ⟨r, by simp only [if_pos hn], rfl, hp, f1.1, mq⟩)
        · refine Or.inr (Or.inr ⟨⟨o - 4, n, z⟩, r, by simp only [if_neg hn], rfl, hp, f1.1, ?_⟩)
          rw [em, if_pos f1.1, f1.2]
          simp only
          rw [if_pos (by omega), if_pos f2.1, f2.2]
theorem Fair.tail {W : Int × ByteArray → Say ByteArray} {p r : List (Int × ByteArray)} (h : Fair W (p ++ r)) : Fair W r := fun k v hm => h k v (List.mem_append_right _ hm)
theorem refL_ma (W : Int × ByteArray → Say ByteArray) : ∀ (k : Nat) (ts : List (Int × ByteArray)) (t : Int × ByteArray), (t :: ts).length < k → Fair W (t :: ts) →
    (refL W k (t :: ts) = .no → ∀ n ms, runG true n .ma ⟨ms, false, t :: ts⟩ = none) ∧ (∀ l, refL W k (t :: ts) = .yes l → (t.1 = 8 ∨ t.1 = 9) ∧ ∃ n, ∀ ms, runG true n .ma ⟨ms, false, t :: ts⟩ = some (ms ++ l))
  | 0, _, _, h, _ => absurd h (by omega)
  | k + 1, ts, t, hk, hf => by
    have ma : ∀ n ms, runG true (n + 1) .ma ⟨ms, false, t :: ts⟩ = match mat3 (t :: ts) with
      | none => none
      | some (m, r) => runG true n .en ⟨ms ++ [m], false, r⟩ := fun n ms => by
        rw [runG]
        unfold stepG
        simp only
        cases mat3 (t :: ts) with
        | none => rfl
        | some x => rfl
    have e : refL W (k + 1) (t :: ts) = match ref3 W (t :: ts) with
      | (.no, _) => .no
      | (m, []) => Say.cons m (.yes [])
      | (m, (j, _) :: r) => if j = 3 then Say.cons m (refL W k r) else .no := rfl
    -- behind a matcher: no
    have enNo : ∀ (r : List (Int × ByteArray)), (∀ j u q, r = (j, u) :: q → (j ≠ 3 ∨ (q ≠ [] ∧ ∀ n ms, runG true n .ma ⟨ms, false, q⟩ = none))) → r ≠ [] → ∀ n ms, runG true n .en ⟨ms, false, r⟩ = none := fun r hr hne n ms => by
      match r, hne with
      | (j, u) :: q, _ =>
        cases n with
        | zero => rfl
        | succ n =>
          rw [runG]
          unfold stepG
          simp only
          by_cases h3 : j = 3
          · rw [if_pos h3]
            subst h3
            rcases hr 3 u q rfl with h | ⟨hq, hma⟩
            · exact absurd rfl h
            · show runG true n .co ⟨ms, false, (3, u) :: q⟩ = none
              cases n with
              | zero => rfl
              | succ n =>
                match q, hq, hma with
                | (i, z) :: q2, _, hma =>
                  rw [runG]
                  have es : stepG true .co ⟨ms, false, (3, u) :: (i, z) :: q2⟩ = if i = 2 then some (some .cb, ⟨ms, false, (i, z) :: q2⟩) else if i = 8 ∨ i = 9 then some (some .ma, ⟨ms, false, (i, z) :: q2⟩) else none := rfl
                  rw [es]
                  by_cases h2 : i = 2
                  · rw [if_pos h2]; subst h2; exact cb_no z q2 n ms
                  · rw [if_neg h2]
                    by_cases h8 : i = 8 ∨ i = 9
                    · rw [if_pos h8]; exact hma n ms
                    · rw [if_neg h8]
          · rw [if_neg h3]
            by_cases h2 : j = 2
            · rw [if_pos h2]; subst h2; exact cb_no u q n ms
            · rw [if_neg h2]
    rcases ref3_cases t ts hf with ⟨r, h1, h2⟩ | ⟨r, h1, hlen, ⟨p, hp⟩, h8, hq⟩ | ⟨m, r, h1, hlen, ⟨p, hp⟩, h8, hm⟩
    · refine ⟨fun _ n ms => ?_, fun l h => ?_⟩
      · cases n with
        | zero => rfl
        | succ n => rw [ma, h2]
      · rw [e, h1] at h; cases h
    · have hfr : Fair W r := by rw [hp] at hf; exact hf.tail
      rw [e, h1]
      refine ⟨fun h n ms => ?_, fun l h => ?_⟩
      · cases n with
        | zero => rfl
        | succ n =>
          rw [ma]
          cases hm : mat3 (t :: ts) with
          | none => rfl
          | some x =>
            obtain ⟨m, q⟩ := x
            have := hq m q hm
            subst this
            simp only
            match q, h, hlen, hfr with
            | [], h, _, _ => cases h
            | (j, u) :: q, h, hlen, hfr =>
              refine enNo _ (fun j' u' q' e' => ?_) (by simp) n _
              injection e' with e1 e2
              injection e1 with e1 _
              subst e1 e2
              by_cases h3 : j = 3
              · right
                simp only [if_pos h3] at h
                match q, h, hlen, hfr with
                | [], h, _, _ =>
                  cases k with
                  | zero => simp at hk
                  | succ k => cases h
                | t2 :: q2, h, hlen, hfr =>
                  have hc : refL W k (t2 :: q2) = .no := by
                    cases hr : refL W k (t2 :: q2) with
                    | no => rfl
                    | op => rw [hr] at h; cases h
                    | yes l => rw [hr] at h; cases h
                  exact ⟨by simp, (refL_ma W k q2 t2 (by simp at hlen hk ⊢; omega) (Fair.tail (p := [(j, u)]) hfr)).1 hc⟩
              · exact Or.inl h3
      · exfalso
        match r, h with
        | [], h => cases h
        | (j, u) :: q, h =>
          simp only at h
          by_cases h3 : j = 3
          · rw [if_pos h3] at h
            cases hr : refL W k q with
            | no => rw [hr] at h; cases h
            | op => rw [hr] at h; cases h
            | yes l => rw [hr] at h; cases h
          · rw [if_neg h3] at h; cases h
    · have hfr : Fair W r := by rw [hp] at hf; exact hf.tail
      rw [e, h1]
      refine ⟨fun h n ms => ?_, fun l h => ⟨h8, ?_⟩⟩
      · cases n with
        | zero => rfl
        | succ n =>
          rw [ma, hm]
          simp only
          match r, h, hlen, hfr with
          | [], h, _, _ => cases h
          | (j, u) :: q, h, hlen, hfr =>
            refine enNo _ (fun j' u' q' e' => ?_) (by simp) n _
            injection e' with e1 e2
            injection e1 with e1 _
            subst e1 e2
            by_cases h3 : j = 3
            · right
              simp only [if_pos h3] at h
              match q, h, hlen, hfr with
              | [], h, _, _ =>
                cases k with
                | zero => simp at hk
                | succ k => cases h
              | t2 :: q2, h, hlen, hfr =>
                have hc : refL W k (t2 :: q2) = .no := by
                  cases hr : refL W k (t2 :: q2) with
                  | no => rfl
                  | op => rw [hr] at h; cases h
                  | yes l => rw [hr] at h; cases h
                exact ⟨by simp, (refL_ma W k q2 t2 (by simp at hlen hk ⊢; omega) (Fair.tail (p := [(j, u)]) hfr)).1 hc⟩
            · exact Or.inl h3
      · match r, h, hlen, hfr, hm with
        | [], h, _, _, hm =>
          have h : Say.yes [m] = Say.yes l := h
          injection h with h
          subst h
          exact ⟨5, fun ms => by rw [ma, hm]; rfl⟩
        | (j, u) :: q, h, hlen, hfr, hm =>
          simp only at h
          by_cases h3 : j = 3
          · rw [if_pos h3] at h
            subst h3
            match q, h, hlen, hfr, hm with
            | [], h, _, _, hm =>
              cases k with
              | zero => simp at hk
              | succ k =>
                have h : Say.yes [m] = Say.yes l := h
                injection h with h
                subst h
                exact ⟨6, fun ms => by rw [ma, hm]; rfl⟩
            | t2 :: q2, h, hlen, hfr, hm =>
              cases hr : refL W k (t2 :: q2) with
              | no => rw [hr] at h; cases h
              | op => rw [hr] at h; cases h
              | yes l2 =>
                rw [hr] at h
                have h : Say.yes (m :: l2) = Say.yes l := h
                injection h with h
                subst h
                obtain ⟨g8, n, hn⟩ := (refL_ma W k q2 t2 (by simp at hlen hk ⊢; omega) (Fair.tail (p := [(3, u)]) hfr)).2 l2 hr
                obtain ⟨i, z⟩ := t2
                refine ⟨n + 3, fun ms => ?_⟩
                rw [ma, hm]
                show runG true (n + 2) .en ⟨ms ++ [m], false, (3, u) :: (i, z) :: q2⟩ = _
                rw [runG]
                show runG true (n + 1) .co ⟨ms ++ [m], false, (3, u) :: (i, z) :: q2⟩ = _
                rw [runG]
                have es : stepG true .co ⟨ms ++ [m], false, (3, u) :: (i, z) :: q2⟩ = if i = 2 then some (some .cb, ⟨ms ++ [m], false, (i, z) :: q2⟩) else if i = 8 ∨ i = 9 then some (some .ma, ⟨ms ++ [m], false, (i, z) :: q2⟩) else none := rfl
                rw [es, if_neg (by simp only at g8; omega), if_pos g8]
                simp only
                rw [hn (ms ++ [m]), List.append_assoc]
                rfl
          · rw [if_neg h3] at h; cases h
theorem bare_no2 : ∀ (k : Nat) (fn : Pn) (ms m0 : List S25) (ts : List (Int × ByteArray)), fn.mid → runG true k fn ⟨ms, false, ts⟩ = some m0 → ∀ t, t ∈ ts → t.1 ≠ 2
  | 0, _, _, _, _, _, h, _, _ => by cases h
  | k + 1, .ma, ms, m0, ts, _, h, t, ht => by
    rw [runG] at h
    unfold stepG at h
    simp only at h
    cases hm : mat3 ts with
    | none => rw [hm] at h; cases h
    | some x =>
      obtain ⟨m, q⟩ := x
      rw [hm] at h
      have ih := bare_no2 k .en (ms ++ [m]) m0 q trivial h
      obtain ⟨a, b, c, d, e, f, _, _, e1, g1, g2, g3, _⟩ := mat3_some hm
      rw [e1] at ht
      rcases List.mem_cons.1 ht with e | ht
      · rw [e]; show a ≠ 2; omega
      rcases List.mem_cons.1 ht with e | ht
      · rw [e]; show c ≠ 2; omega
      rcases List.mem_cons.1 ht with e' | ht
      · rw [e']; show e ≠ 2; omega
      exact ih t ht
  | k + 1, .en, ms, m0, [], _, h, t, ht => by simp at ht
  | k + 1, .en, ms, m0, (i, u) :: q, _, h, t, ht => by
    rw [runG] at h
    unfold stepG at h
    simp only at h
    by_cases h3 : i = 3
    · rw [if_pos h3] at h
      exact bare_no2 k .co ms m0 _ trivial h t ht
    · rw [if_neg h3] at h
      by_cases h2 : i = 2
      · rw [if_pos h2] at h
        subst h2
        have h : runG true k .cb ⟨ms, false, (2, u) :: q⟩ = some m0 := h
        rw [cb_no] at h
        cases h
      · rw [if_neg h2] at h
        cases h
  | k + 1, .co, ms, m0, [], _, h, t, ht => by simp at ht
  | k + 1, .co, ms, m0, (i, u) :: q, _, h, t, ht => by
    rw [runG] at h
    by_cases h3 : i = 3
    · match q, h, ht with
      | [], h, ht =>
        obtain rfl := List.mem_singleton.1 ht
        show i ≠ 2
        omega
      | (i2, u2) :: q2, h, ht =>
        unfold stepG at h
        simp only [if_pos h3] at h
        by_cases h2 : i2 = 2
        · rw [if_pos h2] at h
          subst h2
          have h : runG true k .cb ⟨ms, false, (2, u2) :: q2⟩ = some m0 := h
          rw [cb_no] at h
          cases h
        · rw [if_neg h2] at h
          by_cases h8 : i2 = 8 ∨ i2 = 9
          · rw [if_pos h8] at h
            rcases List.mem_cons.1 ht with e | ht
            · rw [e]; show i ≠ 2; omega
            · exact bare_no2 k .ma ms m0 _ trivial h t ht
          · rw [if_neg h8] at h
            cases h
    · unfold stepG at h
      simp only [if_neg h3] at h
      cases h
def Pn.inb : Pn → Prop
  | .ma | .en | .co | .cb => True
  | _ => False
theorem last_cons {α : Type} {a z : α} {l : List α} (h : l.getLast? = some z) : (a :: l).getLast? = some z := by
  cases l with
  | nil => cases h
  | cons b l => rw [List.getLast?_cons_cons]; exact h
theorem brace_last : ∀ (k : Nat) (fn : Pn) (ms m0 : List S25) (ts : List (Int × ByteArray)), fn.inb → runG true k fn ⟨ms, true, ts⟩ = some m0 → ∃ v, ts.getLast? = some (2, v)
  | 0, _, _, _, _, _, h => by cases h
  | k + 1, .cb, ms, m0, [], _, h => by cases h
  | k + 1, .cb, ms, m0, (i, u) :: q, _, h => by
    rw [runG] at h
    unfold stepG at h
    simp only at h
    by_cases h2 : i = 2
    · rw [if_pos h2] at h
      subst h2
      match k, q, h with
      | 0, _, h => cases h
      | k + 1, [], h => exact ⟨u, rfl⟩
      | k + 1, _ :: _, h => cases h
    · rw [if_neg h2] at h
      cases h
  | k + 1, .ma, ms, m0, ts, _, h => by
    rw [runG] at h
    unfold stepG at h
    simp only at h
    cases hm : mat3 ts with
    | none => rw [hm] at h; cases h
    | some x =>
      obtain ⟨m, q⟩ := x
      rw [hm] at h
      obtain ⟨v, hv⟩ := brace_last k .en (ms ++ [m]) m0 q trivial h
      obtain ⟨a, b, c, d, e, f, _, _, e1, _⟩ := mat3_some hm
      rw [e1]
      exact ⟨v, last_cons (last_cons (last_cons hv))⟩
  | k + 1, .en, ms, m0, [], _, h => by
    rw [runG] at h
    have h : runG true k .cb ⟨ms, true, []⟩ = some m0 := h
    cases k with
    | zero => cases h
    | succ k => cases h
  | k + 1, .en, ms, m0, (i, u) :: q, _, h => by
    rw [runG] at h
    unfold stepG at h
    simp only at h
    by_cases h3 : i = 3
    · rw [if_pos h3] at h
      exact brace_last k .co ms m0 _ trivial h
    · rw [if_neg h3] at h
      by_cases h2 : i = 2
      · rw [if_pos h2] at h
        exact brace_last k .cb ms m0 _ trivial h
      · rw [if_neg h2] at h
        cases h
  | k + 1, .co, ms, m0, [], _, h => by cases h
  | k + 1, .co, ms, m0, (i, u) :: q, _, h => by
    rw [runG] at h
    by_cases h3 : i = 3
    · match q, h with
      | [], h =>
        unfold stepG at h
        simp only [if_pos h3, if_true] at h
        cases k with
        | zero => cases h
        | succ k => cases h
      | (i2, u2) :: q2, h =>
        unfold stepG at h
        simp only [if_pos h3] at h
        by_cases h2 : i2 = 2
        · rw [if_pos h2] at h
          obtain ⟨v, hv⟩ := brace_last k .cb ms m0 _ trivial h
          exact ⟨v, last_cons hv⟩
        · rw [if_neg h2] at h
          by_cases h8 : i2 = 8 ∨ i2 = 9
          · rw [if_pos h8] at h
            obtain ⟨v, hv⟩ := brace_last k .ma ms m0 _ trivial h
            exact ⟨v, last_cons hv⟩
          · rw [if_neg h8] at h
            cases h
    · unfold stepG at h
      simp only [if_neg h3] at h
      cases h
theorem gram_of_ma {k : Int} {z : ByteArray} {r : List (Int × ByteArray)} {m0 : List S25} (n : Nat) (hk : k ≠ 1) (h2 : k ≠ 2) (h : runG true n .ma ⟨[], false, (k, z) :: r⟩ = some m0) : gram true ((k, z) :: r) = some m0 := by
  have hob : runG true (n + 1) .ob ⟨[], false, (k, z) :: r⟩ = some m0 := by
    rw [runG]
    have e2 : stepG true .ob ⟨[], false, (k, z) :: r⟩ = if k = 2 then some (some .cb, ⟨[], false, (k, z) :: r⟩) else some (some .ma, ⟨[], false, (k, z) :: r⟩) := by
      unfold stepG
      simp only [if_neg hk]
    rw [e2, if_neg h2]
    exact h
  rw [gram_runG _ (n + 1 + (4 * ((k, z) :: r).length + 4)) (by omega)]
  exact runG_more _ _ _ _ hob _ (by omega)
theorem say_bare (W : Int × ByteArray → Say ByteArray) (k : Nat) (k0 : Int) (z : ByteArray) (r : List (Int × ByteArray)) (hk : ((k0, z) :: r).length < k) (hf : Fair W ((k0, z) :: r)) (h1 : k0 ≠ 1) :
    (refL W k ((k0, z) :: r) = .no → gram true ((k0, z) :: r) = none) ∧ (∀ l, refL W k ((k0, z) :: r) = .yes l → gram true ((k0, z) :: r) = some l) := by
  obtain ⟨a, b⟩ := refL_ma W k r (k0, z) hk hf
  refine ⟨fun h => ?_, fun l h => ?_⟩
  · cases hg : gram true ((k0, z) :: r) with
    | none => rfl
    | some m0 =>
      obtain ⟨_, _, n, hn⟩ := gram_bare h1 hg
      rw [a h n []] at hn
      cases hn
  · obtain ⟨h8, n, hn⟩ := b l h
    have := hn []
    rw [List.nil_append] at this
    exact gram_of_ma n h1 (by simp only at h8; omega) this
def inS (ts : List (Int × ByteArray)) : Option (List (Int × ByteArray)) := match ts with
  | [] => some []
  | (k, z) :: r => if k = 1 then (match r.getLast? with
      | some (j, _) => if j = 2 then some r.dropLast else none
      | none => none)
    else (match ((k, z) :: r).getLast? with
      | some (j, _) => if j = 2 then none else some ((k, z) :: r)
      | none => none)
theorem say_gram (W : Int × ByteArray → Say ByteArray) (k : Nat) (ts : List (Int × ByteArray)) (hk : ts.length < k) (hf : Fair W ts) :
    (inS ts = none → gram true ts = none) ∧ ∀ l, inS ts = some l → (refL W k l = .no → gram true ts = none) ∧ (∀ ms, refL W k l = .yes ms → gram true ts = some ms) := by
  match ts, hk, hf with
  | [], hk, _ =>
    refine ⟨fun h => (by cases h), fun l h => ?_⟩
    obtain rfl := Option.some.inj h
    obtain ⟨k, rfl⟩ : ∃ j, k = j + 1 := ⟨k - 1, by simp at hk; omega⟩
    refine ⟨fun h => (by cases h), fun ms h => ?_⟩
    have h : Say.yes [] = Say.yes ms := h
    injection h with h
    subst h
    rfl
  | (k0, z) :: r, hk, hf =>
    by_cases h1 : k0 = 1
    · subst h1
      have e : inS ((1, z) :: r) = match r.getLast? with
        | some (j, _) => if j = 2 then some r.dropLast else none
        | none => none := rfl
      rw [e]
      have gob : ∀ (j : Int) (u : ByteArray) (q : List (Int × ByteArray)), gram true ((1, z) :: (j, u) :: q) = if j = 2 then runG true (4 * ((1, z) :: (j, u) :: q).length + 7) .cb ⟨[], true, (j, u) :: q⟩ else runG true (4 * ((1, z) :: (j, u) :: q).length + 7) .ma ⟨[], true, (j, u) :: q⟩ := fun j u q => by
        unfold gram
        rw [runG]
        have es : stepG true .ob ⟨[], false, (1, z) :: (j, u) :: q⟩ = if j = 2 then some (some .cb, ⟨[], true, (j, u) :: q⟩) else some (some .ma, ⟨[], true, (j, u) :: q⟩) := rfl
        rw [es]
        by_cases h2 : j = 2
        · rw [if_pos h2, if_pos h2]
        · rw [if_neg h2, if_neg h2]
      cases hl : r.getLast? with
      | none =>
        have : r = [] := List.getLast?_eq_none_iff.1 hl
        subst this
        exact ⟨fun _ => rfl, fun l h => by cases h⟩
      | some x =>
        obtain ⟨j, v⟩ := x
        simp only
        by_cases h2 : j = 2
        · subst h2
          rw [if_pos rfl]
          refine ⟨fun h => (by cases h), fun l h => ?_⟩
          obtain rfl := Option.some.inj h
          have hr : r = r.dropLast ++ [(2, v)] := by
            have hne : r ≠ [] := fun e => by rw [e] at hl; cases hl
            have h3 := List.dropLast_concat_getLast hne
            rw [List.getLast?_eq_some_getLast hne] at hl
            rw [Option.some.inj hl] at h3
            exact h3.symm
          generalize r.dropLast = q at *
          subst hr
          match q, hk, hf with
          | [], hk, _ =>
            obtain ⟨k, rfl⟩ : ∃ j, k = j + 1 := ⟨k - 1, by simp at hk; omega⟩
            refine ⟨fun h => (by cases h), fun ms h => ?_⟩
            have h : Say.yes [] = Say.yes ms := h
            injection h with h
            subst h
            rfl
          | (k1, z1) :: q, hk, hf =>
            have hfq : Fair W ((k1, z1) :: q) := fun a b hm => hf a b (List.mem_cons_of_mem _ (List.mem_append_left _ hm))
            have hkq : ((k1, z1) :: q).length < k := by simp at hk ⊢; omega
            by_cases h11 : k1 = 1
            · subst h11
              refine ⟨fun _ => ?_, fun ms h => ?_⟩
              · rw [List.cons_append, gob, if_neg (by decide)]
                have hm : mat3 ((1, z1) :: (q ++ [(2, v)])) = none := by
                  cases hm : mat3 ((1, z1) :: (q ++ [(2, v)])) with
                  | none => rfl
                  | some x =>
                    obtain ⟨m, y⟩ := x
                    obtain ⟨a, b, c, d, e, f, _, _, e1, g1, _⟩ := mat3_some hm
                    injection e1 with e1 _
                    injection e1 with e1 _
                    omega
                rw [runG]
                unfold stepG
                simp only
                rw [hm]
              · have := ((refL_ma W k q (1, z1) hkq hfq).2 ms h).1
                simp only at this
                omega
            · rw [show ((1 : Int), z) :: ((k1, z1) :: q ++ [(2, v)]) = (1, z) :: ((k1, z1) :: q ++ [(2, v)]) from rfl, gram_braces z v k1 z1 q h11]
              exact say_bare W k k1 z1 q hkq hfq h11
        · rw [if_neg h2]
          refine ⟨fun _ => ?_, fun l h => by cases h⟩
          match r, hl with
          | (j1, u1) :: q, hl =>
            rw [gob]
            by_cases h22 : j1 = 2
            · rw [if_pos h22]
              cases hg : runG true (4 * ((1, z) :: (j1, u1) :: q).length + 7) .cb ⟨[], true, (j1, u1) :: q⟩ with
              | none => rfl
              | some m0 =>
                obtain ⟨v2, hv2⟩ := brace_last _ .cb _ _ _ trivial hg
                rw [hl] at hv2
                injection hv2 with hv2
                injection hv2 with hv2 _
                exact absurd hv2 h2
            · rw [if_neg h22]
              cases hg : runG true (4 * ((1, z) :: (j1, u1) :: q).length + 7) .ma ⟨[], true, (j1, u1) :: q⟩ with
              | none => rfl
              | some m0 =>
                obtain ⟨v2, hv2⟩ := brace_last _ .ma _ _ _ trivial hg
                rw [hl] at hv2
                injection hv2 with hv2
                injection hv2 with hv2 _
                exact absurd hv2 h2
    · have e : inS ((k0, z) :: r) = match ((k0, z) :: r).getLast? with
        | some (j, _) => if j = 2 then none else some ((k0, z) :: r)
        | none => none := if_neg h1
      rw [e]
      cases hl : ((k0, z) :: r).getLast? with
      | none => exact absurd (List.getLast?_eq_none_iff.1 hl) (by simp)
      | some x =>
        obtain ⟨j, v⟩ := x
        simp only
        by_cases h2 : j = 2
        · rw [if_pos h2]
          refine ⟨fun _ => ?_, fun l h => by cases h⟩
          cases hg : gram true ((k0, z) :: r) with
          | none => rfl
          | some m0 =>
            obtain ⟨_, _, n, hn⟩ := gram_bare h1 hg
            exact absurd h2 (bare_no2 n .ma [] m0 _ trivial hn (j, v) (List.mem_of_getLast? hl))
        · rw [if_neg h2]
          refine ⟨fun h => (by cases h), fun l h => ?_⟩
          obtain rfl := Option.some.inj h
          exact say_bare W k k0 z r hk hf h1
theorem gram_bad : ∀ (k : Nat) (fn : Pn) (q : GSt), runG false k fn q = none
  | 0, _, _ => rfl
  | k + 1, fn, q => by
    rw [runG]
    cases hs : stepG false fn q with
    | none => rfl
    | some x =>
      obtain ⟨f, q'⟩ := x
      cases f with
      | some f => exact gram_bad k f q'
      | none =>
        exfalso
        obtain ⟨ms, hob, ts⟩ := q
        cases fn <;> unfold stepG at hs <;> simp only at hs
        all_goals repeat' split at hs
        all_goals first | (cases hs; done) | (have e := (Prod.mk.inj (Option.some.inj hs)).1; cases e; done) | (rename_i hx; exact absurd hx (by decide)) | (rename_i hx _; exact absurd hx (by decide))
end Go.Proofs.YtnnhehlieakedaaGreatDoor.Q
namespace Go.Proofs.YtnnhehlieakedaaGreatDoor.Q
open Go.RowKit Go.Lib Go.Proofs.YtnnhehlieakedaaGreatDoorW.PrintWords Go.Proofs.YtnnhehlieakedaaGreatDoorW.PrintLast Go.Proofs.YtnnhehlieakedaaGreatDoorW.PrintMore
--BODY
structure Bd (s : ByteArray) (x : LSt) : Prop where
  g : LGd s x
  v : validD (s.data.toList.drop x.p.toNat) = true
def slc (s : ByteArray) (q e : Nat) : List UInt8 := (s.data.toList.drop q).take (e - q)
section
variable {s : ByteArray} {x : LSt}
theorem Bd.back (h : Bd s x) : Bd s (backS (nextS s x)) := ⟨h.g.back, by rw [back_p h.g]; exact h.v⟩
theorem len_toList (s : ByteArray) : s.data.toList.length = s.size := Array.length_toList
theorem Bd.char (h : Bd s x) (hp : x.p < s.size) : ∃ c a, s.data.toList.drop x.p.toNat = (c :: a) ++ s.data.toList.drop (nextS s x).p.toNat ∧ Bd s (nextS s x) ∧ (nextS s x).p.toNat = x.p.toNat + (a.length + 1) ∧ (nextS s x).st = x.st ∧
    ((c.toNat < 128 ∧ a = [] ∧ nextR s x.p = (c.toNat : Int)) ∨ (128 ≤ nextR s x.p ∧ (∀ b ∈ c :: a, 128 ≤ b.toNat))) ∧ ∀ m, validD ((c :: a) ++ m) = validD m := by
  have h0 := h.g.s0; have h1 := h.g.s1
  have hlt : x.p.toNat < s.size := by omega
  have hst : (nextS s x).st = x.st := by unfold nextS; split <;> rfl
  have hr : nextR s x.p = ((decodeL (s.data.toList.drop x.p.toNat)).1 : Int) := by
    unfold nextR
    rw [if_pos hlt, decodeL_drop]
  have hn : (nextS s x).p.toNat = x.p.toNat + (decodeL (s.data.toList.drop x.p.toNat)).2 := by
    unfold nextS
    rw [if_pos hlt, decodeL_drop]
    simp only
    omega
  have hgn := h.g.next
  have hv := h.v
  cases hl : s.data.toList.drop x.p.toNat with
  | nil =>
    have := congrArg List.length hl
    rw [List.length_drop, len_toList] at this
    simp at this
    omega
  | cons c t =>
    rw [hl] at hr hn hv
    have hdd : s.data.toList.drop (nextS s x).p.toNat = (c :: t).drop (decodeL (c :: t)).2 := by rw [hn, ← List.drop_drop, hl]
    by_cases hc : c.toNat < 128
    · rw [decodeL_ascii c t hc] at hr hn hdd
      rw [validD_cons c t hc] at hv
      exact ⟨c, [], by rw [hdd]; rfl, ⟨hgn, by rw [hdd]; exact hv⟩, hn, hst, Or.inl ⟨hc, rfl, hr⟩, fun m => validD_cons c m hc⟩
    · obtain ⟨a, b, e, ha, hah, hvb, hm⟩ := high_step c t (by omega) hv
      obtain ⟨m1, m2, m3, m4⟩ := hm b
      rw [← e] at m1 m3
      cases a with
      | nil => simp at ha
      | cons c' a =>
        have e1 : c = c' := by injection e
        subst e1
        rw [m1] at hn hdd
        have hb : s.data.toList.drop (nextS s x).p.toNat = b := by rw [hdd, e, List.drop_left]
        exact ⟨c, a, by rw [hb, ← e], ⟨hgn, by rw [hb]; exact hvb⟩, hn, hst, Or.inr ⟨by rw [hr]; omega, hah⟩, fun m => (hm m).2.2.2⟩
theorem Bd.next (h : Bd s x) : Bd s (nextS s x) := by
  by_cases hp : x.p < s.size
  · obtain ⟨_, _, _, h2, _⟩ := h.char hp
    exact h2
  · have e : (nextS s x).p = x.p := by
      have := h.g.s0; have := h.g.s1
      unfold nextS
      rw [if_neg (by omega)]
    exact ⟨h.g.next, by rw [e]; exact h.v⟩
theorem Bd.ac (h : Bd s x) (c : ByteArray) : Bd s (acS s x c) := by
  unfold acS
  split
  · exact h.next
  · exact h.back
theorem Bd.skip (h : Bd s x) : Bd s (skipS x) := ⟨h.g.skip, h.v⟩
theorem Bd.emit (h : Bd s x) : Bd s (emitS x) := ⟨h.g.emit, h.v⟩
theorem Bd.op (h : Bd s x) : Bd s (opF s x).2 := by
  have h1 := h.ac ⟨#[33]⟩
  have h2 := h1.ac ⟨#[61]⟩
  have h3 := h2.ac ⟨#[126]⟩
  unfold opF
  generalize acB s x ⟨#[33]⟩ = b1
  generalize acS s x ⟨#[33]⟩ = y1 at *
  generalize acB s y1 ⟨#[61]⟩ = b2
  generalize acS s y1 ⟨#[61]⟩ = y2 at *
  generalize acB s y2 ⟨#[126]⟩ = b3
  generalize acS s y2 ⟨#[126]⟩ = y3 at *
  cases b1 <;> cases b2 <;> cases b3 <;> first | exact h3 | exact h2 | exact h1
theorem Bd.word : ∀ (k : Nat) (x : LSt), Bd s x → Bd s (wordS s k x)
  | 0, _, h => h
  | k + 1, x, h => by
    rw [wordS]
    by_cases h1 : nextR s x.p = -1
    · rw [if_pos h1]; exact h.next
    · rw [if_neg h1]
      by_cases h2 : resR (nextR s x.p) = true
      · rw [if_pos h2]; exact h.back
      · rw [if_neg h2]; exact Bd.word k _ h.next
def okE : Bool → List UInt8 → Bool
  | false, l => okB l
  | true, [] => false
  | true, _ :: t => okB t
theorem slc_char {q q2 e : Nat} {c : UInt8} {a : List UInt8} (hd : s.data.toList.drop q = (c :: a) ++ s.data.toList.drop q2) (hq : q2 = q + (a.length + 1)) (he : q2 ≤ e) : slc s q e = (c :: a) ++ slc s q2 e := by
  unfold slc
  rw [hd, List.take_append, List.take_of_length_le (by simp; omega)]
  congr 2
  simp
  omega
theorem quot_body : ∀ (k : Nat) (esc : Bool) (x : LSt), Bd s x → s.size - x.p.toNat < k → nextR s (quotS s k esc x).p = 34 →
    Bd s (quotS s k esc x) ∧ x.p.toNat ≤ (quotS s k esc x).p.toNat ∧ (quotS s k esc x).st = x.st ∧ okE esc (slc s x.p.toNat (quotS s k esc x).p.toNat) = true ∧ validD (slc s x.p.toNat (quotS s k esc x).p.toNat) = true
  | 0, _, _, _, h, _ => absurd h (by omega)
  | k + 1, esc, x, h, hk, he => by
    have h0 := h.g.s0; have h1 := h.g.s1; have hp1 := h.g.p1
    by_cases hp : x.p < s.size
    · have hne : nextR s x.p ≠ -1 := fun q => by have := (nextR_end h.g).1 q; omega
      obtain ⟨c, a, hd, hb, hn, hst, hcase, hval⟩ := h.char hp
      have go : ∀ (e2 : Bool), quotS s (k + 1) esc x = quotS s k e2 (nextS s x) → (∀ m, okE e2 m = true → okE esc ((c :: a) ++ m) = true) →
          Bd s (quotS s (k + 1) esc x) ∧ x.p.toNat ≤ (quotS s (k + 1) esc x).p.toNat ∧ (quotS s (k + 1) esc x).st = x.st ∧ okE esc (slc s x.p.toNat (quotS s (k + 1) esc x).p.toNat) = true ∧ validD (slc s x.p.toNat (quotS s (k + 1) esc x).p.toNat) = true := fun e2 e hok => by
        rw [e] at he ⊢
        obtain ⟨i1, i2, i3, i4, i5⟩ := quot_body k e2 (nextS s x) hb (by omega) he
        have hs := slc_char hd hn i2
        exact ⟨i1, by omega, i3.trans hst, by rw [hs]; exact hok _ i4, by rw [hs, hval]; exact i5⟩
      cases esc with
      | true =>
        refine go false (by rw [quotS, if_neg hne, if_pos rfl]) (fun m hm => ?_)
        rcases hcase with ⟨_, ha, _⟩ | ⟨_, ha⟩
        · subst ha; exact hm
        · show okB (a ++ m) = true
          rw [okB_high a m (fun b hb => ha b (List.mem_cons_of_mem _ hb))]
          exact hm
      | false =>
        by_cases h92 : nextR s x.p = 92
        · refine go true (by rw [quotS, if_neg hne, if_neg (by decide), if_pos h92]) (fun m hm => ?_)
          rcases hcase with ⟨hc, ha, hr⟩ | ⟨hr, _⟩
          · subst ha
            have e : c = 92 := by
              apply UInt8.toNat_inj.1
              rw [h92] at hr
              show c.toNat = 92
              omega
            subst e
            show okB (92 :: m) = true
            rw [okB_cons, if_neg (by decide), if_pos rfl]
            cases m with
            | nil => cases hm
            | cons b m => exact hm
          · omega
        · by_cases h34 : nextR s x.p = 34
          · have e : quotS s (k + 1) false x = backS (nextS s x) := by rw [quotS, if_neg hne, if_neg (by decide), if_neg h92, if_pos h34]
            have ep := back_p h.g
            rw [e, ep]
            refine ⟨h.back, Nat.le_refl _, ((same_next s x).trans (same_back _)).1, ?_, ?_⟩
            · unfold slc; rw [Nat.sub_self, List.take_zero]; rfl
            · unfold slc; rw [Nat.sub_self, List.take_zero]; rfl
          · refine go false (by rw [quotS, if_neg hne, if_neg (by decide), if_neg h92, if_neg h34]) (fun m hm => ?_)
            rcases hcase with ⟨hc, ha, hr⟩ | ⟨_, ha⟩
            · subst ha
              show okB (c :: m) = true
              rw [okB_cons, if_neg (fun e => h34 (by rw [hr, e]; rfl)), if_neg (fun e => h92 (by rw [hr, e]; rfl))]
              exact hm
            · show okB ((c :: a) ++ m) = true
              rw [okB_high _ m ha]
              exact hm
    · have hr := (nextR_end h.g).2 (show x.p = s.size by omega)
      have e : (nextS s x).p = x.p := by
        unfold nextS
        rw [if_neg (by omega)]
      rw [quotS, if_pos hr, e, hr] at he
      exact absurd he (by decide)
end
theorem has_ofX (c : ByteArray) (d : Nat) (hr : runesI c 0 = [d]) (ho : okR (d : Int) = true) (r : Int) : hasR c r = decide (r = (d : Int)) := by
  unfold hasR
  rw [hr]
  by_cases h : r = (d : Int)
  · rw [h, ho]; simp
  · rw [decide_eq_false h]
    have : (([d] : List Nat).any fun d => decide ((d : Int) = r)) = false := by
      simp
      omega
    rw [this, Bool.and_false]
theorem hasX34 (r : Int) : hasR ⟨#[34]⟩ r = decide (r = 34) := has_ofX _ 34 (by kernel_rfl) (by decide) r
section
variable {s : ByteArray} {x : LSt}
theorem slc_drop {q e : Nat} (h : q ≤ e) : slc s q e ++ s.data.toList.drop e = s.data.toList.drop q := by
  unfold slc
  have e1 : s.data.toList.drop e = (s.data.toList.drop q).drop (e - q) := by rw [List.drop_drop]; congr 1; omega
  rw [e1, List.take_append_drop]
theorem slc_len {q e : Nat} (h : q ≤ e) (he : e ≤ s.size) : (slc s q e).length = e - q := by
  unfold slc
  rw [List.length_take, List.length_drop, len_toList]
  omega
theorem quo_text (h : Bd s x) (hq : nextR s x.p = 34) (hst : x.st = x.p) (hk : (quoF s x).1 = some 8) : Bd s (quoF s x).2 ∧ ∃ b, tokS s (quoF s x).2 = mk (34 :: (b ++ [34])) ∧ okB b = true ∧ validD b = true := by
  have h0 := h.g.s0; have h1 := h.g.s1; have hp1 := h.g.p1
  have b1 : acB s x ⟨#[34]⟩ = true := by unfold acB; rw [hq, hasX34]; rfl
  have a1 : acS s x ⟨#[34]⟩ = nextS s x := by unfold acS; rw [if_pos b1]
  unfold quoF at hk ⊢
  rw [if_pos b1, a1] at hk ⊢
  have hp : x.p < s.size := by
    rcases Int.lt_or_le x.p s.size with c | c
    · exact c
    · exfalso
      rw [(nextR_end h.g).2 (by omega)] at hq
      exact absurd hq (by decide)
  obtain ⟨c, a, hd, hb, hn, hs1, hcase, _⟩ := h.char hp
  have hbody := quot_body (s.size + 1) false (nextS s x) hb (by omega)
  generalize quotS s (s.size + 1) false (nextS s x) = y at *
  simp only at hk ⊢
  have b2 : acB s y ⟨#[34]⟩ = true := by
    cases hb2 : acB s y ⟨#[34]⟩ with
    | true => rfl
    | false => rw [hb2] at hk; cases hk
  have hy : nextR s y.p = 34 := by
    unfold acB at b2
    rw [hasX34] at b2
    exact of_decide_eq_true b2
  have a2 : acS s y ⟨#[34]⟩ = nextS s y := by unfold acS; rw [if_pos b2]
  obtain ⟨i1, i2, i3, i4, i5⟩ := hbody hy
  have hyp : y.p < s.size := by
    rcases Int.lt_or_le y.p s.size with c | c
    · exact c
    · exfalso
      have := i1.g.p1
      rw [(nextR_end i1.g).2 (by omega)] at hy
      exact absurd hy (by decide)
  obtain ⟨c2, a3, hd2, hb2', hn2, hs2, hcase2, _⟩ := i1.char hyp
  have e1 : c = 34 ∧ a = [] := by
    rcases hcase with ⟨_, ha, hr⟩ | ⟨hr, _⟩
    · exact ⟨UInt8.toNat_inj.1 (by rw [hq] at hr; show c.toNat = 34; omega), ha⟩
    · omega
  have e2 : c2 = 34 ∧ a3 = [] := by
    rcases hcase2 with ⟨_, ha, hr⟩ | ⟨hr, _⟩
    · exact ⟨UInt8.toNat_inj.1 (by rw [hy] at hr; show c2.toNat = 34; omega), ha⟩
    · omega
  obtain ⟨rfl, rfl⟩ := e1
  obtain ⟨rfl, rfl⟩ := e2
  rw [a2]
  refine ⟨hb2', slc s (nextS s x).p.toNat y.p.toNat, ?_, i4, i5⟩
  have hst2 : (nextS s y).st.toNat = x.p.toNat := by rw [hs2, i3, hs1, hst]
  have hlen := slc_len (s := s) i2 (by have := i1.g.p1; have := i1.g.s0; have := i1.g.s1; omega)
  have hsl := slc_drop (s := s) i2
  have hn' : (nextS s x).p.toNat = x.p.toNat + 1 := hn
  have hn2' : (nextS s y).p.toNat = y.p.toNat + 1 := hn2
  unfold tokS
  rw [hst2, hn2']
  apply ByteArray.ext
  apply Array.ext'
  rw [ByteArray.data_extract, Array.toList_extract, List.extract_eq_take_drop, hd, ← hsl, hd2]
  show _ = 34 :: (slc s (nextS s x).p.toNat y.p.toNat ++ [34])
  have e3 : [34] ++ (slc s (nextS s x).p.toNat y.p.toNat ++ ([34] ++ s.data.toList.drop (nextS s y).p.toNat)) = (34 :: (slc s (nextS s x).p.toNat y.p.toNat ++ [34])) ++ s.data.toList.drop (nextS s y).p.toNat := by simp
  rw [e3, List.take_append_of_le_length (by simp; omega), List.take_of_length_le (by simp; omega)]
theorem op_kinds {j : Int} (h : (opF s x).1 = some j) : 4 ≤ j ∧ j ≤ 7 := by
  unfold opF at h
  generalize acB s x ⟨#[33]⟩ = b1 at h
  generalize acS s x ⟨#[33]⟩ = y1 at h
  generalize acB s y1 ⟨#[61]⟩ = b2 at h
  generalize acS s y1 ⟨#[61]⟩ = y2 at h
  generalize acB s y2 ⟨#[126]⟩ = b3 at h
  cases b1 <;> cases b2 <;> cases b3 <;> simp at h <;> omega
theorem quo_kind {j : Int} (h : (quoF s x).1 = some j) : j = 8 := by
  unfold quoF at h
  by_cases h1 : acB s x ⟨#[34]⟩ = true
  · rw [if_pos h1] at h
    simp only at h
    split at h
    · exact (Option.some.inj h).symm
    · cases h
  · rw [if_neg h1] at h; cases h
theorem scan_text : ∀ (k : Nat) (x : LSt), Bd s x → x.st = x.p → ∀ (j : Int) (y : LSt), scanF s k x = (.tok j, y) → Bd s y ∧ (j = 8 → ∃ b, tokS s y = mk (34 :: (b ++ [34])) ∧ okB b = true ∧ validD b = true)
  | 0, _, _, _, j, y, h => by injection h with h _; cases h
  | k + 1, x, hb, hst, j, y, h => by
    rw [scanF] at h
    have hbk := hb.back
    have hpb := back_p hb.g
    have hsb := ((same_next s x).trans (same_back _)).1
    cases h1 : scan1 s x with
    | none =>
      rw [h1] at h
      exact scan_text k _ hb.next.skip rfl j y h
    | some z =>
      rw [h1] at h
      simp only at h
      subst h
      unfold scan1 at h1
      simp only at h1
      by_cases r1 : nextR s x.p = -1
      · rw [if_pos r1] at h1; injection h1 with h1; injection h1 with h1 _; cases h1
      rw [if_neg r1] at h1
      by_cases r2 : nextR s x.p = 123
      · rw [if_pos r2] at h1
        injection h1 with h1; injection h1 with h1 h2; injection h1 with h1
        subst h1 h2
        exact ⟨hb.next, fun e => absurd e (by decide)⟩
      rw [if_neg r2] at h1
      by_cases r3 : nextR s x.p = 125
      · rw [if_pos r3] at h1
        injection h1 with h1; injection h1 with h1 h2; injection h1 with h1
        subst h1 h2
        exact ⟨hb.next, fun e => absurd e (by decide)⟩
      rw [if_neg r3] at h1
      by_cases r4 : nextR s x.p = 44
      · rw [if_pos r4] at h1
        injection h1 with h1; injection h1 with h1 h2; injection h1 with h1
        subst h1 h2
        exact ⟨hb.next, fun e => absurd e (by decide)⟩
      rw [if_neg r4] at h1
      by_cases r5 : nextR s x.p = 61 ∨ nextR s x.p = 33
      · rw [if_pos r5] at h1
        injection h1 with h1; injection h1 with h1 h2
        cases ho : (opF s (backS (nextS s x))).1 with
        | none => rw [ho] at h1; cases h1
        | some i =>
          rw [ho] at h1
          have h1 : Sc.tok i = Sc.tok j := h1
          injection h1 with h1
          have := op_kinds ho
          subst h2
          exact ⟨hbk.op, fun e => by omega⟩
      rw [if_neg r5] at h1
      by_cases r6 : nextR s x.p = 34
      · rw [if_pos r6] at h1
        injection h1 with h1; injection h1 with h1 h2
        cases ho : (quoF s (backS (nextS s x))).1 with
        | none => rw [ho] at h1; cases h1
        | some i =>
          have := quo_kind ho
          subst this
          subst h2
          obtain ⟨t1, t2⟩ := quo_text hbk (by rw [hpb]; exact r6) (by rw [hpb, hsb]; exact hst) ho
          exact ⟨t1, fun _ => t2⟩
      rw [if_neg r6] at h1
      by_cases r7 : resR (nextR s x.p) = false
      · rw [if_pos r7] at h1
        injection h1 with h1; injection h1 with h1 h2; injection h1 with h1
        subst h1 h2
        exact ⟨Bd.word _ _ hbk, fun e => absurd e (by decide)⟩
      rw [if_neg r7] at h1
      by_cases r8 : Lib.isSpaceZ (nextR s x.p) = true
      · rw [if_pos r8] at h1; cases h1
      · rw [if_neg r8] at h1; injection h1 with h1; injection h1 with h1 _; cases h1
theorem TK.text {l : List (Int × ByteArray)} {ok : Bool} (t : TK s x l ok) : Bd s x → x.st = x.p → ∀ v, (8, v) ∈ l → ∃ b, v = mk (34 :: (b ++ [34])) ∧ okB b = true ∧ validD b = true := by
  induction t with
  | eof h => intro _ _ v hv; simp at hv
  | bad h => intro _ _ v hv; simp at hv
  | @tok x y k l ok h t ih =>
    intro hb hst v hv
    obtain ⟨h1, h2⟩ := scan_text _ x hb hst k y h
    rcases List.mem_cons.1 hv with e | e
    · injection e with e1 e2
      obtain ⟨b, h3, h4⟩ := h2 e1.symm
      exact ⟨b, by rw [e2]; exact h3, h4⟩
    · exact ih h1.emit rfl v e
end
def WR (t : Int × ByteArray) : Say ByteArray := if t.1 = 8 then (match wiL (t.2.data.toList.drop 1).dropLast with
  | none => .op
  | some o => .yes (mk o)) else if t.1 = 9 then .yes t.2 else .no
theorem fair_of {s : ByteArray} {l : List (Int × ByteArray)} {ok : Bool} (hs : s.size ≤ 4294967296) (hv : validD s.data.toList = true) (t : TK s lx0 l ok) : Fair WR l := by
  intro k v hm
  unfold WR
  simp only
  by_cases h8 : k = 8
  · subst h8
    obtain ⟨b, rfl, h1, h2⟩ := t.text ⟨lx0_good s hs, hv⟩ rfl v hm
    rw [if_pos rfl]
    have e : ((mk (34 :: (b ++ [34]))).data.toList.drop 1).dropLast = b := by
      show (b ++ [34]).dropLast = b
      simp
    rw [e]
    cases hw : wiL b with
    | none => exact Or.inl rfl
    | some o => exact ⟨Or.inl rfl, unqT_with b o h1 hw h2⟩
  · rw [if_neg h8]
    by_cases h9 : k = 9
    · rw [if_pos h9]
      exact ⟨Or.inr h9, by unfold unqT; rw [if_neg h8]⟩
    · rw [if_neg h9]
      simp only
      omega
theorem parF_say {s : ByteArray} {l : List (Int × ByteArray)} {ok : Bool} (hs : s.size ≤ 4294967296) (hv : validD s.data.toList = true) (t : TK s lx0 l ok) (k : Nat) (hk : l.length < k) :
    (ok = false → parF s = none) ∧ (ok = true → inS l = none → parF s = none) ∧ (ok = true → ∀ q, inS l = some q → (refL WR k q = .no → parF s = none) ∧ ∀ ms, refL WR k q = .yes ms → parF s = some ms) := by
  have hg := parF_gram hs t
  obtain ⟨h1, h2⟩ := say_gram WR k l hk (fair_of hs hv t)
  refine ⟨fun e => ?_, fun e hn => ?_, fun e q hq => ?_⟩
  · rw [hg, e]; exact gram_bad _ _ _
  · subst e; rw [hg]; exact h1 hn
  · subst e; rw [hg]; exact h2 q hq
end Go.Proofs.YtnnhehlieakedaaGreatDoor.Q
namespace Go.Proofs.YtnnhehlieakedaaGreatDoor.Q
open Go.RowKit Go.Lib Go.Proofs.YtnnhehlieakedaaGreatDoorW.PrintWords Go.Proofs.YtnnhehlieakedaaGreatDoorW.PrintLast Go.Proofs.YtnnhehlieakedaaGreatDoorW.PrintMore
--BODY
def tk2 (t : S61) : Int × ByteArray := (t.f0, t.f1)
def cvM (m : S25) : S28 := ⟨m.f0, m.f1, m.f2⟩
def zM : S28 := ⟨0, ByteArray.empty, ByteArray.empty⟩
def thR (l : List S61) : S28 × Int := match (ref3 WR (l.map tk2)).1 with
  | .no => (zM, 0)
  | .op => (zM, 2)
  | .yes m => (cvM m, 1)
def pmGo : Nat → List S61 → List S28 → Int → List S28 × Int
  | 0, _, _, _ => ([], 0)
  | k + 1, l, out, st => if l.length = 0 then (if st = 2 then ([], 2) else (out, 1)) else
    if (thR l).2 = 0 then ([], 0) else
    let st' := if (thR l).2 = 2 then 2 else st
    match l.drop 3 with
    | [] => if st' = 2 then ([], 2) else (out ++ [(thR l).1], 1)
    | u :: q => if u.f0 = 3 then pmGo k q (out ++ [(thR l).1]) st' else ([], 0)
theorem ref3_drop (W : Int × ByteArray → Say ByteArray) : ∀ (l : List (Int × ByteArray)), (ref3 W l).1 ≠ .no → 3 ≤ l.length ∧ (ref3 W l).2 = l.drop 3
  | [], h => absurd rfl h
  | [_], h => absurd rfl h
  | [_, _], h => absurd rfl h
  | _ :: _ :: _ :: r, _ => ⟨by simp, rfl⟩
theorem refL_fuel (W : Int × ByteArray → Say ByteArray) : ∀ (k k' : Nat) (q : List (Int × ByteArray)), q.length < k → q.length < k' → refL W k q = refL W k' q
  | 0, _, _, h, _ => absurd h (by omega)
  | _ + 1, 0, _, _, h => absurd h (by omega)
  | _ + 1, _ + 1, [], _, _ => rfl
  | k + 1, k' + 1, t :: ts, h, h' => by
    have e : ∀ k, refL W (k + 1) (t :: ts) = match ref3 W (t :: ts) with
      | (.no, _) => .no
      | (m, []) => Say.cons m (.yes [])
      | (m, (j, _) :: r) => if j = 3 then Say.cons m (refL W k r) else .no := fun _ => rfl
    have hd := ref3_drop W (t :: ts)
    rw [e, e]
    generalize ref3 W (t :: ts) = z at hd ⊢
    obtain ⟨z1, z2⟩ := z
    have hz : z1 ≠ .no → ∀ j r, z2 = j :: r → refL W k r = refL W k' r := fun hn j r hr => by
      obtain ⟨h3, h4⟩ := hd hn
      have := congrArg List.length (h4.symm.trans hr)
      simp only [List.length_drop, List.length_cons] at this h h'
      exact refL_fuel W k k' r (by omega) (by omega)
    cases z1 with
    | no => rfl
    | op =>
      cases z2 with
      | nil => rfl
      | cons j r => simp only [hz (by simp) j r rfl]
    | yes m =>
      cases z2 with
      | nil => rfl
      | cons j r => simp only [hz (by simp) j r rfl]
theorem thR_len {l : List S61} (h : (thR l).2 ≠ 0) : 3 ≤ l.length := by
  have := ref3_drop WR (l.map tk2)
  rw [List.length_map] at this
  refine (this fun e => ?_).1
  unfold thR at h
  rw [e] at h
  exact h rfl
theorem pmGo_ref : ∀ (k : Nat) (l : List S61) (out : List S28) (st : Int), l.length < k → (st = 1 ∨ st = 2) → pmGo k l out st = match refL WR k (l.map tk2) with
    | .no => ([], 0)
    | .op => ([], 2)
    | .yes ms => if st = 2 then ([], 2) else (out ++ ms.map cvM, 1)
  | 0, _, _, _, h, _ => absurd h (by omega)
  | k + 1, [], out, st, _, hst => by
    show (if st = 2 then ([], 2) else (out, 1)) = if st = 2 then ([], 2) else (out ++ [].map cvM, 1)
    simp
  | k + 1, t :: r, out, st, hk, hst => by
    have e : refL WR (k + 1) ((t :: r).map tk2) = match ref3 WR ((t :: r).map tk2) with
      | (.no, _) => .no
      | (m, []) => Say.cons m (.yes [])
      | (m, (j, _) :: r) => if j = 3 then Say.cons m (refL WR k r) else .no := rfl
    have hd := ref3_drop WR ((t :: r).map tk2)
    rw [e, pmGo, if_neg (by simp)]
    have hth : thR (t :: r) = match (ref3 WR ((t :: r).map tk2)).1 with
      | .no => (zM, 0)
      | .op => (zM, 2)
      | .yes m => (cvM m, 1) := rfl
    rw [hth]
    generalize ref3 WR ((t :: r).map tk2) = z at hd ⊢
    obtain ⟨z1, z2⟩ := z
    cases z1 with
    | no => rfl
    | op =>
      obtain ⟨h3, h4⟩ := hd (by simp)
      rw [← List.map_drop] at h4
      subst h4
      simp only [show ¬ ((2 : Int) = 0) by decide, if_true, if_false]
      cases hl : (t :: r).drop 3 with
      | nil => rfl
      | cons u q =>
        have hq : q.length < k := by
          have := congrArg List.length hl
          rw [List.length_drop, List.length_cons] at this
          simp at hk this
          omega
        show (if u.f0 = 3 then pmGo k q (out ++ [zM]) 2 else ([], 0)) = _
        simp only [List.map_cons, tk2]
        by_cases h : u.f0 = 3
        · rw [if_pos h, if_pos h, pmGo_ref k q _ 2 hq (Or.inr rfl)]
          cases refL WR k (q.map tk2) <;> rfl
        · rw [if_neg h, if_neg h]
    | yes m =>
      obtain ⟨h3, h4⟩ := hd (by simp)
      rw [← List.map_drop] at h4
      subst h4
      simp only [show ¬ ((1 : Int) = 0) by decide, show ¬ ((1 : Int) = 2) by decide, if_false]
      cases hl : (t :: r).drop 3 with
      | nil =>
        show (if st = 2 then ([], 2) else (out ++ [cvM m], 1)) = if st = 2 then ([], 2) else (out ++ [m].map cvM, 1)
        rfl
      | cons u q =>
        have hq : q.length < k := by
          have := congrArg List.length hl
          rw [List.length_drop, List.length_cons] at this
          simp at hk this
          omega
        show (if u.f0 = 3 then pmGo k q (out ++ [cvM m]) st else ([], 0)) = _
        simp only [List.map_cons, tk2]
        by_cases h : u.f0 = 3
        · rw [if_pos h, if_pos h, pmGo_ref k q _ st hq hst]
          cases refL WR k (q.map tk2) with
          | no => rfl
          | op => rfl
          | yes ms =>
            show (if st = 2 then ([], 2) else (out ++ [cvM m] ++ ms.map cvM, 1)) = if st = 2 then ([], 2) else (out ++ (m :: ms).map cvM, 1)
            simp
        · rw [if_neg h, if_neg h]
def inT (l : List S61) : Option (List S61) := match l with
  | [] => some []
  | t :: r => if t.f0 = 1 then (match r.getLast? with
      | some z => if z.f0 = 2 then some r.dropLast else none
      | none => none)
    else (match (t :: r).getLast? with
      | some z => if z.f0 = 2 then none else some (t :: r)
      | none => none)
theorem inT_S : ∀ l : List S61, inS (l.map tk2) = (inT l).map (·.map tk2)
  | [] => rfl
  | t :: r => by
    have e : inS ((t :: r).map tk2) = if t.f0 = 1 then (match (r.map tk2).getLast? with
        | some (j, _) => if j = 2 then some (r.map tk2).dropLast else none
        | none => none)
      else (match ((t :: r).map tk2).getLast? with
        | some (j, _) => if j = 2 then none else some ((t :: r).map tk2)
        | none => none) := rfl
    rw [e]
    unfold inT
    simp only
    by_cases h : t.f0 = 1
    · rw [if_pos h, if_pos h, List.getLast?_map]
      cases r.getLast? with
      | none => rfl
      | some z =>
        simp only [Option.map_some, tk2]
        by_cases h2 : z.f0 = 2
        · rw [if_pos h2, if_pos h2, Option.map_some, List.map_dropLast]
        · rw [if_neg h2, if_neg h2]; rfl
    · rw [if_neg h, if_neg h, List.getLast?_map]
      cases (t :: r).getLast? with
      | none => rfl
      | some z =>
        simp only [Option.map_some, tk2]
        by_cases h2 : z.f0 = 2
        · rw [if_pos h2, if_pos h2]; rfl
        · rw [if_neg h2, if_neg h2]; rfl
def oneL : Option (List S25) → Option S25
  | some [m] => some m
  | _ => none
def pmAll (r : List S61 × Int) : List S28 × Int := if r.2 = 1 then (match inT r.1 with
    | none => ([], 0)
    | some q => pmGo (q.length + 1) q [] 1) else ([], r.2)
def pmOne (r : List S61 × Int) : S28 × Int := if (pmAll r).2 = 1 then (match (pmAll r).1 with
    | [m] => if (r.1.head?.map (·.f0)) = some 1 then (zM, 2) else (m, 1)
    | _ => (zM, 0)) else (zM, (pmAll r).2)
open Classical in
noncomputable def spT (s : ByteArray) : List S61 × Int := if Ev (fun k => spec_Settled.f k s) true then ((toksF s (s.size + 2) lx0).1.map cvT, if (toksF s (s.size + 2) lx0).2 = true then 1 else 0) else ([], 2)
theorem lx0_gd (s : ByteArray) (h : s.size ≤ 4294967296) : LGd s lx0 := lx0_good s h
theorem Ev.uniq {α : Type} {F : Nat → Option α} {a b : α} (h : Ev F a) (h' : Ev F b) : a = b := by
  obtain ⟨n, hn⟩ := h
  obtain ⟨m, hm⟩ := h'
  have e1 := hn (max n m) (Nat.le_max_left _ _)
  have e2 := hm (max n m) (Nat.le_max_right _ _)
  rw [e1] at e2
  exact Option.some.inj e2
theorem spT_ev (s : ByteArray) (hs : s.size ≤ 20000) : Ev (fun k => spec_Tokens.f k s) (spT s) := by
  obtain ⟨l, rfl⟩ : ∃ l, s = mk l := ⟨s.data.toList, by cases s; rfl⟩
  have hz := mk_size l
  obtain ⟨b, hb, hset⟩ := settled_is l (by omega)
  unfold spT spec_Tokens.f
  cases b
  · rw [if_neg (fun h => by have := Ev.uniq hb h; cases this)]
    refine Ev.bind (G := fun k t => if t = true then spec_Tokens.l0 k (mk l) ([] : List S61) 0 else some (([] : List S61), 2)) hb ?_
    exact Ev.iteF (by decide) (Ev.const _)
  · rw [if_pos hb]
    have ht := toks_is l (hset rfl) (by omega) l.length 0 ((mk l).size + 1) ((mk l).size + 1) lx0 [] 0 (by omega) (Nat.le_refl _) (by omega) (by omega) (by omega) (Nat.le_refl _) (lx0_gd _ (by omega)) rfl rfl rfl rfl (.nil 0) (hset rfl).valid
    rw [← toksF_J, List.nil_append] at ht
    refine Ev.bind (G := fun k t => if t = true then spec_Tokens.l0 k (mk l) ([] : List S61) 0 else some (([] : List S61), 2)) hb ?_
    exact Ev.iteT rfl ht
theorem spT_known (s : ByteArray) (hs : s.size ≤ 20000) : (spT s).2 = 2 ∨ (∃ ok, TK s lx0 ((spT s).1.map tk2) ok ∧ validD s.data.toList = true ∧ (spT s).2 = if ok = true then 1 else 0) := by
  obtain ⟨l, rfl⟩ : ∃ l, s = mk l := ⟨s.data.toList, by cases s; rfl⟩
  have hz := mk_size l
  obtain ⟨b, hb, hset⟩ := settled_is l (by omega)
  unfold spT
  by_cases h : Ev (fun k => spec_Settled.f k (mk l)) true
  · rw [if_pos h]
    right
    have : b = true := Ev.uniq hb h
    have ht := toks_TK ((mk l).size + 2) lx0 (lx0_gd (mk l) (by omega)) (by show (mk l).size - (0 : Int).toNat < _; omega)
    refine ⟨_, ?_, (hset this).valid, rfl⟩
    rw [List.map_map]
    exact ht
  · rw [if_neg h]
    exact Or.inl rfl
theorem pmOne_say (s : ByteArray) (hs : s.size ≤ 20000) : ((pmOne (spT s)).2 = 0 → oneL (parF s) = none) ∧ ((pmOne (spT s)).2 = 1 → ∃ m, oneL (parF s) = some m ∧ (pmOne (spT s)).1 = cvM m) := by
  have key : ((pmAll (spT s)).2 = 0 → parF s = none) ∧ ((pmAll (spT s)).2 = 1 → ∃ ms, parF s = some ms ∧ (pmAll (spT s)).1 = ms.map cvM) := by
    rcases spT_known s hs with h | ⟨ok, ht, hv, h2⟩
    · have e : pmAll (spT s) = ([], 2) := by unfold pmAll; rw [if_neg (by rw [h]; decide), h]
      rw [e]
      exact ⟨fun h => absurd h (by decide), fun h => absurd h (by decide)⟩
    · have hp := parF_say (by omega) hv ht (((spT s).1.map tk2).length + 1) (by omega)
      cases ok with
      | false =>
        have e : pmAll (spT s) = ([], 0) := by unfold pmAll; rw [if_neg (by rw [h2]; decide), h2]; rfl
        rw [e]
        exact ⟨fun _ => hp.1 rfl, fun h => absurd h (by decide)⟩
      | true =>
        have e : pmAll (spT s) = match inT (spT s).1 with
          | none => ([], 0)
          | some q => pmGo (q.length + 1) q [] 1 := by unfold pmAll; rw [if_pos (by rw [h2]; rfl)]
        rw [e]
        have hi := inT_S (spT s).1
        cases hq : inT (spT s).1 with
        | none =>
          rw [hq] at hi
          exact ⟨fun _ => hp.2.1 rfl hi, fun h => absurd h (by decide)⟩
        | some q =>
          rw [hq] at hi
          have hp2 := (parF_say (by omega) hv ht (((spT s).1.map tk2).length + q.length + 1) (by omega)).2.2 rfl _ hi
          simp only
          have hg := pmGo_ref (((spT s).1.map tk2).length + q.length + 1) q [] 1 (by omega) (Or.inl rfl)
          have hf : pmGo (q.length + 1) q [] 1 = pmGo (((spT s).1.map tk2).length + q.length + 1) q [] 1 := by
            rw [hg, pmGo_ref (q.length + 1) q [] 1 (by omega) (Or.inl rfl), refL_fuel WR (q.length + 1) (((spT s).1.map tk2).length + q.length + 1) (q.map tk2) (by rw [List.length_map]; omega) (by rw [List.length_map]; omega)]
          rw [hf, hg]
          cases hr : refL WR (((spT s).1.map tk2).length + q.length + 1) (q.map tk2) with
          | no => exact ⟨fun _ => hp2.1 hr, fun h => absurd h (by decide)⟩
          | op => exact ⟨fun h => absurd h (by decide), fun h => absurd h (by decide)⟩
          | yes ms => exact ⟨fun h => absurd (show (1 : Int) = 0 from h) (by decide), fun _ => ⟨ms, hp2.2 ms hr, by simp⟩⟩
  obtain ⟨k0, k1⟩ := key
  unfold pmOne
  by_cases h1 : (pmAll (spT s)).2 = 1
  · obtain ⟨ms, e1, e2⟩ := k1 h1
    rw [if_pos h1, e2, e1]
    match ms with
    | [] => exact ⟨fun _ => rfl, fun h => absurd (show (0 : Int) = 1 from h) (by decide)⟩
    | [m] =>
      simp only [List.map_cons, List.map_nil]
      by_cases h : (spT s).1.head?.map (·.f0) = some 1
      · rw [if_pos h]; exact ⟨fun h => absurd h (by decide), fun h => absurd h (by decide)⟩
      · rw [if_neg h]; exact ⟨fun h => absurd (show (1 : Int) = 0 from h) (by decide), fun _ => ⟨m, rfl, rfl⟩⟩
    | m :: m2 :: l => exact ⟨fun _ => rfl, fun h => absurd (show (0 : Int) = 1 from h) (by decide)⟩
  · rw [if_neg h1]
    exact ⟨fun h => by rw [k0 h]; rfl, fun h => absurd h h1⟩
end Go.Proofs.YtnnhehlieakedaaGreatDoor.Q
namespace Go.Proofs.YtnnhehlieakedaaGreatDoor.Q
open Go.RowKit Go.Lib Go.Proofs.YtnnhehlieakedaaGreatDoorW.PrintWords Go.Proofs.YtnnhehlieakedaaGreatDoorW.PrintLast Go.Proofs.YtnnhehlieakedaaGreatDoorW.PrintMore
--BODY
theorem bt_midT (p : List UInt8) (c : UInt8) (t : List UInt8) : bt (mk (34 :: (p ++ (c :: t)))) ((p.length + 1 : Nat) : Int) = (c.toNat : Int) := by
  rw [bt_getD _ _ (by simp)]
  simp [List.getD_eq_getElem?_getD]
theorem w64T (n : Nat) (h : n ≤ 2000000) : wrap64 ((n : Int) + 1) = ((n + 1 : Nat) : Int) := by unfold wrap64; omega
def wiR (acc : List Int) : Option (List UInt8) → ByteArray × Int
  | none => (⟨#[]⟩, 2)
  | some o => (strOfNums (acc ++ o.map (fun c => (c.toNat : Int))), 1)
theorem wiR_cons (acc : List Int) (c : UInt8) (o : Option (List UInt8)) : wiR (acc ++ [(c.toNat : Int)]) o = wiR acc (o.map (c :: ·)) := by
  cases o with
  | none => rfl
  | some o => simp [wiR]
theorem win_end (X : ByteArray) (i : Nat) (acc : List Int) (hz : X.size = i + 1) (hi : i ≤ 2000000) : ∀ k, spec_within.l0 (k + 1) X acc (i : Int) = some (strOfNums acc, 1) := fun k => by
  have e : wrap64 ((X.size : Int) - 1) = (i : Int) := by rw [hz]; unfold wrap64; omega
  simp only [spec_within.l0]
  rw [e, if_neg (Int.lt_irrefl _)]
theorem win_step (X : ByteArray) (i : Nat) (acc : List Int) (c : UInt8) (hi : i + 1 < X.size) (hn : X.size ≤ 2000000) (hc : bt X (i : Int) = (c.toNat : Int)) :
    ∀ k, spec_within.l0 (k + 1) X acc (i : Int) = if (c.toNat : Int) < 32 then spec_within.j1 k X acc (i : Int) (c.toNat : Int) true else spec_within.j1 k X acc (i : Int) (c.toNat : Int) ((c.toNat : Int) == 127) := fun k => by
  have e : wrap64 ((X.size : Int) - 1) = (X.size : Int) - 1 := by clear hc; unfold wrap64; omega
  have h1 : (i : Int) < (X.size : Int) - 1 := by clear hc e; omega
  have h2 : (0 : Int) ≤ (i : Int) := by clear hc e h1; omega
  have h3 : (i : Int) < (X.size : Int) := by clear hc e h1; omega
  simp only [spec_within.l0]
  rw [e, hc, if_pos h1, if_pos h2, if_pos h3]
theorem win_plain (X : ByteArray) (i : Nat) (acc : List Int) (c : UInt8) (hi : i + 1 < X.size) (hn : X.size ≤ 2000000) (hc : bt X (i : Int) = (c.toNat : Int)) (h32 : ¬ c.toNat < 32) (h127 : c.toNat ≠ 127) (h92 : c ≠ 92) (ha : acc.length ≤ 1000000) :
    ∀ k, spec_within.l0 (k + 2) X acc (i : Int) = spec_within.l0 k X (acc ++ [(c.toNat : Int)]) ((i + 1 : Nat) : Int) := fun k => by
  have h92i : ¬ (c.toNat : Int) = 92 := fun e => h92 (UInt8.toNat_inj.1 (show c.toNat = 92 by clear hc; omega))
  have e1 : wrap64 ((i : Int) + 1) = ((i + 1 : Nat) : Int) := w64T i (by clear hc; omega)
  have h32i : ¬ (c.toNat : Int) < 32 := by clear hc; omega
  have h127b : ((c.toNat : Int) == 127) = false := beq_eq_false_iff_ne.2 (by clear hc; omega)
  have hl : acc.length < 140737488355328 := by clear hc; omega
  rw [win_step X i acc c hi hn hc, if_neg h32i, h127b]
  simp only [spec_within.j1]
  rw [if_neg (by decide), if_neg h92i, if_pos hl, e1]
theorem win_esc (X : ByteArray) (i : Nat) (acc : List Int) (d : UInt8) (hi : i + 2 < X.size) (hn : X.size ≤ 2000000) (hc : bt X (i : Int) = 92) (hd : bt X ((i + 1 : Nat) : Int) = (d.toNat : Int)) (ha : acc.length ≤ 1000000) :
    ∀ k, spec_within.l0 (k + 2) X acc (i : Int) = if (d.toNat : Int) = 110 then spec_within.l0 k X (acc ++ [10]) ((i + 2 : Nat) : Int) else if (d.toNat : Int) = 34 then spec_within.l0 k X (acc ++ [(d.toNat : Int)]) ((i + 2 : Nat) : Int) else if (d.toNat : Int) = 92 then spec_within.l0 k X (acc ++ [(d.toNat : Int)]) ((i + 2 : Nat) : Int) else some ((⟨#[]⟩ : ByteArray), 2) := fun k => by
  have e1 : wrap64 ((i : Int) + 1) = ((i + 1 : Nat) : Int) := w64T i (by clear hc hd; omega)
  have e2 : wrap64 (((i + 1 : Nat) : Int) + 1) = ((i + 2 : Nat) : Int) := w64T (i + 1) (by clear hc hd; omega)
  have hl : acc.length < 140737488355328 := by clear hc hd; omega
  have h1 : (0 : Int) ≤ ((i + 1 : Nat) : Int) := by clear hc hd e1 e2; omega
  have h2 : ((i + 1 : Nat) : Int) < (X.size : Int) := by clear hc hd e1 e2; omega
  rw [win_step X i acc 92 (by clear hc hd; omega) hn hc]
  rw [if_neg (by decide), show (((92 : UInt8).toNat : Int) == 127) = false by decide]
  simp only [spec_within.j1]
  rw [if_neg (by decide), if_pos (by decide), e1, e2, hd, if_pos h1, if_pos h2]
  simp only [if_pos hl]
theorem within_go : ∀ (n : Nat) (b p : List UInt8) (acc : List Int) (X : ByteArray), X = mk (34 :: (p ++ (b ++ [34]))) → b.length ≤ n → okB b = true → acc.length ≤ p.length → p.length + b.length ≤ 1000000 →
    Ev (fun k => spec_within.l0 k X acc ((p.length + 1 : Nat) : Int)) (wiR acc (wiL b)) := by
  have base : ∀ (p : List UInt8) (acc : List Int) (X : ByteArray), X = mk (34 :: (p ++ ([] ++ [34]))) → p.length ≤ 1000000 → Ev (fun k => spec_within.l0 k X acc ((p.length + 1 : Nat) : Int)) (wiR acc (wiL [])) := fun p acc X hX hp => by
    have hz : X.size = p.length + 1 + 1 := by rw [hX, mk_size]; simp
    refine Ev.now 1 (fun k => ?_)
    rw [win_end X (p.length + 1) acc hz (by omega)]
    simp [wiL, wiR]
  intro n
  induction n with
  | zero =>
    intro b p acc X hX hb _ ha hp
    obtain rfl : b = [] := List.eq_nil_of_length_eq_zero (by omega)
    exact base p acc X hX (by omega)
  | succ n ih =>
    intro b p acc X hX hb hok ha hp
    match b, hX, hb, hok, hp with
    | [], hX, _, _, hp => exact base p acc X hX (by omega)
    | c :: t, hX, hb, hok, hp =>
      rw [List.length_cons] at hb hp
      have hz : X.size = p.length + t.length + 3 := by rw [hX, mk_size]; simp; omega
      have HC := Aside0.mk (show bt X ((p.length + 1 : Nat) : Int) = (c.toNat : Int) by rw [hX]; exact bt_midT p c (t ++ [34]))
      have HX := Aside0.mk hX
      clear hX
      rw [wiL_cons]
      by_cases h32 : c.toNat < 32
      · rw [if_pos (Or.inl h32)]
        have h32i : (c.toNat : Int) < 32 := by omega
        refine Ev.now 2 (fun k => ?_)
        rw [win_step X (p.length + 1) acc c (by omega) (by omega) HC.out, if_pos h32i]
        simp only [spec_within.j1]
        rfl
      by_cases h127 : c.toNat = 127
      · rw [if_pos (Or.inr h127)]
        have h32i : ¬ (c.toNat : Int) < 32 := by omega
        have hb7 : ((c.toNat : Int) == 127) = true := by rw [h127]; rfl
        refine Ev.now 2 (fun k => ?_)
        rw [win_step X (p.length + 1) acc c (by omega) (by omega) HC.out, if_neg h32i, hb7]
        simp only [spec_within.j1]
        rfl
      rw [if_neg (by omega)]
      rw [okB_cons] at hok
      by_cases h34 : c = 34
      · rw [if_pos h34] at hok; cases hok
      rw [if_neg h34] at hok
      by_cases h92 : c = 92
      · rw [if_pos h92] at hok ⊢
        match t, hb, hok, hp, hz, HX with
        | [], _, hok, _, _, _ => cases hok
        | d :: t', hb, hok, hp, hz, HX =>
          rw [List.length_cons] at hb hp hz
          have HD := Aside0.mk (show bt X ((p.length + 1 + 1 : Nat) : Int) = (d.toNat : Int) by
            have e : 34 :: (p ++ ((c :: d :: t') ++ [34])) = 34 :: ((p ++ [c]) ++ (d :: (t' ++ [34]))) := by simp
            rw [HX.out, e]
            have := bt_midT (p ++ [c]) d (t' ++ [34])
            rw [List.length_append] at this
            exact this)
          have HC2 : Aside0 (bt X ((p.length + 1 : Nat) : Int) = 92) := ⟨by rw [HC.out, h92]; rfl⟩
          have HJ := Aside0.mk (win_esc X (p.length + 1) acc d (by omega) (by omega) HC2.out HD.out (by omega))
          have hrec : ∀ x : UInt8, Ev (fun k => spec_within.l0 k X (acc ++ [(x.toNat : Int)]) ((p.length + 1 + 2 : Nat) : Int)) (wiR acc ((wiL t').map (x :: ·))) := fun x => by
            have := ih t' (p ++ [c, d]) (acc ++ [(x.toNat : Int)]) X (by rw [HX.out]; congr 2; simp) (by omega) hok (by simp; omega) (by simp; omega)
            rw [wiR_cons, show (p ++ [c, d]).length + 1 = p.length + 1 + 2 by simp] at this
            exact this
          simp only
          by_cases d1 : d = 110
          · rw [if_pos d1]
            refine Ev.step (hrec 10) 2 (fun k => ?_)
            rw [HJ.out, if_pos (by rw [d1]; rfl)]
            rfl
          rw [if_neg d1]
          have d1' : ¬ (d.toNat : Int) = 110 := fun e => d1 (UInt8.toNat_inj.1 (show d.toNat = 110 by omega))
          by_cases d2 : d = 34
          · rw [if_pos (Or.inl d2)]
            refine Ev.step (hrec d) 2 (fun k => ?_)
            rw [HJ.out, if_neg d1', if_pos (by rw [d2]; rfl)]
          have d2' : ¬ (d.toNat : Int) = 34 := fun e => d2 (UInt8.toNat_inj.1 (show d.toNat = 34 by omega))
          by_cases d3 : d = 92
          · rw [if_pos (Or.inr d3)]
            refine Ev.step (hrec d) 2 (fun k => ?_)
            rw [HJ.out, if_neg d1', if_neg d2', if_pos (by rw [d3]; rfl)]
          have d3' : ¬ (d.toNat : Int) = 92 := fun e => d3 (UInt8.toNat_inj.1 (show d.toNat = 92 by omega))
          rw [if_neg (by intro h; rcases h with h | h; exact d2 h; exact d3 h)]
          refine Ev.now 2 (fun k => ?_)
          rw [HJ.out, if_neg d1', if_neg d2', if_neg d3']
          rfl
      · rw [if_neg h92] at hok ⊢
        have HJ := Aside0.mk (win_plain X (p.length + 1) acc c (by omega) (by omega) HC.out h32 h127 h92 (by omega))
        have hrec : Ev (fun k => spec_within.l0 k X (acc ++ [(c.toNat : Int)]) ((p.length + 1 + 1 : Nat) : Int)) (wiR acc ((wiL t).map (c :: ·))) := by
          have := ih t (p ++ [c]) (acc ++ [(c.toNat : Int)]) X (by rw [HX.out]; congr 2; simp) (by omega) hok (by simp; omega) (by simp; omega)
          rw [wiR_cons, show (p ++ [c]).length + 1 = p.length + 1 + 1 by simp] at this
          exact this
        exact Ev.step hrec 2 HJ.out
def Quoted (l : List S61) : Prop := ∀ t ∈ l, (t.f0 = 8 → ∃ b, t.f1 = mk (34 :: (b ++ [34])) ∧ okB b = true) ∧ t.f1.size ≤ 1000000
def sayR : Say ByteArray → ByteArray × Int
  | .no => (⟨#[]⟩, 0)
  | .op => (⟨#[]⟩, 2)
  | .yes x => (x, 1)
theorem word_is3 {l : List S61} (h : Quoted l) {t : S61} (ht : t ∈ l) : Ev (fun k => spec_word.f k t.f0 t.f1 t.f2 t.f3 t.f4 t.f5) (sayR (WR (tk2 t))) := by
  obtain ⟨h1, h2⟩ := h t ht
  unfold spec_word.f WR tk2
  simp only
  by_cases h8 : t.f0 = 8
  · obtain ⟨b, hb, hok⟩ := h1 h8
    simp only [if_pos h8]
    have hlen : b.length ≤ 1000000 := by
      rw [hb, mk_size] at h2
      simp at h2
      omega
    have hw := within_go b.length b [] [] _ rfl (Nat.le_refl _) hok (Nat.le_refl _) (by simpa using hlen)
    have e : ((t.f1.data.toList.drop 1).dropLast) = b := by
      rw [hb]
      show (b ++ [34]).dropLast = b
      simp
    rw [e]
    refine Ev.bind (G := fun _ (bt : ByteArray × Int) => some (bt.1, bt.2)) (a := wiR [] (wiL b)) ?_ ?_
    · show Ev (fun k => spec_within.f k t.f1) _
      unfold spec_within.f
      rw [hb]
      exact hw
    · cases hq : wiL b with
      | none => exact Ev.const _
      | some o =>
        refine Ev.eq (Ev.const _) ?_
        show (strOfNums ([] ++ o.map (fun c => (c.toNat : Int))), (1 : Int)) = (mk o, 1)
        congr 1
        unfold strOfNums mk
        congr 1
        simp [List.map_map, Function.comp_def]
  · simp only [if_neg h8]
    by_cases h9 : t.f0 = 9
    · simp only [if_pos h9]
      exact Ev.const _
    · simp only [if_neg h9]
      exact Ev.const _
def thV (r : S28 × Int) : Int × ByteArray × ByteArray × Int := (r.1.f0, r.1.f1, r.1.f2, r.2)
theorem three_is {l : List S61} (h : Quoted l) : Ev (fun k => spec_three.f k l) (thV (thR l)) := by
  have no : ∀ (F : Nat → Option (Int × ByteArray × ByteArray × Int)), (∀ k, F (k + 1) = some (0, (⟨#[]⟩ : ByteArray), (⟨#[]⟩ : ByteArray), 0)) → (ref3 WR (l.map tk2)).1 = .no → Ev F (thV (thR l)) := fun F hF hn => by
    refine Ev.now 1 (fun k => ?_)
    rw [hF]
    unfold thR
    rw [hn]
    rfl
  unfold spec_three.f
  match l, h, no with
  | [], _, no => exact no _ (fun k => rfl) rfl
  | [_], _, no => exact no _ (fun k => rfl) rfl
  | [_, _], _, no => exact no _ (fun k => rfl) rfl
  | a :: o :: b :: r, h, no =>
    have hlen : ((a :: o :: b :: r).length : Int) = (r.length : Int) + 3 := by simp; omega
    refine Ev.iteF (by rw [hlen]; omega) (Ev.iteT (by rw [hlen]; omega) ?_)
    have r0 : rd_T61 (a :: o :: b :: r) 0 = a := rfl
    have r1 : rd_T61 (a :: o :: b :: r) 1 = o := rfl
    have r2 : rd_T61 (a :: o :: b :: r) 2 = b := rfl
    rw [r1]
    have e3 : (ref3 WR ((a :: o :: b :: r).map tk2)).1 = (if o.f0 < 4 ∨ o.f0 > 7 then .no else match WR (tk2 a), WR (tk2 b) with
      | .no, _ => .no
      | _, .no => .no
      | .op, _ => .op
      | _, .op => .op
      | .yes n, .yes v => if n.size = 0 then .op else .yes ⟨o.f0 - 4, n, v⟩) := rfl
    by_cases h4 : o.f0 < 4
    · refine Ev.iteT h4 (no _ (fun k => rfl) ?_)
      rw [e3, if_pos (Or.inl h4)]
    refine Ev.iteF h4 ?_
    by_cases h7 : o.f0 > 7
    · rw [decide_eq_true h7]
      refine no _ (fun k => rfl) ?_
      rw [e3, if_pos (Or.inr h7)]
    rw [decide_eq_false h7]
    rw [if_neg (by omega)] at e3
    have wa := word_is3 h (t := a) (by simp)
    have wb := word_is3 h (t := b) (by simp)
    have hd : ∀ k, spec_three.j0 (k + 1) (a :: o :: b :: r) false = ((spec_word.f k a.f0 a.f1 a.f2 a.f3 a.f4 a.f5).bind fun bt155 => ((spec_word.f k b.f0 b.f1 b.f2 b.f3 b.f4 b.f5).bind fun bt158 => (if bt155.2 = 0 then (spec_three.j1 k (a :: o :: b :: r) bt155.1 bt155.2 bt158.1 bt158.2 true) else (spec_three.j1 k (a :: o :: b :: r) bt155.1 bt155.2 bt158.1 bt158.2 (bt158.2 == 0))))) := fun k => by
      simp only [spec_three.j0]
      rw [if_neg (by decide), r0, r2, if_pos (by rw [hlen]; omega)]
      simp only [if_pos (show 2 < ((a :: o :: b :: r).length : Int) by rw [hlen]; omega)]
    refine Ev.step (Ev.bind (G := fun k (bt155 : ByteArray × Int) => ((spec_word.f k b.f0 b.f1 b.f2 b.f3 b.f4 b.f5).bind fun bt158 => (if bt155.2 = 0 then (spec_three.j1 k (a :: o :: b :: r) bt155.1 bt155.2 bt158.1 bt158.2 true) else (spec_three.j1 k (a :: o :: b :: r) bt155.1 bt155.2 bt158.1 bt158.2 (bt158.2 == 0))))) wa ?_) 1 hd
    refine Ev.bind (G := fun k (bt158 : ByteArray × Int) => (if (sayR (WR (tk2 a))).2 = 0 then (spec_three.j1 k (a :: o :: b :: r) (sayR (WR (tk2 a))).1 (sayR (WR (tk2 a))).2 bt158.1 bt158.2 true) else (spec_three.j1 k (a :: o :: b :: r) (sayR (WR (tk2 a))).1 (sayR (WR (tk2 a))).2 bt158.1 bt158.2 (bt158.2 == 0)))) wb ?_
    refine Ev.now 1 (fun k => ?_)
    unfold thR
    rw [e3]
    have hr : rd_T61 (a :: o :: b :: r) 1 = o := rfl
    have hw : wrap64 (o.f0 - 4) = o.f0 - 4 := by unfold wrap64; omega
    cases WR (tk2 a) with
    | no => rfl
    | op =>
      cases WR (tk2 b) with
      | no => rfl
      | op => rfl
      | yes v => rfl
    | yes n =>
      cases WR (tk2 b) with
      | no => rfl
      | op => rfl
      | yes v =>
        show (spec_three.j1 (k + 1) (a :: o :: b :: r) n 1 v 1 false) = _
        simp only [spec_three.j1]
        rw [if_neg (by decide), if_neg (by decide), if_neg (by decide)]
        have hl : n.toList.length = n.size := by rw [ByteArray.toList_eq]; rfl
        by_cases hn : n.size = 0
        · have hn' : n.toList = ([] : List UInt8) := List.eq_nil_of_length_eq_zero (by rw [hl]; exact hn)
          rw [if_pos hn', if_pos hn]
          rfl
        · have hn' : ¬ n.toList = ([] : List UInt8) := fun e => hn (by rw [← hl, e]; rfl)
          rw [if_neg hn', if_neg hn, hr, hw, if_pos (by rw [hlen]; omega)]
          rfl
theorem toks_sizeT (s : ByteArray) : ∀ (n : Nat) (x : LSt), ∀ t ∈ (toksF s n x).1, t.f1.size ≤ s.size
  | 0, _, t, h => by cases h
  | n + 1, x, t, h => by
    unfold toksF at h
    split at h
    · cases h
    · cases h
    · rcases List.mem_cons.1 h with e | h
      · rw [e]
        unfold tokD
        rw [ByteArray.size_extract]
        omega
      · exact toks_sizeT s n _ t h
theorem toks_lenU (s : ByteArray) : ∀ (n : Nat) (x : LSt), (toksF s n x).1.length ≤ n
  | 0, _ => Nat.le_refl _
  | n + 1, x => by
    unfold toksF
    split
    · exact Nat.zero_le _
    · exact Nat.zero_le _
    · exact Nat.succ_le_succ (toks_lenU s n _)
theorem spT_len (s : ByteArray) : (spT s).1.length ≤ s.size + 2 := by
  unfold spT
  split
  · rw [List.length_map]; exact toks_lenU s _ _
  · exact Nat.zero_le _
theorem spT_quoted (s : ByteArray) (hs : s.size ≤ 20000) : Quoted (spT s).1 := by
  rcases spT_known s hs with h | ⟨ok, ht, hv, h2⟩
  · intro t ht
    exfalso
    unfold spT at h ht
    split at h
    · simp only at h
      split at h <;> exact absurd h (by decide)
    · rename_i hn
      rw [if_neg hn] at ht
      cases ht
  · intro t hm
    refine ⟨fun h8 => ?_, ?_⟩
    · have hb : Bd s lx0 := ⟨lx0_good s (by omega), hv⟩
      obtain ⟨b, h1, h3, _⟩ := ht.text hb rfl t.f1 (List.mem_map.2 ⟨t, hm, by unfold tk2; rw [h8]⟩)
      exact ⟨b, h1, h3⟩
    · unfold spT at hm
      split at hm
      · obtain ⟨t2, h1, rfl⟩ := List.mem_map.1 hm
        have := toks_sizeT s _ _ t2 h1
        show t2.f1.size ≤ _
        omega
      · cases hm
theorem Quoted.sub {l q : List S61} (h : Quoted l) (hs : ∀ t ∈ q, t ∈ l) : Quoted q := fun t ht => h t (hs t ht)
theorem three_all : ∀ (l : List S61), Quoted l → ∃ K, ∀ k, K ≤ k → ∀ p q, l = p ++ q → spec_three.f k q = some (thV (thR q))
  | [], h => by
    obtain ⟨K, hK⟩ := three_is h
    refine ⟨K, fun k hk p q e => ?_⟩
    have : q = [] := (List.append_eq_nil_iff.1 e.symm).2
    subst this
    exact hK k hk
  | a :: l, h => by
    obtain ⟨K, hK⟩ := three_is h
    obtain ⟨K2, hK2⟩ := three_all l (h.sub fun t ht => List.mem_cons_of_mem _ ht)
    refine ⟨max K K2, fun k hk p q e => ?_⟩
    cases p with
    | nil =>
      have : q = a :: l := e.symm
      subst this
      exact hK k (by omega)
    | cons b p =>
      have : l = p ++ q := by injection e
      exact hK2 k (by omega) p q this
theorem inT_sub {l q : List S61} (h : inT l = some q) : ∀ t ∈ q, t ∈ l := by
  unfold inT at h
  split at h
  · obtain rfl := Option.some.inj h; exact fun t ht => ht
  · split at h
    · split at h
      · split at h
        · obtain rfl := Option.some.inj h
          exact fun t ht => List.mem_cons_of_mem _ (List.dropLast_subset _ ht)
        · cases h
      · cases h
    · split at h
      · split at h
        · cases h
        · obtain rfl := Option.some.inj h; exact fun t ht => ht
      · cases h
theorem pmAll_nil (is : Int) : (pmAll ([], is)).1 = [] := by
  unfold pmAll
  split
  · rfl
  · rfl
end Go.Proofs.YtnnhehlieakedaaGreatDoor.Q
