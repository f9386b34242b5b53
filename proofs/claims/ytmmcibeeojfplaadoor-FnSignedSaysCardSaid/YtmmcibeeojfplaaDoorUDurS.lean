/- The reference's reading of a duration and the program's say the same, as far as the reference says something. Condition: a text of at most 65536 bytes. -/
import Derived.Test.YtmmcibeeojfplaaDoorUDur
import Derived.Test.YtmmcibeeojfplaaDoorQspecReadDuration
set_option linter.unusedVariables false
set_option linter.unusedSimpArgs false
namespace Go.Proofs.YtmmcibeeojfplaaDoor.Q
open Go.RowKit Go.Proofs.YtmmcibeeojfplaaDoorW.PrintWords Go.Proofs.YtmmcibeeojfplaaDoorW.PrintLast Go.Proofs.YtmmcibeeojfplaaDoorW.PrintMore
/-- From some number of rounds on. -/
def Ev {α : Type} (F : Nat → Option α) (r : α) : Prop := ∃ K, ∀ k, K ≤ k → F k = some r
theorem Ev.step {α : Type} {F G : Nat → Option α} {r : α} (h : Ev G r) (n : Nat) (e : ∀ k, F (k + n) = G k) : Ev F r := by
  obtain ⟨K, hK⟩ := h
  refine ⟨K + n, fun k hk => ?_⟩
  obtain ⟨j, rfl⟩ : ∃ j, k = j + n := ⟨k - n, by omega⟩
  rw [e]
  exact hK j (by omega)
theorem Ev.now {α : Type} {F : Nat → Option α} {r : α} (n : Nat) (e : ∀ k, F (k + n) = some r) : Ev F r :=
  ⟨n, fun k hk => by obtain ⟨j, rfl⟩ : ∃ j, k = j + n := ⟨k - n, by omega⟩; exact e j⟩
theorem bt_is (s : ByteArray) (i : Nat) (h : i < s.data.toList.length) : bt s (i : Int) = (s.data.toList[i].toNat : Int) := by
  unfold bt
  rw [dif_pos (by simpa using h)]
  rfl
theorem ex_drop (s : ByteArray) (i : Nat) : (s.extract i s.size).data.toList = s.data.toList.drop i := by
  rw [ByteArray.data_extract, Array.toList_extract]
  simp only [List.extract_eq_take_drop]
  rw [List.take_of_length_le]
  rw [List.length_drop, Array.length_toList]
  exact Nat.le_refl _
theorem len_is (s : ByteArray) : s.data.toList.length = s.size := Array.length_toList
def dg (c : UInt8) : Nat := c.toNat - 48
def dval (acc : Nat) (l : List UInt8) : Nat := l.foldl (fun a c => 10 * a + dg c) acc
theorem dval_nil (acc : Nat) : dval acc [] = acc := rfl
theorem dval_cons (acc : Nat) (c : UInt8) (l : List UInt8) : dval acc (c :: l) = dval (10 * acc + dg c) l := by simp only [dval, List.foldl_cons]
theorem dval_snoc (c : UInt8) (l : List UInt8) (acc : Nat) : dval acc (l ++ [c]) = 10 * dval acc l + dg c := by
  unfold dval
  rw [List.foldl_append]
  rfl
theorem dig_rng {c : UInt8} (h : isDig c = true) : 48 ≤ c.toNat ∧ c.toNat ≤ 57 := by simp [isDig, isDigI] at h; omega
theorem dg_le {c : UInt8} (h : isDig c = true) : dg c ≤ 9 := by have := dig_rng h; unfold dg; omega
theorem pow_step (acc n : Nat) : (acc + 1) * 10 ^ (n + 1) = (10 * acc + 10) * 10 ^ n := by
  rw [Nat.pow_succ, Nat.mul_comm (10 ^ n) 10, ← Nat.mul_assoc]
  have : (acc + 1) * 10 = 10 * acc + 10 := by omega
  rw [this]
theorem dval_bd : ∀ (l : List UInt8) (acc : Nat), (∀ c ∈ l, isDig c = true) → dval acc l < (acc + 1) * 10 ^ l.length
  | [], acc, _ => by rw [dval_nil, List.length_nil, Nat.pow_zero]; omega
  | c :: l, acc, h => by
    have hc2 := dg_le (h c (by simp))
    have ih := dval_bd l (10 * acc + dg c) (fun d hd => h d (by simp [hd]))
    rw [dval_cons, List.length_cons, pow_step]
    have hle : (10 * acc + dg c + 1) * 10 ^ l.length ≤ (10 * acc + 10) * 10 ^ l.length := Nat.mul_le_mul_right _ (by omega)
    exact Nat.lt_of_lt_of_le ih hle
theorem uint_ok (M : Nat) : ∀ (l : List UInt8) (acc : Nat), (∀ c ∈ l, isDig c = true) → (acc + 1) * 10 ^ l.length ≤ 1000000000000000000 → 1000000000000000000 ≤ M → Lib.parseUintM M acc l = .ok (dval acc l)
  | [], acc, _, _, _ => by rw [dval_nil]; rfl
  | c :: l, acc, h, hb, hM => by
    have hc2 := dig_rng (h c (by simp))
    have hc3 := dg_le (h c (by simp))
    rw [List.length_cons, pow_step] at hb
    have h1 : 10 * acc + 10 ≤ 1000000000000000000 := Nat.le_trans (Nat.le_mul_of_pos_right _ (Nat.pow_pos (by omega))) hb
    have hle : (10 * acc + dg c + 1) * 10 ^ l.length ≤ (10 * acc + 10) * 10 ^ l.length := Nat.mul_le_mul_right _ (by omega)
    have e : acc * 10 + (c.toNat - 48) = 10 * acc + dg c := by unfold dg; omega
    simp only [Lib.parseUintM, if_pos hc2, e]
    rw [dval_cons, if_neg (by omega), if_neg (by omega)]
    exact uint_ok M l _ (fun d hd => h d (by simp [hd])) (Nat.le_trans hle hb) hM
theorem uint_span_ok (l : List UInt8) (h : spanN isDig l ≠ 0) (h2 : spanN isDig l ≤ 18) : Lib.parseUintB 64 (l.take (spanN isDig l)) = .ok (dval 0 (l.take (spanN isDig l))) := by
  have hl := spanN_le isDig l
  unfold Lib.parseUintB
  rw [if_neg]
  · refine uint_ok _ _ _ (take_span_all isDig l) ?_ (by decide)
    rw [List.length_take, Nat.min_eq_left hl, Nat.zero_add, Nat.one_mul]
    exact Nat.le_trans (Nat.pow_le_pow_right (by omega) h2) (by decide)
  · intro e
    have := congrArg List.length e
    rw [List.length_take, List.length_nil] at this
    omega
theorem dval_span (l : List UInt8) (h : spanN isDig l ≤ 18) : dval 0 (l.take (spanN isDig l)) < 1000000000000000000 := by
  have := dval_bd (l.take (spanN isDig l)) 0 (take_span_all isDig l)
  rw [List.length_take, Nat.min_eq_left (spanN_le isDig l)] at this
  refine Nat.lt_of_lt_of_le this ?_
  rw [Nat.zero_add, Nat.one_mul]
  exact Nat.le_trans (Nat.pow_le_pow_right (by omega) h) (by decide)
/-- What the reference's loop over digits has read of them: of eighteen at most. -/
def decI (l : List UInt8) (i : Nat) : Nat := dval 0 (l.take (min i 18))
theorem decI_bd (l : List UInt8) (i : Nat) (h : i ≤ spanN isDig l) : decI l i < 1000000000000000000 := by
  unfold decI
  have hl := spanN_le isDig l
  have := dval_bd (l.take (min i 18)) 0 (fun c hc => by
    obtain ⟨k, hk, rfl⟩ := List.getElem_of_mem hc
    rw [List.getElem_take]
    rw [List.length_take] at hk
    exact spanN_lt isDig l k (by omega))
  refine Nat.lt_of_lt_of_le this ?_
  rw [Nat.zero_add, Nat.one_mul, List.length_take]
  exact Nat.le_trans (Nat.pow_le_pow_right (n := 10) (by omega) (show min (min i 18) l.length ≤ 18 by omega)) (by decide)
theorem decI_bd17 (l : List UInt8) (i : Nat) (h : i ≤ spanN isDig l) (h2 : i < 18) : decI l i < 100000000000000000 := by
  unfold decI
  have hl := spanN_le isDig l
  have := dval_bd (l.take (min i 18)) 0 (fun c hc => by
    obtain ⟨k, hk, rfl⟩ := List.getElem_of_mem hc
    rw [List.getElem_take]
    rw [List.length_take] at hk
    exact spanN_lt isDig l k (by omega))
  refine Nat.lt_of_lt_of_le this ?_
  rw [Nat.zero_add, Nat.one_mul, List.length_take]
  exact Nat.le_trans (Nat.pow_le_pow_right (n := 10) (by omega) (show min (min i 18) l.length ≤ 17 by omega)) (by decide)
theorem w_dig (f : Nat) (c : UInt8) (h1 : f < 100000000000000000) (h2 : 48 ≤ (c.toNat : Int)) (h3 : (c.toNat : Int) ≤ 57) : wrap64 (wrap64 (10 * (f : Int)) + (((c.toNat : Int) - 48) % 256)) = ((10 * f + dg c : Nat) : Int) := by
  have e : ((10 * f + dg c : Nat) : Int) = 10 * (f : Int) + ((c.toNat : Int) - 48) := by unfold dg; omega
  rw [e]
  generalize (c.toNat : Int) = b at *
  unfold wrap64
  omega
theorem digits_run (x0 : ByteArray) (x4 x5 x6 : Int) (hs : x0.size ≤ 65536) : ∀ (d i : Nat), i + d = spanN isDig x0.data.toList → ∀ k,
    spec_ReadDuration.l1 (k + (2 * d + 1)) x0 x4 x5 x6 (decI x0.data.toList i : Int) (i : Int) = spec_ReadDuration.j2 k x0 x4 x5 x6 (decI x0.data.toList (spanN isDig x0.data.toList) : Int) (spanN isDig x0.data.toList : Int) false
  | 0, i, h, k => by
    have hi : i = spanN isDig x0.data.toList := by omega
    have hl := spanN_le isDig x0.data.toList
    rw [len_is] at hl
    show spec_ReadDuration.l1 (k + 1) _ _ _ _ _ _ = _
    simp only [spec_ReadDuration.l1]
    by_cases hz : i < x0.size
    · have hz2 : i < x0.data.toList.length := by rw [len_is]; exact hz
      have hb := bt_is x0 i hz2
      have hn : isDig x0.data.toList[i] = false := by
        have := spanN_at isDig x0.data.toList (by omega)
        subst hi
        exact this
      unfold isDig isDigI at hn
      rw [← hb] at hn
      rw [if_pos (by omega), if_pos (by omega)]
      subst hi
      by_cases h48 : bt x0 (spanN isDig x0.data.toList : Int) ≥ 48
      · rw [if_pos h48]
        have : decide (bt x0 (spanN isDig x0.data.toList : Int) ≤ 57) = false := by
          simp at hn ⊢
          exact hn h48
        rw [this]
      · rw [if_neg h48]
    · rw [if_neg (by omega)]
      subst hi
      rfl
  | d + 1, i, h, k => by
    have hl := spanN_le isDig x0.data.toList
    have hli := hl
    rw [len_is] at hl
    have hlt : i < spanN isDig x0.data.toList := by omega
    have hz2 : i < x0.data.toList.length := by omega
    have hb := bt_is x0 i hz2
    have hn := spanN_lt isDig x0.data.toList i hlt
    have hn2 : 48 ≤ bt x0 (i : Int) ∧ bt x0 (i : Int) ≤ 57 := by
      unfold isDig isDigI at hn
      rw [← hb] at hn
      simp at hn
      exact hn
    have hbd := decI_bd x0.data.toList i (by omega)
    have ih := digits_run x0 x4 x5 x6 hs d (i + 1) (by omega) k
    have e : k + (2 * (d + 1) + 1) = (k + (2 * d + 1)) + 1 + 1 := by omega
    rw [e]
    simp only [spec_ReadDuration.l1]
    rw [if_pos (by omega), if_pos (by omega), if_pos (by omega), show decide (bt x0 (i : Int) ≤ 57) = true from decide_eq_true hn2.2]
    simp only [spec_ReadDuration.j2]
    rw [if_pos trivial]
    have ew : wrap64 ((i : Int) + 1) = ((i + 1 : Nat) : Int) := by unfold wrap64; omega
    rw [ew]
    by_cases h18 : i < 18
    · rw [if_pos (by omega), if_pos (by omega), if_pos (by omega)]
      have ev : wrap64 ((wrap64 (10 * (decI x0.data.toList i : Int))) + (((bt x0 (i : Int)) - 48) % 256)) = (decI x0.data.toList (i + 1) : Int) := by
        have e1 : decI x0.data.toList (i + 1) = 10 * decI x0.data.toList i + dg x0.data.toList[i] := by
          unfold decI
          rw [Nat.min_eq_left (by omega), Nat.min_eq_left (by omega), List.take_succ_eq_append_getElem hz2, dval_snoc]
        have hbd17 := decI_bd17 x0.data.toList i (by omega) h18
        rw [e1, hb]
        rw [hb] at hn2
        exact w_dig _ _ hbd17 hn2.1 hn2.2
      rw [ev]
      exact ih
    · rw [if_neg (by omega)]
      have ev : decI x0.data.toList i = decI x0.data.toList (i + 1) := by unfold decI; rw [Nat.min_eq_right (by omega), Nat.min_eq_right (by omega)]
      rw [ev]
      exact ih
def unitS : List UInt8 → Int × Int × Int
  | [] => (-1, 0, 0)
  | c :: r => if c = 121 then (0, 1, 31536000000000000) else if c = 119 then (1, 1, 604800000000000) else if c = 100 then (2, 1, 86400000000000) else if c = 104 then (3, 1, 3600000000000)
    else if c = 109 then (if r.head? = some 115 then (6, 2, 1000000) else (4, 1, 60000000000)) else if c = 115 then (5, 1, 1000000000) else (-1, 0, 0)
theorem u8_eq (c : UInt8) (n : Nat) (h : n < 256) : ((c.toNat : Int) = (n : Int)) = (c = UInt8.ofNat n) := by
  apply propext
  constructor
  · intro e
    apply UInt8.toNat_inj.1
    rw [UInt8.toNat_ofNat']
    omega
  · rintro rfl
    rw [UInt8.toNat_ofNat']
    omega
theorem unitOf_is (s : ByteArray) : spec_unitOf.f s = some (unitS s.data.toList) := by
  unfold spec_unitOf.f
  cases hl : s.data.toList with
  | nil =>
    have h0 : s.size = 0 := by rw [← len_is, hl]; rfl
    rw [if_pos (by omega)]
    rfl
  | cons c r =>
    have h0 : s.size = r.length + 1 := by rw [← len_is, hl]; rfl
    have b0 : bt s 0 = (c.toNat : Int) := by
      have := bt_is s 0 (by rw [hl]; simp)
      simp only [hl] at this
      exact this
    rw [if_neg (by omega), if_pos (by omega)]
    simp only [b0]
    have q : ∀ (n : Nat) (d : UInt8), d.toNat = n → ((c.toNat : Int) = (n : Int)) = (c = d) := fun n d e => propext ⟨fun h => UInt8.toNat_inj.1 (by omega), fun h => by rw [h, e]⟩
    have q1 : ((c.toNat : Int) = 121) = (c = 121) := q 121 121 rfl
    have q2 : ((c.toNat : Int) = 119) = (c = 119) := q 119 119 rfl
    have q3 : ((c.toNat : Int) = 100) = (c = 100) := q 100 100 rfl
    have q4 : ((c.toNat : Int) = 104) = (c = 104) := q 104 104 rfl
    have q5 : ((c.toNat : Int) = 109) = (c = 109) := q 109 109 rfl
    have q6 : ((c.toNat : Int) = 115) = (c = 115) := q 115 115 rfl
    simp only [q1, q2, q3, q4, q5, q6, unitS]
    by_cases e1 : c = 121
    · rw [if_pos e1, if_pos e1]
    rw [if_neg e1, if_neg e1]
    by_cases e2 : c = 119
    · rw [if_pos e2, if_pos e2]
    rw [if_neg e2, if_neg e2]
    by_cases e3 : c = 100
    · rw [if_pos e3, if_pos e3]
    rw [if_neg e3, if_neg e3]
    by_cases e4 : c = 104
    · rw [if_pos e4, if_pos e4]
    rw [if_neg e4, if_neg e4]
    by_cases e5 : c = 109
    · rw [if_pos e5, if_pos e5]
      cases r with
      | nil =>
        have h1 : s.size = 1 := by rw [h0]; rfl
        rw [if_neg (by omega)]
        rfl
      | cons d r' =>
        have b1 : bt s 1 = (d.toNat : Int) := by
          have := bt_is s 1 (by rw [hl]; simp)
          simp only [hl] at this
          exact this
        have h2 : s.size = r'.length + 2 := by rw [h0]; simp
        rw [if_pos (by omega), if_pos (by omega), b1]
        have q7 : ((d.toNat : Int) = 115) = (d = 115) := propext ⟨fun h => UInt8.toNat_inj.1 (by show d.toNat = 115; omega), fun h => by rw [h]; rfl⟩
        simp only [q7, List.head?_cons, Option.some.injEq]
        by_cases e7 : d = 115
        · rw [if_pos e7, if_pos e7]
        · rw [if_neg e7, if_neg e7]
    rw [if_neg e5, if_neg e5]
    by_cases e6 : c = 115
    · rw [if_pos e6, if_pos e6]
    rw [if_neg e6, if_neg e6]
/-- A unit that the reference reads at the head of a text that begins with no digit, and the program's. -/
theorem unit_rel (r : List UInt8) (hr : spanN isDig r = 0) :
    ((unitS r).1 = -1 ∧ (spanN (fun c => !isDig c) r = 0 ∨ unitT (r.take (spanN (fun c => !isDig c) r)) = none)) ∨
    (∃ (pos : Int) (sz mult : Nat), unitS r = (pos, (sz : Int), (mult : Int)) ∧ 0 ≤ pos ∧ pos ≤ 6 ∧ 0 < sz ∧ sz ≤ 2 ∧ 0 < mult ∧ mult ≤ 31536000000000000 ∧ sz ≤ spanN (fun c => !isDig c) r ∧
      ((sz = spanN (fun c => !isDig c) r ∧ unitT (r.take (spanN (fun c => !isDig c) r)) = some (pos + 1, mult)) ∨
       (sz < spanN (fun c => !isDig c) r ∧ unitT (r.take (spanN (fun c => !isDig c) r)) = none ∧ spanN isDig (r.drop sz) = 0 ∧ r.drop sz ≠ []))) := by
  cases r with
  | nil => exact Or.inl ⟨rfl, Or.inl rfl⟩
  | cons c r =>
    have hc : isDig c = false := by
      rw [spanN_cons] at hr
      by_cases h : isDig c = true
      · rw [if_pos h] at hr; omega
      · simpa using h
    have hs : spanN (fun c => !isDig c) (c :: r) = spanN (fun c => !isDig c) r + 1 := by rw [spanN_cons, if_pos (by rw [hc]; rfl)]
    have hle := spanN_le (fun c => !isDig c) r
    -- what a span longer than one byte says of a unit of one byte
    have two : ∀ (u : List UInt8), spanN (fun c => !isDig c) r ≠ 0 → u.length = 1 → (c :: r).take (spanN (fun c => !isDig c) (c :: r)) ≠ u := fun u h0 hu e => by
      have := congrArg List.length e
      rw [List.length_take, hs, List.length_cons, hu] at this
      omega
    have head : ∀ (d : UInt8) (u : List UInt8), c ≠ d → (c :: r).take (spanN (fun c => !isDig c) (c :: r)) ≠ d :: u := fun d u hd e => by
      rw [hs, List.take_succ_cons] at e
      injection e with e1 e2
      exact hd e1
    have one : spanN (fun c => !isDig c) r = 0 → (c :: r).take (spanN (fun c => !isDig c) (c :: r)) = [c] := fun h => by rw [hs, h]; rfl
    have rest : spanN (fun c => !isDig c) r ≠ 0 → spanN isDig r = 0 ∧ r ≠ [] := fun h0 => by
      cases r with
      | nil => exact absurd rfl h0
      | cons d r' =>
        refine ⟨?_, by simp⟩
        rw [spanN_cons] at h0 ⊢
        by_cases h : (!isDig d) = true
        · rw [if_neg (by simpa using h)]
        · rw [if_neg h] at h0
          exact absurd rfl h0
    have single : ∀ (pos : Int) (mult : Nat), unitS (c :: r) = (pos, ((1 : Nat) : Int), (mult : Int)) → 0 ≤ pos → pos ≤ 6 → 0 < mult → mult ≤ 31536000000000000 → unitT [c] = some (pos + 1, mult) → (spanN (fun c => !isDig c) r ≠ 0 → unitT ((c :: r).take (spanN (fun c => !isDig c) (c :: r))) = none) →
        (∃ (pos : Int) (sz mult : Nat), unitS (c :: r) = (pos, (sz : Int), (mult : Int)) ∧ 0 ≤ pos ∧ pos ≤ 6 ∧ 0 < sz ∧ sz ≤ 2 ∧ 0 < mult ∧ mult ≤ 31536000000000000 ∧ sz ≤ spanN (fun c => !isDig c) (c :: r) ∧
      ((sz = spanN (fun c => !isDig c) (c :: r) ∧ unitT ((c :: r).take (spanN (fun c => !isDig c) (c :: r))) = some (pos + 1, mult)) ∨
       (sz < spanN (fun c => !isDig c) (c :: r) ∧ unitT ((c :: r).take (spanN (fun c => !isDig c) (c :: r))) = none ∧ spanN isDig ((c :: r).drop sz) = 0 ∧ (c :: r).drop sz ≠ []))) := fun pos mult h1 h2 h3 h4 h5 h6 h7 => by
      refine ⟨pos, 1, mult, h1, h2, h3, by omega, by omega, h4, h5, by omega, ?_⟩
      by_cases h0 : spanN (fun c => !isDig c) r = 0
      · exact Or.inl ⟨by omega, by rw [one h0]; exact h6⟩
      · exact Or.inr ⟨by omega, h7 h0, (rest h0).1, (rest h0).2⟩
    have none1 : spanN (fun c => !isDig c) r ≠ 0 → c ≠ 109 → unitT ((c :: r).take (spanN (fun c => !isDig c) (c :: r))) = none := fun h0 hm => by
      unfold unitT
      rw [if_neg (head 109 [115] hm), if_neg (two [115] h0 rfl), if_neg (two [109] h0 rfl), if_neg (two [104] h0 rfl), if_neg (two [100] h0 rfl), if_neg (two [119] h0 rfl), if_neg (two [121] h0 rfl)]
    by_cases e1 : c = 121
    · exact Or.inr (single 0 31536000000000000 (by subst e1; rfl) (by omega) (by omega) (by omega) (by omega) (by subst e1; rfl) (fun h0 => none1 h0 (by subst e1; decide)))
    by_cases e2 : c = 119
    · exact Or.inr (single 1 604800000000000 (by subst e2; rfl) (by omega) (by omega) (by omega) (by omega) (by subst e2; rfl) (fun h0 => none1 h0 (by subst e2; decide)))
    by_cases e3 : c = 100
    · exact Or.inr (single 2 86400000000000 (by subst e3; rfl) (by omega) (by omega) (by omega) (by omega) (by subst e3; rfl) (fun h0 => none1 h0 (by subst e3; decide)))
    by_cases e4 : c = 104
    · exact Or.inr (single 3 3600000000000 (by subst e4; rfl) (by omega) (by omega) (by omega) (by omega) (by subst e4; rfl) (fun h0 => none1 h0 (by subst e4; decide)))
    by_cases e6 : c = 115
    · exact Or.inr (single 5 1000000000 (by subst e6; rfl) (by omega) (by omega) (by omega) (by omega) (by subst e6; rfl) (fun h0 => none1 h0 (by subst e6; decide)))
    by_cases e5 : c = 109
    · subst e5
      by_cases h115 : r.head? = some 115
      · cases r with
        | nil => simp at h115
        | cons d r' =>
          simp only [List.head?_cons, Option.some.injEq] at h115
          subst h115
          have hs2 : spanN (fun c => !isDig c) (109 :: 115 :: r') = spanN (fun c => !isDig c) r' + 2 := by rw [hs, spanN_cons, if_pos (by decide)]
          have hu : unitS (109 :: 115 :: r') = (6, ((2 : Nat) : Int), ((1000000 : Nat) : Int)) := rfl
          refine Or.inr ⟨6, 2, 1000000, hu, by omega, by omega, by omega, by omega, by omega, by omega, by omega, ?_⟩
          have hle2 := spanN_le (fun c => !isDig c) r'
          by_cases h0 : spanN (fun c => !isDig c) r' = 0
          · refine Or.inl ⟨by omega, ?_⟩
            rw [hs2, h0]
            rfl
          · have ln : ∀ u : List UInt8, u.length ≤ 2 → (109 :: 115 :: r').take (spanN (fun c => !isDig c) (109 :: 115 :: r')) ≠ u := fun u hu e => by
              have := congrArg List.length e
              rw [List.length_take, hs2, List.length_cons, List.length_cons] at this
              omega
            refine Or.inr ⟨by omega, ?_, ?_, ?_⟩
            · unfold unitT
              rw [if_neg (ln _ (by decide)), if_neg (ln _ (by decide)), if_neg (ln _ (by decide)), if_neg (ln _ (by decide)), if_neg (ln _ (by decide)), if_neg (ln _ (by decide)), if_neg (ln _ (by decide))]
            · show spanN isDig r' = 0
              cases r' with
              | nil => rfl
              | cons d r'' =>
                rw [spanN_cons] at h0 ⊢
                by_cases h : (!isDig d) = true
                · rw [if_neg (by simpa using h)]
                · rw [if_neg h] at h0
                  exact absurd rfl h0
            · show r' ≠ []
              intro e
              rw [e] at h0
              exact h0 rfl
      · have hu : unitS (109 :: r) = (4, ((1 : Nat) : Int), ((60000000000 : Nat) : Int)) := by
          show (if r.head? = some 115 then _ else _) = _
          rw [if_neg h115]
          rfl
        refine Or.inr (single 4 60000000000 hu (by omega) (by omega) (by omega) (by omega) rfl (fun h0 => ?_))
        unfold unitT
        rw [if_neg (fun e => ?_), if_neg (two [115] h0 rfl), if_neg (two [109] h0 rfl), if_neg (two [104] h0 rfl), if_neg (two [100] h0 rfl), if_neg (two [119] h0 rfl), if_neg (two [121] h0 rfl)]
        rw [hs, List.take_succ_cons] at e
        injection e with _ e2
        cases r with
        | nil => exact absurd rfl h0
        | cons d r' =>
          obtain ⟨j, hj⟩ : ∃ j, spanN (fun c => !isDig c) (d :: r') = j + 1 := ⟨spanN (fun c => !isDig c) (d :: r') - 1, by omega⟩
          rw [hj, List.take_succ_cons] at e2
          injection e2 with e3 _
          exact h115 (by rw [e3]; rfl)
    · refine Or.inl ⟨?_, Or.inr ?_⟩
      · simp only [unitS]
        rw [if_neg e1, if_neg e2, if_neg e3, if_neg e4, if_neg e5, if_neg e6]
      · unfold unitT
        rw [if_neg (head 109 [115] e5), if_neg (head 115 [] e6), if_neg (head 109 [] e5), if_neg (head 104 [] e4), if_neg (head 100 [] e3), if_neg (head 119 [] e2), if_neg (head 121 [] e1)]
theorem span_drop (l : List UInt8) : spanN isDig (l.drop (spanN isDig l)) = 0 := by
  by_cases h : spanN isDig l < l.length
  · rw [List.drop_eq_getElem_cons h, spanN_cons, spanN_at isDig l h]
    rfl
  · rw [List.drop_eq_nil_of_le (by omega)]
    rfl
theorem durR_no (l : List UInt8) (last : Int) (hl : l ≠ []) (H : spanN isDig l ≠ 0 → ∀ pos mult, unitT ((l.drop (spanN isDig l)).take (spanN (fun c => !isDig c) (l.drop (spanN isDig l)))) = some (pos, mult) → spanN (fun c => !isDig c) (l.drop (spanN isDig l)) ≠ 0 → last < pos → ∀ f dur, durR f ((l.drop (spanN isDig l)).drop (spanN (fun c => !isDig c) (l.drop (spanN isDig l)))) dur pos = none) :
    ∀ f dur, durR f l dur last = none
  | 0, _ => rfl
  | f + 1, dur => by
    simp only [durR]
    rw [if_neg hl]
    by_cases h0 : spanN isDig l = 0
    · rw [if_pos h0]
    rw [if_neg h0]
    split
    · by_cases h1 : spanN (fun c => !isDig c) (l.drop (spanN isDig l)) = 0
      · rw [if_pos h1]
      rw [if_neg h1]
      split
      · rfl
      · rename_i pos mult hu
        by_cases h2 : pos ≤ last
        · rw [if_pos h2]
        rw [if_neg h2]
        split
        · rfl
        split
        · rfl
        exact H h0 pos mult hu h1 (by omega) f _
    · rfl
theorem w_sum (s m : Int) (h0 : 0 ≤ s) (h1 : s ≤ 9223372036854775807) : wrap64 (s + wrap64 (0 * m)) = s := by
  rw [Int.zero_mul]
  unfold wrap64
  omega
theorem w_add (n s : Nat) (h : n ≤ 65536) (h2 : s ≤ 65536) : wrap64 ((n : Int) + (s : Int)) = ((n + s : Nat) : Int) := by unfold wrap64; omega
theorem w_quo (s : Int) (m : Nat) (h0 : 0 ≤ s) (h1 : s ≤ 9223372036854775807) (hm : 0 < m) : wrap64 (Int.tdiv (wrap64 (9223372036854775807 - s)) (m : Int)) = (9223372036854775807 - s) / (m : Int) := by
  have e : wrap64 (9223372036854775807 - s) = 9223372036854775807 - s := by unfold wrap64; omega
  rw [e, Int.tdiv_eq_ediv_of_nonneg (by omega)]
  have h2 : 0 ≤ (9223372036854775807 - s) / (m : Int) := Int.ediv_nonneg (by omega) (by omega)
  have h3 : (9223372036854775807 - s) / (m : Int) ≤ 9223372036854775807 - s := Int.ediv_le_self _ (by omega)
  generalize (9223372036854775807 - s) / (m : Int) = q at *
  unfold wrap64
  omega
theorem w_mul (s : Int) (v m : Nat) (h0 : 0 ≤ s) (h1 : s ≤ 9223372036854775807) (hm : 0 < m) (h : ¬ ((v : Int) > (9223372036854775807 - s) / (m : Int))) : wrap64 (s + wrap64 ((v : Int) * (m : Int))) = s + ((v * m : Nat) : Int) ∧ s + ((v * m : Nat) : Int) ≤ 9223372036854775807 := by
  have h2 : (v : Int) * (m : Int) ≤ 9223372036854775807 - s := (Int.le_ediv_iff_mul_le (by omega)).1 (by omega)
  have e : ((v * m : Nat) : Int) = (v : Int) * (m : Int) := by simp
  have h3 : 0 ≤ ((v * m : Nat) : Int) := Int.natCast_nonneg _
  rw [← e] at h2 ⊢
  generalize ((v * m : Nat) : Int) = q at *
  unfold wrap64
  omega
theorem spec_dur : ∀ (N : Nat) (x0 : ByteArray) (sum last ans : Int), x0.size ≤ N → x0.size ≤ 65536 → 0 ≤ sum → sum ≤ 9223372036854775807 → -1 ≤ last → (ans = 1 ∨ ans = 2) →
    ∃ r : Int × Int, Ev (fun k => spec_ReadDuration.l0 k x0 sum last ans) r ∧ (r.2 = 1 → ans = 1 ∧ 0 ≤ r.1 ∧ ∀ f, x0.size < f → durR f x0.data.toList sum.toNat (last + 1) = some r.1.toNat) ∧ (r.2 = 0 → ∀ f dur, durR f x0.data.toList dur (last + 1) = none) := by
  intro N
  induction N with
  | zero =>
    intro x0 sum last ans hN hs h0 h1 hl ha
    have hz : ¬ ((x0.size : Int) > 0) := by omega
    have he : x0.data.toList = [] := List.eq_nil_of_length_eq_zero (by rw [len_is]; omega)
    rcases ha with rfl | rfl
    · refine ⟨(sum, 1), Ev.now 1 (fun k => by simp only [spec_ReadDuration.l0]; rw [if_neg hz]; rfl), fun _ => ⟨rfl, h0, fun f hf => ?_⟩, fun h => by simp at h⟩
      obtain ⟨g, rfl⟩ : ∃ g, f = g + 1 := ⟨f - 1, by omega⟩
      rw [he]
      rfl
    · exact ⟨(0, 2), Ev.now 1 (fun k => by simp only [spec_ReadDuration.l0]; rw [if_neg hz]; rfl), fun h => by simp at h, fun h => by simp at h⟩
  | succ N ih =>
    intro x0 sum last ans hN hs h0 h1 hl ha
    by_cases hz : (x0.size : Int) > 0
    · have hne : x0.data.toList ≠ [] := fun e => by
        have := len_is x0
        rw [e] at this
        simp at this
        omega
      have hnl := spanN_le isDig x0.data.toList
      rw [len_is] at hnl
      -- to the unit
      have go : ∀ k, spec_ReadDuration.l0 (k + (2 * spanN isDig x0.data.toList + 3)) x0 sum last ans = if (spanN isDig x0.data.toList : Int) = 0 then spec_ReadDuration.j3 k x0 sum ans (decI x0.data.toList (spanN isDig x0.data.toList) : Int) (spanN isDig x0.data.toList : Int) (unitS (x0.data.toList.drop (spanN isDig x0.data.toList))).1 (unitS (x0.data.toList.drop (spanN isDig x0.data.toList))).2.1 (unitS (x0.data.toList.drop (spanN isDig x0.data.toList))).2.2 true
          else spec_ReadDuration.j3 k x0 sum ans (decI x0.data.toList (spanN isDig x0.data.toList) : Int) (spanN isDig x0.data.toList : Int) (unitS (x0.data.toList.drop (spanN isDig x0.data.toList))).1 (unitS (x0.data.toList.drop (spanN isDig x0.data.toList))).2.1 (unitS (x0.data.toList.drop (spanN isDig x0.data.toList))).2.2 (decide ((unitS (x0.data.toList.drop (spanN isDig x0.data.toList))).1 ≤ last)) := fun k => by
        have e : k + (2 * spanN isDig x0.data.toList + 3) = ((k + 1) + (2 * spanN isDig x0.data.toList + 1)) + 1 := by omega
        have hd := digits_run x0 sum last ans hs (spanN isDig x0.data.toList) 0 (by omega) (k + 1)
        have hd0 : (decI x0.data.toList 0 : Int) = 0 := by unfold decI; rw [Nat.min_eq_left (by omega), List.take_zero, dval_nil]; rfl
        rw [hd0] at hd
        rw [e]
        simp only [spec_ReadDuration.l0]
        rw [if_pos hz]
        rw [show ((0 : Nat) : Int) = 0 from rfl] at hd
        rw [hd]
        simp only [spec_ReadDuration.j2]
        rw [if_neg (by decide), if_pos (by omega), if_pos (by omega), unitOf_is]
        rw [Int.toNat_natCast, ex_drop]
        simp only [Option.bind_some]
      have hzero : ∀ (x4 x6 x7 x8 x9 x10 x11 : Int), Ev (fun k => spec_ReadDuration.j3 k x0 x4 x6 x7 x8 x9 x10 x11 true) (0, 0) := fun x4 x6 x7 x8 x9 x10 x11 => Ev.now 1 (fun k => by simp only [spec_ReadDuration.j3]; rw [if_pos trivial])
      by_cases hn0 : spanN isDig x0.data.toList = 0
      · refine ⟨(0, 0), (hzero _ _ _ _ _ _ _).step (2 * spanN isDig x0.data.toList + 3) (fun k => by rw [go k, if_pos (by omega)]), fun h => by simp at h, fun _ => durR_no _ _ hne (fun h => absurd hn0 h)⟩
      have hnz : ¬ ((spanN isDig x0.data.toList : Int) = 0) := by omega
      have go2 := go
      simp only [if_neg hnz] at go2
      rcases unit_rel (x0.data.toList.drop (spanN isDig x0.data.toList)) (span_drop _) with ⟨hu, hm⟩ | ⟨pos, sz, mult, hu, hp0, hp6, hs0, hs2, hm0, hm1, hle, hcase⟩
      · refine ⟨(0, 0), (hzero _ _ _ _ _ _ _).step (2 * spanN isDig x0.data.toList + 3) (fun k => by rw [go2 k, hu, decide_eq_true (show (-1 : Int) ≤ last by omega)]), fun h => by simp at h, fun _ => durR_no _ _ hne (fun _ p m h1 h2 => ?_)⟩
        rcases hm with hm | hm
        · exact absurd hm h2
        · rw [hm] at h1
          cases h1
      · rw [hu] at go2
        simp only at go2
        by_cases hpl : pos ≤ last
        · refine ⟨(0, 0), (hzero _ _ _ _ _ _ _).step (2 * spanN isDig x0.data.toList + 3) (fun k => by rw [go2 k, decide_eq_true hpl]), fun h => by simp at h, fun _ => durR_no _ _ hne (fun _ p m h1 h2 h3 => ?_)⟩
          rcases hcase with ⟨_, hc⟩ | ⟨_, hc, _⟩
          · rw [hc] at h1
            injection h1 with h1
            injection h1 with h4 _
            omega
          · rw [hc] at h1
            cases h1
        have hd := decide_eq_false hpl
        have hml := spanN_le (fun c => !isDig c) (x0.data.toList.drop (spanN isDig x0.data.toList))
        rw [List.length_drop, len_is] at hml
        have hx1 : (x0.extract (spanN isDig x0.data.toList + sz) x0.size).data.toList = (x0.data.toList.drop (spanN isDig x0.data.toList)).drop sz := by rw [ex_drop, List.drop_drop]
        have hx2 : (x0.extract (spanN isDig x0.data.toList + sz) x0.size).size = x0.size - (spanN isDig x0.data.toList + sz) := by rw [ByteArray.size_extract]; omega
        have hw := Aside0.mk (w_add (spanN isDig x0.data.toList) sz (by omega) (by omega))
        -- what follows says nothing
        have opens : (∀ k, spec_ReadDuration.j3 (k + 1) x0 sum ans (decI x0.data.toList (spanN isDig x0.data.toList) : Int) (spanN isDig x0.data.toList : Int) pos (sz : Int) (mult : Int) false = spec_ReadDuration.l0 k (x0.extract (spanN isDig x0.data.toList + sz) x0.size) sum pos 2) →
            ∃ r : Int × Int, Ev (fun k => spec_ReadDuration.l0 k x0 sum last ans) r ∧ (r.2 = 1 → ans = 1 ∧ 0 ≤ r.1 ∧ ∀ f, x0.size < f → durR f x0.data.toList sum.toNat (last + 1) = some r.1.toNat) ∧ (r.2 = 0 → ∀ f dur, durR f x0.data.toList dur (last + 1) = none) := fun hj => by
          obtain ⟨r, hr, hy, hno⟩ := ih (x0.extract (spanN isDig x0.data.toList + sz) x0.size) sum pos 2 (by omega) (by omega) h0 h1 (by omega) (Or.inr rfl)
          have hev : Ev (fun k => spec_ReadDuration.j3 k x0 sum ans (decI x0.data.toList (spanN isDig x0.data.toList) : Int) (spanN isDig x0.data.toList : Int) pos (sz : Int) (mult : Int) false) r := hr.step 1 hj
          refine ⟨r, hev.step (2 * spanN isDig x0.data.toList + 3) (fun k => by rw [go2 k, hd]), fun h => by have := (hy h).1; omega, fun h => durR_no _ _ hne (fun _ p m h1 h2 h3 => ?_)⟩
          have hn := hno h
          rw [hx1] at hn
          rcases hcase with ⟨he, hc⟩ | ⟨_, hc, _⟩
          · rw [hc] at h1
            injection h1 with h1
            injection h1 with h4 _
            rw [← he, ← h4]
            exact hn
          · rw [hc] at h1
            cases h1
        by_cases h18 : (spanN isDig x0.data.toList : Int) > 18
        · exact opens (fun k => by
            simp only [spec_ReadDuration.j3]
            rw [if_neg (by decide), if_pos h18, hw.out, if_pos (by omega), if_pos (by omega), w_sum _ _ h0 h1, Int.toNat_natCast])
        have hq := Aside0.mk (w_quo sum mult h0 h1 hm0)
        by_cases hov : (decI x0.data.toList (spanN isDig x0.data.toList) : Int) > (9223372036854775807 - sum) / (mult : Int)
        · exact opens (fun k => by
            simp only [spec_ReadDuration.j3]
            rw [if_neg (by decide), if_neg h18, if_neg (by omega), hq.out, if_pos hov, hw.out, if_pos (by omega), if_pos (by omega), w_sum _ _ h0 h1, Int.toNat_natCast])
        have hwm := Aside0.mk (w_mul sum _ mult h0 h1 hm0 hov).1
        have hwb := (w_mul sum _ mult h0 h1 hm0 hov).2
        have hdv : decI x0.data.toList (spanN isDig x0.data.toList) = dval 0 (x0.data.toList.take (spanN isDig x0.data.toList)) := by unfold decI; rw [Nat.min_eq_left (by omega)]
        have hok := uint_span_ok x0.data.toList hn0 (by omega)
        rw [← hdv] at hok
        generalize decI x0.data.toList (spanN isDig x0.data.toList) = v at *
        obtain ⟨r, hr, hy, hno⟩ := ih (x0.extract (spanN isDig x0.data.toList + sz) x0.size) (sum + ((v * mult : Nat) : Int)) pos ans (by omega) (by omega) (by omega) hwb (by omega) ha
        have hj : ∀ k, spec_ReadDuration.j3 (k + 1) x0 sum ans (v : Int) (spanN isDig x0.data.toList : Int) pos (sz : Int) (mult : Int) false = spec_ReadDuration.l0 k (x0.extract (spanN isDig x0.data.toList + sz) x0.size) (sum + ((v * mult : Nat) : Int)) pos ans := fun k => by
          simp only [spec_ReadDuration.j3]
          rw [if_neg (by decide), if_neg h18, if_neg (by omega), hq.out, if_neg hov, hw.out, if_pos (by omega), if_pos (by omega), hwm.out, Int.toNat_natCast]
        rw [hx1] at hy hno
        have hev : Ev (fun k => spec_ReadDuration.j3 k x0 sum ans (v : Int) (spanN isDig x0.data.toList : Int) pos (sz : Int) (mult : Int) false) r := hr.step 1 hj
        refine ⟨r, hev.step (2 * spanN isDig x0.data.toList + 3) (fun k => by rw [go2 k, hd]), fun h => ?_, fun h => durR_no _ _ hne (fun _ p m h1 h2 h3 => ?_)⟩
        · obtain ⟨ha1, hr0, hf⟩ := hy h
          refine ⟨ha1, hr0, fun f hfx => ?_⟩
          obtain ⟨g, rfl⟩ : ∃ g, f = g + 1 := ⟨f - 1, by omega⟩
          rcases hcase with ⟨he, hc⟩ | ⟨_, hc, hc2, hc3⟩
          · simp only [durR]
            rw [if_neg hne, if_neg hn0, hok]
            simp only
            rw [if_neg (by omega), hc]
            simp only
            have hvm : v * mult ≤ 9223372036854775807 := by omega
            have hdiv : v ≤ 9223372036854775808 / mult := (Nat.le_div_iff_mul_le hm0).2 (by omega)
            have hst : sum.toNat + v * mult = (sum + ((v * mult : Nat) : Int)).toNat := by omega
            rw [if_neg (by omega), if_neg (by omega), if_neg (by omega), hst, ← he]
            exact hf g (by omega)
          · exfalso
            have := hf (x0.size + 1) (by omega)
            simp only [durR] at this
            rw [if_neg hc3, if_pos hc2] at this
            cases this
        · have hn := hno h
          rcases hcase with ⟨he, hc⟩ | ⟨_, hc, _⟩
          · rw [hc] at h1
            injection h1 with h1
            injection h1 with h4 _
            rw [← he, ← h4]
            exact hn
          · rw [hc] at h1
            cases h1
    · obtain ⟨r, hr⟩ := ih x0 sum last ans (by omega) hs h0 h1 hl ha
      exact ⟨r, hr⟩
/-- The reference's answer to a text, and the program's. -/
theorem spec_is (x0 : ByteArray) (hs : x0.size ≤ 65536) : ∃ r : Int × Int, Ev (fun k => spec_ReadDuration.f k x0) r ∧ (r.2 = 1 → durF x0.data.toList = some r.1.toNat ∧ 0 ≤ r.1) ∧ (r.2 = 0 → durF x0.data.toList = none) := by
  unfold durF
  by_cases h0 : x0.toList = ([48] : List UInt8)
  · refine ⟨(0, 1), Ev.now 0 (fun k => by unfold spec_ReadDuration.f; rw [if_pos h0]), fun _ => ⟨?_, by decide⟩, fun h => by simp at h⟩
    rw [ByteArray.toList_eq] at h0
    rw [if_pos h0]
    rfl
  by_cases h1 : x0.toList = ([] : List UInt8)
  · refine ⟨(0, 0), Ev.now 0 (fun k => by unfold spec_ReadDuration.f; rw [if_neg h0, if_pos h1]), fun h => by simp at h, fun _ => ?_⟩
    rw [ByteArray.toList_eq] at h0 h1
    rw [if_neg h0, if_pos h1]
  obtain ⟨r, hr, hy, hno⟩ := spec_dur x0.size x0 0 (-1) 1 (Nat.le_refl _) hs (by omega) (by omega) (by omega) (Or.inl rfl)
  refine ⟨r, hr.step 0 (fun k => by show spec_ReadDuration.f k x0 = _; unfold spec_ReadDuration.f; rw [if_neg h0, if_neg h1]), fun h => ?_, fun h => ?_⟩
  · obtain ⟨_, hr0, hf⟩ := hy h
    rw [ByteArray.toList_eq] at h0 h1
    rw [if_neg h0, if_neg h1]
    exact ⟨hf _ (by rw [len_is]; omega), hr0⟩
  · rw [ByteArray.toList_eq] at h0 h1
    rw [if_neg h0, if_neg h1]
    exact hno h _ _
end Go.Proofs.YtmmcibeeojfplaaDoor.Q
