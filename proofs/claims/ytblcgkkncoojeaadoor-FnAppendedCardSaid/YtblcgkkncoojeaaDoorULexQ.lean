/- Plain words: the text of a token, alone, is that token. No condition. -/
import Derived.Test.YtblcgkkncoojeaaDoorHParKM
import Derived.Lib.TrimUEq
set_option linter.unusedVariables false
set_option linter.unusedSimpArgs false
namespace Go.Proofs.YtblcgkkncoojeaaDoor.Q
open Go.RowKit Go.Lib Go.Proofs.YtblcgkkncoojeaaDoorW.PrintWords Go.Proofs.YtblcgkkncoojeaaDoorW.PrintLast Go.Proofs.YtblcgkkncoojeaaDoorW.PrintMore
theorem decodeN_cut (n n' b0 b1 b2 b3 c1 c2 c3 : Nat) (hn : 1 ≤ n') (hnn : n' ≤ n) (hw : (decodeN n b0 b1 b2 b3).2 ≤ n') (h1 : 1 < n' → c1 = b1) (h2 : 2 < n' → c2 = b2) (h3 : 3 < n' → c3 = b3) : decodeN n' b0 c1 c2 c3 = decodeN n b0 b1 b2 b3 := by
  unfold decodeN at hw ⊢
  by_cases a0 : b0 < 128
  · rw [if_pos a0, if_pos a0]
  rw [if_neg a0] at hw ⊢
  rw [if_neg a0]
  by_cases k1 : 1 < n'
  · have g1 : 1 < n := by omega
    have e1 := h1 k1
    subst e1
    by_cases k2 : 2 < n'
    · have g2 : 2 < n := by omega
      have e2 := h2 k2
      subst e2
      by_cases k3 : 3 < n'
      · have g3 : 3 < n := by omega
        have e3 := h3 k3
        subst e3
        simp only [k1, k2, k3, g1, g2, g3, true_and]
      · simp only [k1, k2, k3, g1, g2, true_and, false_and, and_false, if_false]
        simp only [g1, g2, true_and] at hw
        by_cases q1 : b0 / 32 = 6 ∧ c1 / 64 = 2
        · simp only [if_pos q1]
        · simp only [if_neg q1] at hw ⊢
          by_cases q2 : b0 / 16 = 14 ∧ c1 / 64 = 2 ∧ c2 / 64 = 2
          · simp only [if_pos q2]
          · simp only [if_neg q2] at hw ⊢
            split
            · split
              · rename_i z1 z2; rw [if_pos z1, if_pos z2] at hw; simp at hw; omega
              · rfl
            · rfl
    · simp only [k1, k2, g1, true_and, false_and, and_false, if_false]
      simp only [g1, true_and] at hw
      by_cases q1 : b0 / 32 = 6 ∧ c1 / 64 = 2
      · simp only [if_pos q1]
      · simp only [if_neg q1] at hw ⊢
        repeat' split at hw
        all_goals first | (exfalso; simp at hw; omega) | (repeat' split) <;> first | rfl | (exfalso; omega) | contradiction
  · simp only [k1, false_and, and_false, if_false]
    repeat' split at hw
    all_goals first | (exfalso; simp at hw; omega) | (repeat' split) <;> first | rfl | (exfalso; omega) | contradiction
/-- A character of a text, in a part of the text that holds it whole. -/
theorem decode_part (s : ByteArray) (a b q : Nat) (hb : b ≤ s.size) (hq : a + q < b) (hw : a + q + (Utf8.decode s (a + q)).2 ≤ b) : Utf8.decode (s.extract a b) q = Utf8.decode s (a + q) := by
  have hl : (s.extract a b).data.toList = (s.data.toList.drop a).take (b - a) := by
    rw [ByteArray.data_extract, Array.toList_extract]
    try simp only [List.extract_eq_take_drop]
  have hlen : (s.extract a b).data.toList.length = b - a := by
    rw [hl, List.length_take, List.length_drop, Array.length_toList]
    have : s.data.size = s.size := rfl
    omega
  have hg : ∀ i, i < b - a → (s.extract a b).data.toList.getD i 0 = s.data.toList.getD (a + i) 0 := fun i hi => by
    rw [hl, getD_takeU _ _ _ hi, getD_dropU]
  rw [decode_N] at hw
  rw [decode_N, decode_N, hlen, hg q (by omega)]
  have hs : s.data.toList.length = s.size := Array.length_toList
  refine decodeN_cut _ _ _ _ _ _ _ _ _ (by omega) (by omega) (by omega) (fun h => ?_) (fun h => ?_) (fun h => ?_)
  · rw [hg _ (by omega)]; rfl
  · rw [hg _ (by omega)]; rfl
  · rw [hg _ (by omega)]; rfl
section
variable {s : ByteArray} {a b : Nat} {x x' : LSt}
/-- A state within a part of the text, and the state of the whole text. -/
structure Sim (s : ByteArray) (a b : Nat) (x x' : LSt) : Prop where
  p : x.p = (a : Int) + x'.p
  g : LGd s x
  g' : LGd (s.extract a b) x'
theorem part_size (hb : b ≤ s.size) : (s.extract a b).size = b - a := by rw [ByteArray.size_extract]; omega
theorem Sim.step (h : Sim s a b x x') (hb : b ≤ s.size) (hp : x.p < b) (hn : (nextS s x).p ≤ b) : nextR (s.extract a b) x'.p = nextR s x.p ∧ Sim s a b (nextS s x) (nextS (s.extract a b) x') := by
  have h1 := h.g.s0; have h2 := h.g.s1; have h3 := h.g'.s0; have h4 := h.g'.s1
  have hz := part_size (s := s) (a := a) hb
  have e := h.p
  obtain ⟨q, hq⟩ : ∃ q : Nat, x'.p = q := ⟨x'.p.toNat, by omega⟩
  have ex : x.p.toNat = a + q := by omega
  have hps : x.p.toNat < s.size := by omega
  have hqs : x'.p.toNat < (s.extract a b).size := by omega
  have hw : a + q + (Utf8.decode s (a + q)).2 ≤ b := by
    unfold nextS at hn
    rw [if_pos hps] at hn
    simp only at hn
    rw [ex] at hn
    omega
  have hd := decode_part s a b q hb (by omega) hw
  have eq' : x'.p.toNat = q := by omega
  refine ⟨?_, ?_, h.g.next, h.g'.next⟩
  · unfold nextR
    rw [if_pos hps, if_pos hqs, eq', hd, ex]
  · unfold nextS
    rw [if_pos hps, if_pos hqs]
    simp only
    rw [eq', hd, ex]
    omega
theorem Sim.end_ (h : Sim s a b x x') (hb : b ≤ s.size) (hab : a ≤ b) (hp : x.p = b) : nextR (s.extract a b) x'.p = -1 ∧ (nextS (s.extract a b) x').p = x'.p := by
  have hz := part_size (s := s) (a := a) hb
  have e := h.p
  have h1 := (nextR_end h.g').2 (by omega)
  refine ⟨h1, ?_⟩
  unfold nextS
  rw [if_neg (by omega)]
theorem back_sim (h : Sim s a b x x') : Sim s a b (backS (nextS s x)) (backS (nextS (s.extract a b) x')) :=
  ⟨by rw [back_p h.g, back_p h.g']; exact h.p, h.g.back, h.g'.back⟩
/-- Start and first column stay. -/
def Same (x y : LSt) : Prop := y.st = x.st ∧ y.cl = x.cl
theorem same_next (s : ByteArray) (x : LSt) : Same x (nextS s x) := by unfold nextS; split <;> exact ⟨rfl, rfl⟩
theorem same_back (x : LSt) : Same x (backS x) := ⟨rfl, rfl⟩
theorem Same.trans {x y z : LSt} (h : Same x y) (k : Same y z) : Same x z := ⟨k.1.trans h.1, k.2.trans h.2⟩
theorem same_ac (s : ByteArray) (x : LSt) (c : ByteArray) : Same x (acS s x c) := by
  unfold acS
  split
  · exact same_next s x
  · exact (same_next s x).trans (same_back _)
theorem same_word (s : ByteArray) : ∀ (k : Nat) (x : LSt), Same x (wordS s k x)
  | 0, x => ⟨rfl, rfl⟩
  | k + 1, x => by
    rw [wordS]
    split
    · exact same_next s x
    · split
      · exact (same_next s x).trans (same_back _)
      · exact (same_next s x).trans (same_word s k _)
theorem same_quot (s : ByteArray) : ∀ (k : Nat) (esc : Bool) (x : LSt), Same x (quotS s k esc x)
  | 0, _, x => ⟨rfl, rfl⟩
  | k + 1, esc, x => by
    rw [quotS]
    split
    · exact same_next s x
    · split
      · exact (same_next s x).trans (same_quot s k _ _)
      · split
        · exact (same_next s x).trans (same_quot s k _ _)
        · split
          · exact (same_next s x).trans (same_back _)
          · exact (same_next s x).trans (same_quot s k _ _)
theorem word_sim (hb : b ≤ s.size) (hab : a ≤ b) : ∀ (n k k' : Nat) (x x' : LSt), Sim s a b x x' → (s.size - x.p.toNat : Nat) < k → (b - x.p.toNat : Nat) < k' → b - x.p.toNat ≤ n → x.p ≤ b → (wordS s k x).p = b → Sim s a b (wordS s k x) (wordS (s.extract a b) k' x')
  | n, k, k', x, x', h, hk, hk', hn, hpb, hfin => by
    have h1 := h.g.s0; have h2 := h.g.s1
    have e := h.p
    obtain ⟨k, rfl⟩ : ∃ j, k = j + 1 := ⟨k - 1, by omega⟩
    obtain ⟨k', rfl⟩ : ∃ j, k' = j + 1 := ⟨k' - 1, by omega⟩
    by_cases hp : x.p = b
    · have he := h.end_ hb hab hp
      have g1 : Sim s a b (wordS s (k + 1) x) (nextS (s.extract a b) x') := ⟨by rw [hfin, he.2]; omega, LGd.word _ h.g, h.g'.next⟩
      have e2 : wordS (s.extract a b) (k' + 1) x' = nextS (s.extract a b) x' := by rw [wordS, if_pos he.1]
      rw [e2]
      exact g1
    · have hlt : x.p < b := by omega
      have hr : nextR s x.p ≠ -1 := fun e => by have := (nextR_end h.g).1 e; omega
      have hres : resR (nextR s x.p) = false := by
        cases hres : resR (nextR s x.p)
        · rfl
        · rw [wordS, if_neg hr, hres, if_pos rfl, back_p h.g] at hfin
          exact absurd hfin hp
      have hw : wordS s (k + 1) x = wordS s k (nextS s x) := by rw [wordS, if_neg hr, hres, if_neg (by decide)]
      rw [hw] at hfin ⊢
      have hle := wordS_le k h.g.next
      have hst := h.step hb hlt (by omega)
      have hw' : wordS (s.extract a b) (k' + 1) x' = wordS (s.extract a b) k' (nextS (s.extract a b) x') := by rw [wordS, hst.1, if_neg hr, hres, if_neg (by decide)]
      rw [hw']
      have hon := (nextS_on h.g hr).1
      have hnp := h.g.next.p1
      obtain ⟨n, rfl⟩ : ∃ j, n = j + 1 := ⟨n - 1, by omega⟩
      exact word_sim hb hab n k k' _ _ hst.2 (by omega) (by omega) (by omega) (by omega) hfin
theorem next_one {s : ByteArray} {x : LSt} (h : LGd s x) (h0 : 0 ≤ nextR s x.p) (h1 : nextR s x.p < 128) : (nextS s x).p = x.p + 1 := by
  unfold nextR at h0 h1
  unfold nextS
  by_cases hp : x.p.toNat < s.size
  · rw [if_pos hp] at h0 h1 ⊢
    simp only
    have : (Utf8.decode s x.p.toNat).2 = 1 := by
      rw [decode_N] at h1 ⊢
      unfold decodeN at h1 ⊢
      repeat' split at h1
      all_goals first | (exfalso; simp at h1; omega) | (repeat' split) <;> first | rfl | (exfalso; omega) | contradiction
    rw [this]
    rfl
  · rw [if_neg hp] at h0; omega
theorem quot_sim (hb : b ≤ s.size) : ∀ (n k k' : Nat) (esc : Bool) (x x' : LSt), Sim s a b x x' → (s.size - x.p.toNat : Nat) < k → (b - x.p.toNat : Nat) < k' → b - x.p.toNat ≤ n → (quotS s k esc x).p < b → Sim s a b (quotS s k esc x) (quotS (s.extract a b) k' esc x')
  | n, k, k', esc, x, x', h, hk, hk', hn, hfin => by
    have h1 := h.g.s0; have h2 := h.g.s1
    have hle0 := quotS_le k esc h.g
    have hlt : x.p < b := by omega
    obtain ⟨k, rfl⟩ : ∃ j, k = j + 1 := ⟨k - 1, by omega⟩
    obtain ⟨k', rfl⟩ : ∃ j, k' = j + 1 := ⟨k' - 1, by omega⟩
    obtain ⟨n, rfl⟩ : ∃ j, n = j + 1 := ⟨n - 1, by omega⟩
    have hr : nextR s x.p ≠ -1 := fun e => by have := (nextR_end h.g).1 e; omega
    have hon := (nextS_on h.g hr).1
    have hnp := h.g.next.p1
    have go : ∀ esc2 : Bool, (quotS s k esc2 (nextS s x)).p < b → (nextR (s.extract a b) x'.p = nextR s x.p) ∧ Sim s a b (quotS s k esc2 (nextS s x)) (quotS (s.extract a b) k' esc2 (nextS (s.extract a b) x')) := fun esc2 hf => by
      have hle := quotS_le k esc2 h.g.next
      have hst := h.step hb hlt (by omega)
      exact ⟨hst.1, quot_sim hb n k k' esc2 _ _ hst.2 (by omega) (by omega) (by omega) hf⟩
    rw [quotS, if_neg hr] at hfin ⊢
    rw [quotS]
    cases esc
    · rw [if_neg (by decide)] at hfin ⊢
      by_cases h92 : nextR s x.p = 92
      · rw [if_pos h92] at hfin ⊢
        obtain ⟨er, hs⟩ := go true hfin
        rw [er, if_neg hr, if_neg (by decide), if_pos h92]
        exact hs
      · rw [if_neg h92] at hfin ⊢
        by_cases h34 : nextR s x.p = 34
        · rw [if_pos h34] at hfin ⊢
          have hw1 : (nextS s x).p = x.p + 1 := next_one h.g (by rw [h34]; omega) (by rw [h34]; omega)
          have hst := h.step hb hlt (by omega)
          rw [hst.1, if_neg hr, if_neg (by decide), if_neg h92, if_pos h34]
          exact back_sim h
        · rw [if_neg h34] at hfin ⊢
          obtain ⟨er, hs⟩ := go false hfin
          rw [er, if_neg hr, if_neg (by decide), if_neg h92, if_neg h34]
          exact hs
    · rw [if_pos rfl] at hfin ⊢
      obtain ⟨er, hs⟩ := go false hfin
      rw [er, if_neg hr, if_pos rfl]
      exact hs
end
end Go.Proofs.YtblcgkkncoojeaaDoor.Q
