/- Parts joined and joined again: the law FnJoinedParts over the functions that the program comes to, for every input. No condition. -/
import Derived.Test.YtbcijcmmpbkkbaaQlawsFnJoinedParts
import Derived.Test.YtbcijcmmpbkkbaaUFits
namespace Go.Proofs.Ytbcijcmmpbkkbaa.Q
open Go.RowKit Go.Proofs.YtbcijcmmpbkkbaaW.PrintWords Go.Proofs.YtbcijcmmpbkkbaaW.PrintLast Go.Proofs.YtbcijcmmpbkkbaaW.PrintMore
theorem rdS_nat (l : List ByteArray) (n : Nat) (h : n < l.length) : rdOf ByteArray.empty l (n : Int) = l[n] := by simp [rdOf, List.getD_eq_getElem?_getD, List.getElem?_eq_getElem h]
def fitsS (s : ByteArray) : Bool := decide (s.size ≤ 2147483647)
theorem fits6_is (l : List ByteArray) (k : Nat) (hk : l.length < k) : laws_zzFits6.f k l = some (decide (l.length ≤ 2147483647) && l.all fitsS) := by
  unfold laws_zzFits6.f
  split
  · rw [decide_eq_false (by omega)]; rfl
  · rw [decide_eq_true (by omega), Bool.true_and]
    have := all_loop l (by omega) fitsS true (fun k x => laws_zzFits6.l0 k l (l.length : Int) x) ?_ ?_ k hk
    · simpa using this
    · intro k
      simp only [laws_zzFits6.l0]
      rw [if_neg (by omega)]
    · intro k n h
      simp only [laws_zzFits6.l0]
      rw [if_pos (by omega), if_pos (by omega), if_pos (by omega), rdS_nat l n h]
      by_cases hs : (l[n].size : Int) > 2147483647
      · rw [if_pos hs, if_neg (by simp [fitsS]; omega)]
      · rw [if_neg hs, if_pos (by simp [fitsS]; omega)]
def szs (l : List ByteArray) : Nat := (l.map (·.size)).sum
theorem slight_from (l : List ByteArray) (hl : l.length ≤ 10000) (d : Nat) : ∀ (n k : Nat) (acc : Int), n + d = l.length → d < k → 0 ≤ acc → acc ≤ 262144 →
    ∃ b, laws_slight.l0 k acc l (l.length : Int) n = some b ∧ (b = true → acc + (szs (l.drop n) : Int) ≤ 262144) := by
  induction d with
  | zero =>
    intro n k acc hn hk h0 h1
    obtain ⟨k, rfl⟩ : ∃ m, k = m + 1 := ⟨k - 1, by omega⟩
    simp only [laws_slight.l0]
    rw [if_neg (by omega), List.drop_of_length_le (by omega)]
    exact ⟨true, rfl, fun _ => by simp [szs]; omega⟩
  | succ d ih =>
    intro n k acc hn hk h0 h1
    obtain ⟨k, rfl⟩ : ∃ m, k = m + 1 := ⟨k - 1, by omega⟩
    have hlt : n < l.length := by omega
    have e2 : wrap64 ((n : Int) + 1) = ((n + 1 : Nat) : Int) := by unfold wrap64; omega
    have e3 : wrap64 (262144 - acc) = 262144 - acc := by unfold wrap64; omega
    simp only [laws_slight.l0]
    rw [if_pos (by omega), if_pos (by omega), if_pos (by omega), rdS_nat l n hlt, e3]
    by_cases hs : (l[n].size : Int) > 262144 - acc
    · rw [if_pos hs]
      exact ⟨false, rfl, fun h => by cases h⟩
    · rw [if_neg hs]
      have e4 : wrap64 (acc + (l[n].size : Int)) = acc + l[n].size := by unfold wrap64; omega
      rw [e4, e2]
      obtain ⟨b, hb, hc⟩ := ih (n + 1) k (acc + l[n].size) (by omega) (by omega) (by omega) (by omega)
      refine ⟨b, hb, fun h => ?_⟩
      have := hc h
      rw [List.drop_eq_getElem_cons hlt]
      simp only [szs, List.map_cons, List.sum_cons] at this ⊢
      omega
theorem slight_is (l : List ByteArray) (s : ByteArray) (hl : l.length ≤ 9223372036854775807) (hs : s.size ≤ 140737488351232) (k : Nat) (hk : l.length + 2 < k) :
    ∃ b, laws_slight.f k l s = some b ∧ (b = true → l.length ≤ 10000 ∧ s.size ≤ 262144 ∧ l.length * s.size + szs l ≤ 262144) := by
  obtain ⟨k, rfl⟩ : ∃ m, k = m + 1 := ⟨k - 1, by omega⟩
  unfold laws_slight.f
  by_cases h1 : (l.length : Int) > 10000
  · rw [if_pos h1]
    exact ⟨false, by simp [laws_slight.j0], fun h => by cases h⟩
  · rw [if_neg h1]
    by_cases h2 : (s.size : Int) > 262144
    · rw [if_pos h2]
      exact ⟨false, by simp [laws_slight.j0], fun h => by cases h⟩
    · rw [if_neg h2]
      have hm : l.length * s.size ≤ 10000 * 262144 := Nat.mul_le_mul (by omega) (by omega)
      have e : wrap64 ((l.length : Int) * (s.size : Int)) = ((l.length * s.size : Nat) : Int) := by
        rw [← Int.natCast_mul]
        unfold wrap64; omega
      rw [e]
      by_cases h3 : ((l.length * s.size : Nat) : Int) > 262144
      · rw [decide_eq_true h3]
        exact ⟨false, by simp [laws_slight.j0], fun h => by cases h⟩
      · rw [decide_eq_false h3]
        simp only [laws_slight.j0, e]
        rw [if_neg (by simp)]
        obtain ⟨b, hb, hc⟩ := slight_from l (by omega) l.length 0 k ((l.length * s.size : Nat) : Int) (by omega) (by omega) (by omega) (by omega)
        refine ⟨b, hb, fun h => ?_⟩
        have := hc h
        simp at this
        refine ⟨by omega, by omega, ?_⟩
        have e5 : ((l.length * s.size : Nat) : Int) = (l.length : Int) * (s.size : Int) := Int.natCast_mul _ _
        omega
theorem lens_szs (l : List ByteArray) : Lib.lens (l.map (·.data.toList)) = szs l := by
  unfold Lib.lens szs
  rw [List.map_map]
  congr 1
theorem join_len (l : List ByteArray) (s : ByteArray) : (joinL l s).length ≤ l.length * s.size + szs l := by
  unfold joinL
  cases l with
  | nil => simp [Lib.join]
  | cons x r =>
    have e := lens_szs (x :: r)
    rw [List.map_cons] at e
    rw [List.map_cons, Lib.join_length, e, List.length_map]
    have h2 : s.data.toList.length = s.size := Array.length_toList
    rw [h2]
    have : s.size * r.length ≤ (x :: r).length * s.size := by rw [Nat.mul_comm s.size]; exact Nat.mul_le_mul (by simp) (Nat.le_refl _)
    omega
theorem join_app (a b : List ByteArray) (s : ByteArray) (ha : a ≠ []) (hb : b ≠ []) : joinL (a ++ b) s = joinL a s ++ s.data.toList ++ joinL b s := by
  obtain ⟨x, r, rfl⟩ := List.exists_cons_of_ne_nil ha
  obtain ⟨y, q, rfl⟩ := List.exists_cons_of_ne_nil hb
  unfold joinL
  simp only [List.map_append, List.map_cons, List.cons_append, Lib.join_cons]
  simp [Lib.joinTail, List.append_assoc]
theorem join_two (x y s : ByteArray) : joinL [x, y] s = x.data.toList ++ s.data.toList ++ y.data.toList := by
  unfold joinL
  simp [Lib.join_cons, Lib.joinTail, List.append_assoc]
theorem joined_of {l : List ByteArray} {s : ByteArray} (h1 : l.length ≤ 140737488355328) (h2 : (joinL l s).length ≤ 140737488355328) : impl_Joined.f l s = some ⟨(joinL l s).toArray⟩ := if_pos ⟨h1, h2⟩
theorem laws_FnJoinedParts.pure : ∀ (l0 : List ByteArray) (l1 : List ByteArray) (a2 : ByteArray), l0.length ≤ 9223372036854775807 → l1.length ≤ 9223372036854775807 → a2.size ≤ 140737488351232 → ∃ k, laws_FnJoinedParts.f k l0 l1 a2 = some true := by
  intro a b s ha hb hs
  refine ⟨a.length + b.length + 10, ?_⟩
  have key : ∀ g : Bool, laws_FnJoinedParts.j0 (a.length + b.length + 10) a b s g = some true := by
    intro g
    simp only [laws_FnJoinedParts.j0]
    cases g
    · rw [if_neg (by simp)]
      have eb : impl_Joined.f ([⟨#[97]⟩, ⟨#[98]⟩] : List ByteArray) ⟨#[45]⟩ = some ⟨#[97, 45, 98]⟩ := (joined_of (by simp) (by decide)).trans (by rfl)
      rw [eb]
      simp only [Option.bind_some]
      rw [if_pos (by rw [Lib.toList_data])]
      obtain ⟨x, hx, hx2⟩ := slight_is a s ha hs (a.length + b.length + 9) (by omega)
      obtain ⟨y, hy, hy2⟩ := slight_is b s hb hs (a.length + b.length + 9) (by omega)
      rw [hx, hy]
      simp only [Option.bind_some]
      have jt : laws_FnJoinedParts.j1 (a.length + b.length + 9) a b s true = some true := by simp only [laws_FnJoinedParts.j1, if_true]
      cases x
      · rw [if_neg (by simp)]; exact jt
      · rw [if_pos rfl]
        cases y
        · rw [if_neg (by simp)]; exact jt
        · rw [if_pos rfl]
          obtain ⟨a1, a2, a3⟩ := hx2 rfl
          obtain ⟨b1, b2, b3⟩ := hy2 rfl
          by_cases za : (a.length : Int) = 0
          · rw [if_pos za]; exact jt
          · rw [if_neg za]
            by_cases zb : ((b.length : Int) == 0) = true
            · rw [zb]; exact jt
            · have zb' : ((b.length : Int) == 0) = false := by simpa using zb
              rw [zb']
              simp only [laws_FnJoinedParts.j1]
              rw [if_neg (by simp)]
              simp only [Option.bind_some, List.length_nil, List.nil_append]
              have na : a ≠ [] := fun e => za (by rw [e]; rfl)
              have nb : b ≠ [] := fun e => zb (by rw [e]; rfl)
              have la := join_len a s
              have lb := join_len b s
              have lab : (joinL (a ++ b) s).length ≤ 1000000 := by
                rw [join_app a b s na nb]
                simp only [List.length_append, Array.length_toList]
                have : s.data.size = s.size := rfl
                omega
              rw [if_pos (by omega), if_pos (by omega), joined_of (by simp; omega) (by omega), joined_of (by omega) (by omega), joined_of (by omega) (by omega)]
              simp only [Option.bind_some]
              have l2 : joinL [⟨(joinL a s).toArray⟩, ⟨(joinL b s).toArray⟩] s = joinL (a ++ b) s := by rw [join_two, join_app a b s na nb]
              rw [joined_of (by simp) (by rw [l2]; omega), l2]
              simp
    · rw [if_pos rfl]
  unfold laws_FnJoinedParts.f
  rw [fits6_is a _ (by omega), fits6_is b _ (by omega)]
  simp only [Option.bind_some, key]
  repeat' split
  all_goals rfl
end Go.Proofs.Ytbcijcmmpbkkbaa.Q
