/- FnEscaped in plain Lean. -/
import Derived.Test.YtkbaihcamimnjaaDoorQlawsFnEscaped
set_option linter.unusedVariables false
set_option linter.unusedSimpArgs false
namespace Go.Proofs.YtkbaihcamimnjaaDoor.Q
open Go.RowKit Go.Proofs.YtkbaihcamimnjaaDoorW.PrintWords Go.Proofs.YtkbaihcamimnjaaDoorW.PrintLast Go.Proofs.YtkbaihcamimnjaaDoorW.PrintMore
/-- All bytes of a list may stand in a legacy name from a place on. -/
def okAt (off : Nat) (l : List UInt8) : Prop := ∀ j (h : j < l.length), legC true (l[j].toNat : Int) ((off + j : Nat) : Int) = true
theorem okAt_nil (off : Nat) : okAt off [] := fun j h => absurd h (Nat.not_lt_zero _)
theorem okAt_cons {off : Nat} {c : UInt8} {l : List UInt8} (h : legC true (c.toNat : Int) (off : Int) = true) (k : okAt (off + 1) l) : okAt off (c :: l) := by
  intro j hj
  cases j with
  | zero => exact h
  | succ j =>
    have := k j (by simpa using hj)
    rw [show off + (j + 1) = off + 1 + j by omega]
    exact this
theorem okAt_append {off : Nat} : ∀ {a b : List UInt8}, okAt off a → okAt (off + a.length) b → okAt off (a ++ b)
  | [], b, _, hb => by simpa using hb
  | c :: a, b, ha, hb => by
    refine okAt_cons (ha 0 (Nat.zero_lt_succ _)) (okAt_append (fun j hj => ?_) ?_)
    · have := ha (j + 1) (by simpa using hj)
      rw [show off + 1 + j = off + (j + 1) by omega]
      exact this
    · rw [show off + 1 + a.length = off + (c :: a).length by simp; omega]
      exact hb
theorem hexc_ok (d off : Nat) (hd : d < 16) (ho : 0 < off) : legC true ((hexc d).toNat : Int) (off : Int) = true := by
  have : d = 0 ∨ d = 1 ∨ d = 2 ∨ d = 3 ∨ d = 4 ∨ d = 5 ∨ d = 6 ∨ d = 7 ∨ d = 8 ∨ d = 9 ∨ d = 10 ∨ d = 11 ∨ d = 12 ∨ d = 13 ∨ d = 14 ∨ d = 15 := by omega
  rcases this with rfl | rfl | rfl | rfl | rfl | rfl | rfl | rfl | rfl | rfl | rfl | rfl | rfl | rfl | rfl | rfl <;> (simp [legC, hexc]; try omega)
theorem hexD_ok (m : Nat) : ∀ (n off : Nat), n < 16 ^ (m + 1) → 0 < off → okAt off (hexD n) := by
  have one : ∀ n off, n < 16 → 0 < off → okAt off (hexD n) := fun n off h ho => by
    rw [hexD, dif_pos h]
    exact okAt_cons (hexc_ok n off h ho) (okAt_nil _)
  induction m with
  | zero => exact fun n off h ho => one n off (by simpa using h) ho
  | succ m ih =>
    intro n off h ho
    by_cases h16 : n < 16
    · exact one n off h16 ho
    · rw [hexD, dif_neg h16]
      refine okAt_append (ih _ _ (by rw [Nat.pow_succ] at h; exact Nat.div_lt_of_lt_mul (by rw [Nat.mul_comm]; exact h)) ho) (okAt_cons (hexc_ok _ _ (Nat.mod_lt _ (by decide)) (by omega)) (okAt_nil _))
theorem l95 (off : Nat) : legC true (((95 : UInt8).toNat : Nat) : Int) (off : Int) = true := by simp [legC]
theorem escOne_ok (k c i off : Nat) (hc : c ≤ 2147483647) (hi : 0 < i → 0 < off) : okAt off (escOne k c i) := by
  have leg : legC true (c : Int) (i : Int) = true → okAt off [UInt8.ofNat c] := fun h => by
    refine okAt_cons ?_ (okAt_nil _)
    have hs : c < 128 := by simp [legC] at h; omega
    have e : (UInt8.ofNat c).toNat = c := by simp; omega
    rw [e]
    simp [legC] at h ⊢
    omega
  have two : okAt off [95, 95] := okAt_cons (l95 _) (okAt_cons (l95 _) (okAt_nil _))
  unfold escOne
  split
  · split
    · rename_i h; exact leg h
    · exact okAt_cons (l95 _) (okAt_nil _)
  · split
    · exact two
    · split
      · split
        · exact okAt_cons (l95 _) (okAt_cons (by simp [legC]) (okAt_cons (by simp [legC]) (okAt_cons (by simp [legC]) (okAt_cons (l95 _) (okAt_nil _)))))
        · split
          · rename_i h; exact leg h
          · exact two
      · split
        · rename_i h; exact leg h
        · exact okAt_cons (l95 _) (okAt_append (hexD_ok 7 c _ (by omega) (by omega)) (okAt_cons (l95 _) (okAt_nil _)))
theorem escOne_pos (k c i : Nat) : 0 < (escOne k c i).length := by
  unfold escOne
  repeat' split
  all_goals simp
theorem escFrom_ok (k : Nat) (s : ByteArray) (d : Nat) : ∀ (pos off : Nat), s.size - pos ≤ d → (0 < pos → 0 < off) → okAt off (escFrom k s pos) := by
  induction d with
  | zero => exact fun pos off h _ => by rw [escFrom_end k s pos (by omega)]; exact okAt_nil _
  | succ d ih =>
    intro pos off h ho
    by_cases hp : pos < s.size
    · have hw := decode_wide s pos
      rw [escFrom_step k s pos hp]
      have := escOne_pos k (Utf8.decode s pos).1 pos
      exact okAt_append (escOne_ok k _ pos off (decode_le s pos) ho) (ih _ _ (by omega) (by omega))
    · rw [escFrom_end k s pos hp]; exact okAt_nil _
theorem legB_list {l : List UInt8} (h : okAt 0 l) (h0 : 0 < l.length) : legB true ⟨l.toArray⟩ = true := by
  have hs : (⟨l.toArray⟩ : ByteArray).size = l.length := by simp [ByteArray.size]
  refine legB_of (by rw [hs]; exact h0) (fun i hi => ?_)
  have e := bt_nat ⟨l.toArray⟩ i hi
  rw [e]
  have := h i (by rw [← hs]; exact hi)
  rw [Nat.zero_add] at this
  exact this
theorem escF_leg (s : ByteArray) (k : Nat) (hk : k = 1 ∨ k = 2 ∨ k = 3) (h0 : 0 < s.size) : legB true (escF s (k : Int)) = true := by
  have hp : ∀ k, 0 < (escFrom k s 0).length := fun k => by
    rw [escFrom_step k s 0 h0, List.length_append]
    have := escOne_pos k (Utf8.decode s 0).1 0
    omega
  have ok : ∀ k, okAt 0 (escFrom k s 0) := fun k => escFrom_ok k s s.size 0 0 (by omega) (fun h => absurd h (Nat.lt_irrefl _))
  unfold escF
  rw [if_neg (by omega), if_neg (by omega)]
  rcases hk with rfl | rfl | rfl
  · rw [if_pos (by decide)]
    split
    · assumption
    · exact legB_list (ok 1) (hp 1)
  · rw [if_neg (by decide), if_pos (by decide)]
    exact legB_list (ok 2) (hp 2)
  · rw [if_neg (by decide), if_neg (by decide)]
    split
    · assumption
    · refine legB_list (okAt_cons (by simp [legC]) (okAt_cons (l95 _) (okAt_cons (l95 _) (escFrom_ok 3 s s.size 0 _ (by omega) (by omega))))) (by simp)
theorem escF_stays (s : ByteArray) (k : Nat) (hk : k = 1 ∨ k = 3) (h : legB true s = true) : escF s (k : Int) = s := by
  unfold escF
  split
  · rfl
  rcases hk with rfl | rfl <;> simp [h]
theorem escF_size (s : ByteArray) (k : Int) (hs : s.size ≤ 5000) : (escF s k).size ≤ 1000000 := by
  have h1 := escFrom_len 1 s s.size 0 (by omega)
  have h2 := escFrom_len 2 s s.size 0 (by omega)
  have h3 := escFrom_len 3 s s.size 0 (by omega)
  have z : ∀ l : List UInt8, (⟨l.toArray⟩ : ByteArray).size = l.length := fun l => by simp [ByteArray.size]
  unfold escF
  repeat' split
  all_goals first | omega | (rw [z]; omega) | (rw [z]; simp only [List.length_append, List.length_cons, List.length_nil]; omega)
theorem impl_Escape_is (s : ByteArray) (k : Nat) (hk : k < 4) (hs : s.size ≤ 1000000) : impl_Escape.f s (k : Int) = some (escF s (k : Int)) := by
  unfold impl_Escape.f
  rw [if_pos ⟨hs, by omega⟩]
theorem esc_ab : impl_Escape.f ⟨#[97, 46, 98]⟩ 1 = some ⟨#[97, 95, 98]⟩ := by
  unfold impl_Escape.f escF
  rw [if_pos ⟨by decide, by decide⟩, if_neg (by decide), if_neg (by decide), if_pos rfl]
  have hl : legB true ⟨#[97, 46, 98]⟩ = false := by decide
  rw [hl, if_neg (by decide)]
  have hd : ∀ i, i < 3 → Utf8.decode ⟨#[97, 46, 98]⟩ i = (((⟨#[97, 46, 98]⟩ : ByteArray).get! i).toNat, 1) := fun i hi => by
    have : i = 0 ∨ i = 1 ∨ i = 2 := by omega
    rcases this with rfl | rfl | rfl <;> rfl
  have e2 : escFrom 1 ⟨#[97, 46, 98]⟩ 2 = [98] := by
    rw [escFrom_step 1 _ 2 (by decide), hd 2 (by decide)]
    show _ ++ escFrom 1 _ 3 = _
    rw [escFrom_end 1 _ 3 (by decide)]
    rfl
  have e1 : escFrom 1 ⟨#[97, 46, 98]⟩ 1 = [95, 98] := by
    rw [escFrom_step 1 _ 1 (by decide), hd 1 (by decide)]
    show _ ++ escFrom 1 _ 2 = _
    rw [e2]
    rfl
  rw [escFrom_step 1 _ 0 (by decide), hd 0 (by decide)]
  show some (⟨(_ ++ escFrom 1 _ 1).toArray⟩ : ByteArray) = _
  rw [e1]
  rfl
theorem laws_FnEscaped.pure : ∀ (a0 : ByteArray) (a1 : Int), a0.size ≤ 140737488351232 → (Lit.int .u8 a1).wf = true → ∃ k, laws_FnEscaped.f k a0 a1 = some true := by
  intro a0 a1 hsz hw
  refine ⟨1, ?_⟩
  unfold laws_FnEscaped.f
  by_cases h1 : (a0.size : Int) > 2147483647
  · rw [if_pos h1]
  rw [if_neg h1, esc_ab]
  simp only [Option.bind_some]
  rw [if_pos (by kernel_rfl)]
  have skip : laws_FnEscaped.j0 1 a0 a1 true = some true := by rw [laws_FnEscaped.j0, if_pos rfl]
  by_cases h2 : (a0.size : Int) > 5000
  · rw [if_pos h2, skip]
  rw [if_neg h2]
  have hv : utf8_ValidString.f a0 = some (Lib.validD a0.data.toList) := by unfold utf8_ValidString.f; rw [if_pos (by omega)]
  rw [hv]
  simp only [Option.bind_some]
  split
  case isFalse => exact skip
  case isTrue =>
  cases he : (a0.toList == ([] : List UInt8))
  case true => exact skip
  case false =>
  have h0 : 0 < a0.size := by
    rcases Nat.eq_zero_or_pos a0.size with h | h
    · exfalso
      have : a0.toList = [] := by
        rw [ByteArray.toList_eq]
        obtain ⟨⟨l⟩⟩ := a0
        cases l with
        | nil => rfl
        | cons a l => simp [ByteArray.size] at h
      rw [this] at he
      cases he
    · exact h
  have hr : 0 ≤ a1 := by
    have e1 : IntKind.u8.min = 0 := rfl
    simp only [Lit.wf, Bool.and_eq_true, decide_eq_true_eq, e1] at hw
    exact hw.1
  obtain ⟨n, rfl⟩ : ∃ n : Nat, a1 = n := ⟨a1.toNat, by omega⟩
  have ht : wrap64 (Int.tmod (n : Int) 4) = ((n % 4 : Nat) : Int) := by
    rw [Int.tmod_eq_emod_of_nonneg (by omega)]
    unfold wrap64
    omega
  rw [laws_FnEscaped.j0, if_neg (by decide), ht]
  have hm : n % 4 < 4 := Nat.mod_lt _ (by decide)
  generalize n % 4 = m at hm
  clear ht hr hw
  have hz := escF_size a0 (m : Int) (by omega)
  rw [impl_Escape_is a0 m hm (by omega)]
  simp only [Option.bind_some, impl_LegacyMetric.f]
  rcases (by omega : m = 0 ∨ m = 1 ∨ m = 2 ∨ m = 3) with rfl | rfl | rfl | rfl
  · rw [if_pos (by decide)]
    have : escF a0 ((0 : Nat) : Int) = a0 := by unfold escF; rw [if_neg (by omega), if_pos (by decide)]
    rw [this]
    simp
  case inr.inr.inl =>
    rw [if_neg (by decide), if_pos (by decide), escF_leg a0 2 (by omega) h0]
  all_goals
    rw [if_neg (by decide), if_neg (by decide), escF_leg a0 _ (by omega) h0, if_pos rfl, impl_Escape_is _ _ hm hz]
    simp only [Option.bind_some]
    rw [escF_stays _ _ (by omega) (escF_leg a0 _ (by omega) h0), if_pos rfl]
    split
    · rename_i hl
      rw [escF_stays a0 _ (by omega) hl]
      simp
    · rfl
end Go.Proofs.YtkbaihcamimnjaaDoor.Q
