/- Plain words: the reference's Valid is UTF-8's validity; its Settled comes to an end. Condition: the sizes named. -/
import Derived.Test.YtkngnoipipnioaaDoorUBy
import Derived.Test.YtkngnoipipnioaaDoorUUtf
import Derived.Test.YtkngnoipipnioaaDoorQA
set_option linter.unusedVariables false
set_option linter.unusedSimpArgs false
namespace Go.Proofs.YtkngnoipipnioaaDoor.Q
open Go.RowKit Go.Proofs.YtkngnoipipnioaaDoorW.PrintWords Go.Proofs.YtkngnoipipnioaaDoorW.PrintLast Go.Proofs.YtkngnoipipnioaaDoorW.PrintMore
theorem ext_extV (s : ByteArray) (i n : Nat) (h : i + n ≤ s.size) : (s.extract i s.size).extract n (s.extract i s.size).size = s.extract (i + n) s.size := by
  have hz : (s.extract i s.size).size = s.size - i := by rw [ByteArray.size_extract]; omega
  rw [hz]
  apply ByteArray.ext_getElem
  · simp only [ByteArray.size_extract]; omega
  · intro j h1 h2
    simp only [ByteArray.getElem_extract, Nat.add_assoc]
/-- Is a text UTF-8 from a place on. -/
def validFV (s : ByteArray) (pos : Nat) : Bool :=
  if h : pos < s.size then (if (Utf8.decode s pos).2 = 1 ∧ 128 ≤ by1 s pos then false else validFV s (pos + (Utf8.decode s pos).2)) else true
termination_by s.size - pos
decreasing_by have := Lib.width_pos s pos; omega
theorem validF_goV (s : ByteArray) (pos : Nat) (h : pos < s.size) : validFV s pos = if (Utf8.decode s pos).2 = 1 ∧ 128 ≤ by1 s pos then false else validFV s (pos + (Utf8.decode s pos).2) := by rw [validFV, dif_pos h]
theorem validF_endV (s : ByteArray) (pos : Nat) (h : ¬ pos < s.size) : validFV s pos = true := by rw [validFV, dif_neg h]
theorem valid_roundV (s : ByteArray) (pos k : Nat) (h : pos < s.size) (r : Option Bool) (hk : 12 ≤ k) (hr : spec_Valid.l0 k (s.extract (pos + (Utf8.decode s pos).2) s.size) = r) :
    spec_Valid.l0 (k + 1) (s.extract pos s.size) = if (Utf8.decode s pos).2 = 1 ∧ 128 ≤ by1 s pos then some false else r := by
  have hz : (s.extract pos s.size).size = s.size - pos := by rw [ByteArray.size_extract]; omega
  have hf := And.intro (Lib.width_pos s pos) (decode_fits0 s pos h)
  have hl := runeLen_is s pos h (k - 12)
  rw [Nat.sub_add_cancel hk] at hl
  have h0 : bt (s.extract pos s.size) 0 = (by1 s pos : Int) := by1_ext s pos 0 (by omega)
  have he := ext_extV s pos _ hf.2
  subst hr
  simp only [spec_Valid.l0]
  rw [if_pos (by omega), hl]
  simp only [Option.bind_some, h0]
  rw [Int.toNat_natCast, he]
  generalize (Utf8.decode s pos).2 = n at *
  clear hl he h0
  by_cases h1 : n = 1
  · rw [if_pos (by omega), if_pos (by omega)]
    by_cases h128 : 128 ≤ by1 s pos
    · rw [if_pos (by omega), if_pos ⟨h1, h128⟩]
    · rw [if_neg (by omega), if_pos (by omega), if_pos (by omega), if_neg (by omega)]
  · rw [if_neg (by omega), if_pos (by omega), if_pos (by omega), if_neg (by omega)]
theorem valid_isV (s : ByteArray) (d : Nat) : ∀ (pos : Nat), s.size - pos ≤ d → ∀ k, d + 14 ≤ k → spec_Valid.l0 k (s.extract pos s.size) = some (validFV s pos) := by
  have ends : ∀ pos k, ¬ pos < s.size → 14 ≤ k → spec_Valid.l0 k (s.extract pos s.size) = some (validFV s pos) := fun pos k h hk => by
    obtain ⟨k, rfl⟩ : ∃ m, k = m + 1 := ⟨k - 1, by omega⟩
    have hz : (s.extract pos s.size).size = s.size - pos := by rw [ByteArray.size_extract]; omega
    simp only [spec_Valid.l0]
    rw [if_neg (by omega), validF_endV s pos h]
  induction d with
  | zero => exact fun pos hd k hk => ends pos k (by omega) (by omega)
  | succ d ih =>
    intro pos hd k hk
    by_cases h : pos < s.size
    · obtain ⟨k, rfl⟩ : ∃ m, k = m + 1 := ⟨k - 1, by omega⟩
      have hw := Lib.width_pos s pos
      rw [valid_roundV s pos k h _ (by omega) (ih (pos + (Utf8.decode s pos).2) (by omega) k (by omega)), validF_goV s pos h]
      split <;> rfl
    · exact ends pos k h (by omega)
theorem width1_err (s : ByteArray) (pos : Nat) (h : pos < s.size) : ((Utf8.decode s pos).2 = 1 ∧ 128 ≤ by1 s pos) ↔ ((Utf8.decode s pos).1 = 65533 ∧ (Utf8.decode s pos).2 = 1) := by
  rw [decode_is s pos h]
  have h0 := by1_lt s pos
  have h1 := by1_lt s (pos + 1)
  have h2 := by1_lt s (pos + 2)
  have h3 := by1_lt s (pos + 3)
  unfold dE dW
  constructor
  · rintro ⟨ha, hb⟩
    refine ⟨?_, ha⟩
    repeat' split at ha
    all_goals first | omega | (repeat' split) <;> first | rfl | omega
  · rintro ⟨ha, hb⟩
    refine ⟨hb, ?_⟩
    repeat' split at ha
    all_goals omega
theorem validFV_is (s : ByteArray) (d : Nat) : ∀ pos, s.size - pos ≤ d → validFV s pos = Lib.validD (s.data.toList.drop pos) := by
  have ends : ∀ pos, ¬ pos < s.size → validFV s pos = Lib.validD (s.data.toList.drop pos) := fun pos h => by
    rw [validF_endV s pos h, List.drop_eq_nil_of_le (by rw [Array.length_toList]; show s.size ≤ pos; omega)]
    rfl
  induction d with
  | zero => exact fun pos h => ends pos (by omega)
  | succ d ih =>
    intro pos hd
    by_cases h : pos < s.size
    · have hw := Lib.width_pos s pos
      have hne : s.data.toList.drop pos ≠ [] := fun e => by
        have := congrArg List.length e
        rw [List.length_drop, Array.length_toList] at this
        have h2 : s.data.size = s.size := rfl
        simp at this
        omega
      rw [validF_goV s pos h, Lib.validD_step _ hne, Lib.decodeL_drop, List.drop_drop, ih (pos + (Utf8.decode s pos).2) (by omega)]
      by_cases hc : (Utf8.decode s pos).2 = 1 ∧ 128 ≤ by1 s pos
      · rw [if_pos hc, if_pos ((width1_err s pos h).1 hc)]
      · rw [if_neg hc, if_neg (fun e => hc ((width1_err s pos h).2 e))]
    · exact ends pos h
theorem svalid_is (l : List UInt8) : Ev (fun k => spec_Valid.f k (mk l)) (Lib.validD l) := by
  refine ⟨(mk l).size + 14, fun k hk => ?_⟩
  have := valid_isV (mk l) (mk l).size 0 (by omega) k hk
  rw [show (mk l).extract 0 (mk l).size = mk l by rw [mk_from]; rfl] at this
  show spec_Valid.l0 k (mk l) = _
  rw [this, validFV_is (mk l) _ 0 (Nat.le_refl _), mk_data, List.drop_zero]
theorem begins_is (l p : List UInt8) : spec_Begins.f (mk l) (mk p) = some (p.isPrefixOf l) := by
  unfold spec_Begins.f
  rw [mk_size, mk_size]
  by_cases h : p.length ≤ l.length
  · rw [if_pos (by omega), if_pos (by omega), Int.toNat_natCast, mk_upto, mk_list, mk_list]
    congr 1
    rw [Bool.eq_iff_iff, beq_iff_eq, List.isPrefixOf_iff_prefix, List.prefix_iff_eq_take]
    exact ⟨fun e => e.symm, fun e => e.symm⟩
  · rw [if_neg (by omega)]
    congr 1
    symm
    rw [Bool.eq_false_iff]
    intro e
    rw [List.isPrefixOf_iff_prefix] at e
    exact h e.length_le
theorem wideBlank_ends (l : List UInt8) : ∃ b, Ev (fun k => spec_wideBlank.f k (mk l)) b := by
  have hend : ∀ (X : List ByteArray), ∃ b, ∀ k, spec_wideBlank.l0 (k + 1) (mk l) X 8 8 = some b := fun X => by
    refine ⟨decide (((mk l).size : Int) > 2 ∧ bt (mk l) 0 = 226 ∧ bt (mk l) 1 = 128 ∧ bt (mk l) 2 ≥ 128 ∧ bt (mk l) 2 ≤ 138), fun k => ?_⟩
    simp only [spec_wideBlank.l0]
    rw [if_neg (by decide)]
    have e : (if ((mk l).size : Int) > 2 then (if 0 < ((mk l).size : Int) then (if bt (mk l) 0 = 226 then (if 1 < ((mk l).size : Int) then (if bt (mk l) 1 = 128 then (if 2 < ((mk l).size : Int) then (if bt (mk l) 2 ≥ 128 then some (decide (bt (mk l) 2 ≤ 138)) else some false) else none) else some false) else none) else some false) else none) else some false) = some (decide (((mk l).size : Int) > 2 ∧ bt (mk l) 0 = 226 ∧ bt (mk l) 1 = 128 ∧ bt (mk l) 2 ≥ 128 ∧ bt (mk l) 2 ≤ 138)) := by
      by_cases h : ((mk l).size : Int) > 2
      · rw [if_pos h, if_pos (by omega), if_pos (by omega : 1 < ((mk l).size : Int)), if_pos (by omega : 2 < ((mk l).size : Int))]
        by_cases h1 : bt (mk l) 0 = 226 <;> by_cases h2 : bt (mk l) 1 = 128 <;> by_cases h3 : bt (mk l) 2 ≥ 128 <;> simp [h, h1, h2, h3]
      · rw [if_neg h, decide_eq_false (fun g => h g.1)]
    exact e
  have key : ∀ (X : List ByteArray), X.length = 8 → ∀ (n i : Nat), i + n = 8 → ∃ b, Ev (fun k => spec_wideBlank.l0 k (mk l) X 8 (i : Int)) b := by
    intro X hX n
    induction n with
    | zero =>
      intro i hi
      obtain ⟨b, hb⟩ := hend X
      obtain rfl : i = 8 := by omega
      exact ⟨b, Ev.now 1 hb⟩
    | succ n ih =>
      intro i hi
      obtain ⟨b, hb⟩ := ih (i + 1) (by omega)
      obtain ⟨t, ht⟩ : ∃ t, spec_Begins.f (mk l) (rdOf ByteArray.empty X (i : Int)) = some t := ⟨_, by rw [← mk_eta (rdOf ByteArray.empty X (i : Int))]; exact begins_is l _⟩
      have st : ∀ k, spec_wideBlank.l0 (k + 1) (mk l) X 8 (i : Int) = if t = true then some true else spec_wideBlank.l0 k (mk l) X 8 ((i + 1 : Nat) : Int) := fun k => by
        simp only [spec_wideBlank.l0]
        rw [if_pos (by omega), if_pos (by omega), if_pos (by omega), ht, Option.bind_some, w64s i (by omega)]
      cases t
      · exact ⟨b, Ev.step hb 1 (fun k => by rw [st, if_neg (by decide)])⟩
      · exact ⟨true, Ev.now 1 (fun k => by rw [st, if_pos rfl])⟩
  unfold spec_wideBlank.f
  obtain ⟨b, hb⟩ := key [(⟨#[194, 133]⟩ : ByteArray), ⟨#[194, 160]⟩, ⟨#[225, 154, 128]⟩, ⟨#[226, 128, 168]⟩, ⟨#[226, 128, 169]⟩, ⟨#[226, 128, 175]⟩, ⟨#[226, 129, 159]⟩, ⟨#[227, 128, 128]⟩] rfl 8 0 rfl
  exact ⟨b, hb⟩
theorem settled_ends (l : List UInt8) (hl : l.length ≤ 10000000) : ∃ b, Ev (fun k => spec_Settled.f k (mk l)) b := by
  unfold spec_Settled.f
  have key : ∀ (n i : Nat), i + n = l.length → ∃ b, Ev (fun k => spec_Settled.l0 k (mk l) (l.length : Int) (i : Int)) b := by
    intro n
    induction n with
    | zero =>
      intro i hi
      refine ⟨true, Ev.now 1 (fun k => ?_)⟩
      simp only [spec_Settled.l0]
      rw [if_neg (by omega)]
    | succ n ih =>
      intro i hi
      obtain ⟨b, hb⟩ := ih (i + 1) (by omega)
      obtain ⟨t, ht⟩ := wideBlank_ends (l.drop i)
      have st : ∀ k, spec_Settled.l0 (k + 1) (mk l) (l.length : Int) (i : Int) = (spec_wideBlank.f k (mk (l.drop i))).bind fun t => if t = true then some false else spec_Settled.l0 k (mk l) (l.length : Int) ((i + 1 : Nat) : Int) := fun k => by
        simp only [spec_Settled.l0]
        rw [if_pos (by omega), if_pos (by omega), if_pos (by rw [mk_size]; omega), w64s i (by omega), Int.toNat_natCast, mk_from]
      cases t
      · exact ⟨b, Ev.step (Ev.bind (G := fun k t => if t = true then some false else spec_Settled.l0 k (mk l) (l.length : Int) ((i + 1 : Nat) : Int)) ht (by simpa using hb)) 1 st⟩
      · exact ⟨false, Ev.step (Ev.bind (G := fun k t => if t = true then some false else spec_Settled.l0 k (mk l) (l.length : Int) ((i + 1 : Nat) : Int)) ht (by simpa using Ev.const false)) 1 st⟩
  obtain ⟨b, hb⟩ := key l.length 0 (by omega)
  have hv := svalid_is l
  cases hc : Lib.validD l
  · rw [hc] at hv
    exact ⟨false, Ev.bind (G := fun k t => if t = true then spec_Settled.l0 k (mk l) ((mk l).size : Int) 0 else some false) hv (by simpa using Ev.const false)⟩
  · rw [hc] at hv
    refine ⟨b, Ev.bind (G := fun k t => if t = true then spec_Settled.l0 k (mk l) ((mk l).size : Int) 0 else some false) hv ?_⟩
    rw [mk_size]
    simpa using hb
end Go.Proofs.YtkngnoipipnioaaDoor.Q
