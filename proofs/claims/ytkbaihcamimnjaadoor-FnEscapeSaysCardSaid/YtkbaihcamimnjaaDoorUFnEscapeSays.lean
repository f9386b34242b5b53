/- FnEscapeSays in plain Lean. -/
import Derived.Test.YtkbaihcamimnjaaDoorUEscS
import Derived.Test.YtkbaihcamimnjaaDoorQlawsFnEscapeSays
set_option linter.unusedVariables false
set_option linter.unusedSimpArgs false
namespace Go.Proofs.YtkbaihcamimnjaaDoor.Q
open Go.RowKit Go.Proofs.YtkbaihcamimnjaaDoorW.PrintWords Go.Proofs.YtkbaihcamimnjaaDoorW.PrintLast Go.Proofs.YtkbaihcamimnjaaDoorW.PrintMore
theorem fits_is (c : Int) (b : Bool) (i : Int) (h : b = true ↔ ¬ 0 < i) : spec_fits.f c b = some (legC true c i) := by
  unfold spec_fits.f
  simp only [letter_is, digit_is, Option.bind_some]
  by_cases h1 : letterB c = true
  · rw [if_pos h1]
    have : legC true c i = true := (legC_iff _ _ _).2 (by simp [letterB] at h1; omega)
    rw [this]
  · rw [if_neg h1]
    have h1' : ¬ (97 ≤ c ∧ c ≤ 122 ∨ 65 ≤ c ∧ c ≤ 90 ∨ c = 95) := by simpa [letterB] using h1
    by_cases h2 : c = 58
    · rw [if_pos h2, (legC_iff _ _ _).2 (by simp [h2])]
    · rw [if_neg h2]
      by_cases h3 : digitB c = true
      · rw [if_pos h3]
        have h3' : 48 ≤ c ∧ c ≤ 57 := by simpa [digitB] using h3
        cases b
        · rw [(legC_iff _ _ _).2 (by have : 0 < i := by (by_cases hi : 0 < i); exact hi; exact absurd (h.2 hi) (by simp)
                                     omega)]; rfl
        · rw [(legC_false _ _ _).2 (by have := h.1 rfl; simp; omega)]; rfl
      · rw [if_neg h3]
        have h3' : ¬ (48 ≤ c ∧ c ≤ 57) := by simpa [digitB] using h3
        rw [(legC_false _ _ _).2 (by simp; omega)]
theorem bytes1 (s : ByteArray) (i : Nat) (h : i < s.size) : s.extract i (i + 1) = ⟨#[UInt8.ofNat (by1 s i)]⟩ := by
  apply ByteArray.ext_getElem
  · rw [ByteArray.size_extract]; show min (i + 1) s.size - i = 1; omega
  · intro j h1 h2
    have hj : j = 0 := by
      rw [ByteArray.size_extract] at h1
      omega
    subst hj
    simp only [ByteArray.getElem_extract, Nat.add_zero]
    obtain ⟨⟨l⟩⟩ := s
    have h' : i < l.length := h
    simp [by1, ByteArray.get!, h']
    rfl
/-- What the reference's loop says: what it has and what is to come, or that it is open. -/
def saysL (k : Nat) (s acc : ByteArray) (pos : Nat) (r : Option (ByteArray × Int)) : Prop := ∃ o y, r = some (o, y) ∧ (y = 1 → o = acc ++ ⟨(escFrom k s pos).toArray⟩)
theorem saysL_step {k : Nat} {s acc : ByteArray} {pos : Nat} (h : pos < s.size) {out : List UInt8} (ho : escOne k (Utf8.decode s pos).1 pos = out) {r : Option (ByteArray × Int)} (hr : saysL k s (acc ++ ⟨out.toArray⟩) (pos + (Utf8.decode s pos).2) r) : saysL k s acc pos r := by
  obtain ⟨o, y, e, hy⟩ := hr
  refine ⟨o, y, e, fun h1 => ?_⟩
  rw [hy h1, escFrom_step k s pos h, ho, ByteArray.append_assoc]
  congr 1
theorem mono4 {k k' : Nat} (h : k ≤ k') (n : Nat) (R : ByteArray) (hh : spec_hexadecimal.f k (n : Int) = some R) : spec_hexadecimal.f k' (n : Int) = some R := at_rounds (spec_hexadecimal.mono (n : Int)) h hh
theorem ok_is (s : ByteArray) (pos : Nat) (h : pos < s.size) (hv : ¬ ((Utf8.decode s pos).2 = 1 ∧ 128 ≤ by1 s pos)) :
    (if ((Utf8.decode s pos).2 : Int) = 1 then spec_fits.f (bt s (pos : Int)) ((pos : Int) == 0) else some false) = some (legC true (Utf8.decode s pos).1 pos) := by
  have hb := by1_at s pos h
  rw [hb]
  rw [decode_is s pos h] at hv ⊢
  have hdE : dE (s.size - pos) (by1 s pos) (by1 s (pos + 1)) (by1 s (pos + 2)) (by1 s (pos + 3)) = if dW (s.size - pos) (by1 s pos) (by1 s (pos + 1)) (by1 s (pos + 2)) (by1 s (pos + 3)) = 1 then by1 s pos else dE (s.size - pos) (by1 s pos) (by1 s (pos + 1)) (by1 s (pos + 2)) (by1 s (pos + 3)) := by
    split
    · rename_i h1
      have hv' : ¬ 128 ≤ by1 s pos := fun h => hv ⟨h1, h⟩
      unfold dE
      rw [h1, if_neg (by omega), if_neg (by omega), if_neg (by omega), if_neg (by omega), if_pos (by omega)]
    · rfl
  by_cases h1 : dW (s.size - pos) (by1 s pos) (by1 s (pos + 1)) (by1 s (pos + 2)) (by1 s (pos + 3)) = 1
  · rw [if_pos h1] at hdE
    simp only
    rw [if_pos (by omega), hdE]
    exact fits_is _ _ _ (by simp)
  · simp only
    rw [if_neg (by omega)]
    have hh := decode_high s pos h
    rw [decode_is s pos h] at hh
    have h128 : 128 ≤ by1 s pos := by
      by_cases h2 : 128 ≤ by1 s pos
      · exact h2
      · exfalso
        apply h1
        exact dW_not2 (by omega) (by omega) (by omega)
    have e : (s[pos]'h).toNat = by1 s pos := by
      have := bt_nat' s pos h
      rw [hb] at this
      exact (Int.ofNat.inj this).symm
    have := (hh (by rw [e]; exact h128)).1
    simp only at this
    rw [legC_high true _ _ (by omega)]
theorem size_of (l : List UInt8) : (⟨l.toArray⟩ : ByteArray).size = l.length := by simp [ByteArray.size]
theorem wadd (a b : Nat) (h : a + b < 9223372036854775808) : wrap64 ((a : Int) + (b : Int)) = ((a + b : Nat) : Int) := by unfold wrap64; omega
theorem dec46 (s : ByteArray) (pos : Nat) (h : pos < s.size) (h46 : by1 s pos = 46) : (Utf8.decode s pos).1 = 46 := by
  rw [decode_is s pos h]
  have hw1 : dW (s.size - pos) (by1 s pos) (by1 s (pos + 1)) (by1 s (pos + 2)) (by1 s (pos + 3)) = 1 := dW_not2 (by omega) (by omega) (by omega)
  unfold dE
  rw [hw1, if_neg (by omega), if_neg (by omega), if_neg (by omega), if_neg (by omega), if_pos (by omega)]
  exact h46
theorem dec_leg (s : ByteArray) (pos : Nat) (h : pos < s.size) (hc : legC true (Utf8.decode s pos).1 pos = true) : (Utf8.decode s pos).2 = 1 ∧ (Utf8.decode s pos).1 = by1 s pos := by
  by_cases h128 : 128 ≤ by1 s pos
  · have e : (s[pos]'h).toNat = by1 s pos := by
      have := bt_nat' s pos h
      rw [by1_at s pos h] at this
      exact (Int.ofNat.inj this).symm
    have hh := (decode_high s pos h (by rw [e]; exact h128)).1
    rw [legC_high true _ _ (by omega)] at hc
    cases hc
  · rw [decode_is s pos h]
    have hw1 : dW (s.size - pos) (by1 s pos) (by1 s (pos + 1)) (by1 s (pos + 2)) (by1 s (pos + 3)) = 1 := dW_not2 (by omega) (by omega) (by omega)
    unfold dE
    rw [hw1, if_neg (by omega), if_neg (by omega), if_neg (by omega), if_neg (by omega), if_pos (by omega)]
    exact ⟨rfl, rfl⟩
set_option maxHeartbeats 1000000 in
theorem esc_loop (s : ByteArray) (hs : s.size ≤ 1000000) (e : Nat) (he : e = 1 ∨ e = 2 ∨ e = 3) (d : Nat) : ∀ (pos : Nat) (acc : ByteArray) (k : Nat), s.size - pos ≤ d → 4 * d + 20 ≤ k → acc.size + 20 * (s.size - pos) ≤ 100000000 → pos ≤ s.size → validF s pos = true →
    saysL e s acc pos (spec_Escape.l0 k s (e : Int) acc (pos : Int)) := by
  have ends : ∀ (pos : Nat) (acc : ByteArray) (k : Nat), ¬ pos < s.size → 1 ≤ k → pos ≤ s.size → saysL e s acc pos (spec_Escape.l0 k s (e : Int) acc (pos : Int)) := fun pos acc k h hk hp => by
    obtain ⟨k, rfl⟩ : ∃ m, k = m + 1 := ⟨k - 1, by omega⟩
    refine ⟨acc, 1, ?_, fun _ => ?_⟩
    · simp only [spec_Escape.l0]
      rw [if_neg (by omega)]
    · rw [escFrom_end e s pos h]
      apply ByteArray.ext
      simp
  induction d with
  | zero => exact fun pos acc k hd hk _ hp _ => ends pos acc k (by omega) (by omega) hp
  | succ d ih =>
    intro pos acc k hd hk hz hp hv
    by_cases h : pos < s.size
    case neg => exact ends pos acc k h (by omega) hp
    obtain ⟨hv1, hv2⟩ := validF_step s pos h hv
    obtain ⟨k, rfl⟩ : ∃ m, k = m + 4 := ⟨k - 4, by omega⟩
    have hf := decode_fits s pos h
    have hl := runeLen_is s pos h (k + 3 - 12)
    rw [Nat.sub_add_cancel (by omega : 12 ≤ k + 3)] at hl
    have hok := ok_is s pos h hv1
    have hpt := point_is s pos h hv1
    have hb := by1_at s pos h
    have hle := decode_le s pos
    have hstep : ∀ (out : List UInt8) (r : Option (ByteArray × Int)), escOne e (Utf8.decode s pos).1 pos = out → saysL e s (acc ++ ⟨out.toArray⟩) (pos + (Utf8.decode s pos).2) r → saysL e s acc pos r := fun out r ho hr => saysL_step h ho hr
    have h46' := dec46 s pos h
    have hleg := dec_leg s pos h
    generalize Utf8.decode s pos = dd at *
    obtain ⟨c, n⟩ := dd
    simp only at hf hok hpt hle hstep hl h46' hleg hv2 ⊢
    have rec_ : ∀ (out : List UInt8) (k' : Nat), k ≤ k' → out.length ≤ 20 → escOne e c pos = out → saysL e s acc pos (spec_Escape.l0 k' s (e : Int) (acc ++ ⟨out.toArray⟩) (wrap64 ((pos : Int) + (n : Int)))) := fun out k' hk' hlo ho => by
      rw [wadd pos n (by omega)]
      refine hstep _ _ ho (ih _ _ _ (by omega) (by omega) ?_ hf.2 hv2)
      rw [ByteArray.size_append, size_of out]
      clear hok hpt hstep h46' ih hl
      omega
    have hrl : spec_Escape.l0 (k + 4) s (e : Int) acc (pos : Int) = spec_Escape.j4 (k + 3) s (e : Int) acc (pos : Int) (n : Int) (legC true c pos) := by
      rw [spec_Escape.l0, if_pos (by omega), if_pos (by omega), if_pos (by omega), Int.toNat_natCast, hl]
      simp only [Option.bind_some]
      by_cases h1 : (n : Int) = 1
      · rw [if_pos h1] at hok ⊢
        rw [hok]; rfl
      · rw [if_neg h1] at hok ⊢
        rw [← Option.some.inj hok]
    rw [hrl, spec_Escape.j4]
    clear hrl hl hv1 hv2 hok hstep ih ends
    cases hc : legC true c pos
    · -- not one that stays
      have hc95 : c ≠ 95 := fun h95 => by subst h95; simp [legC] at hc
      rw [if_neg (by simp), spec_Escape.j5, if_neg (by simp), if_neg (by simp)]
      rcases he with rfl | rfl | rfl
      · rw [if_pos (by omega), if_pos (by omega)]
        exact rec_ [95] _ (by omega) (by simp) (by simp [escOne, hc])
      · rw [if_neg (by omega), if_pos (by omega), if_pos (by omega), if_pos (by omega), hb, spec_Escape.j6]
        by_cases h46 : by1 s pos = 46
        · have hc46 : c = 46 := h46' h46
          rw [if_pos (by rw [h46]; rfl), if_pos (by omega)]
          exact rec_ [95, 100, 111, 116, 95] _ (by omega) (by simp) (by simp [escOne, hc46])
        · rw [if_neg (by simp; omega), if_pos (by omega)]
          exact ⟨_, _, rfl, fun h => by cases h⟩
      · have hhx := hex_is 7 c (by omega) (by omega) k (by omega)
        have hhl : (hexD c).length ≤ 8 := hexD_len 7 c (by omega)
        have hs1 : (⟨(hexD c).toArray⟩ : ByteArray).size = (hexD c).length := size_of _
        rw [if_neg (by omega), if_neg (by omega), spec_Escape.j6, if_neg (by simp), if_neg (by omega), if_pos (by omega), if_pos (by omega), Int.toNat_natCast, hpt]
        simp only [Option.bind_some, hhx]
        have e1 : ((⟨#[95]⟩ : ByteArray) ++ ⟨(hexD c).toArray⟩).size = 1 + (hexD c).length := by rw [ByteArray.size_append, hs1]; rfl
        have e2 : (((⟨#[95]⟩ : ByteArray) ++ ⟨(hexD c).toArray⟩) ++ (⟨#[95]⟩ : ByteArray)).size = 1 + (hexD c).length + 1 := by rw [ByteArray.size_append, e1]; rfl
        rw [if_pos (by omega), if_pos (by omega), if_pos (by omega)]
        have e3 : (((⟨#[95]⟩ : ByteArray) ++ ⟨(hexD c).toArray⟩) ++ (⟨#[95]⟩ : ByteArray)) = ⟨(95 :: (hexD c ++ [95])).toArray⟩ := by apply ByteArray.ext; simp
        rw [e3]
        exact rec_ _ _ (by omega) (by simp; omega) (by simp [escOne, hc, hc95])
    · obtain ⟨rfl, rfl⟩ := hleg hc
      have hbl := by1_lt s pos
      have hx : s.extract ((pos : Int)).toNat (wrap64 ((pos : Int) + 1)).toNat = ⟨#[UInt8.ofNat (by1 s pos)]⟩ := by
        have := wadd pos 1 (by omega)
        rw [show ((1 : Nat) : Int) = 1 from rfl] at this
        rw [this, Int.toNat_natCast, Int.toNat_natCast]
        exact bytes1 s pos h
      have hw : wrap64 ((pos : Int) + 1) = ((pos + 1 : Nat) : Int) := wadd pos 1 (by omega)
      have hs1 : (⟨#[UInt8.ofNat (by1 s pos)]⟩ : ByteArray).size = 1 := rfl
      rw [if_pos rfl, if_pos (by omega), if_pos (by omega), hb]
      by_cases h95 : by1 s pos = 95
      · rw [if_pos (by omega), spec_Escape.j5]
        rcases he with rfl | rfl | rfl
        · rw [if_neg (by simp), if_pos rfl, hx, hs1, hw, if_pos (by omega), if_pos (by omega), if_pos (by omega), if_pos (by omega)]
          exact rec_ [UInt8.ofNat (by1 s pos)] _ (by omega) (by simp) (by simp [escOne, hc])
        all_goals
          rw [if_pos (by simp), if_pos (by omega)]
          exact rec_ [95, 95] _ (by omega) (by simp) (by simp [escOne, h95])
      · rw [if_neg (by omega), spec_Escape.j5, if_neg (by simp), if_pos rfl, hx, hs1, hw, if_pos (by omega), if_pos (by omega), if_pos (by omega), if_pos (by omega)]
        have h46 : by1 s pos ≠ 46 := fun h => by rw [h] at hc; simp [legC] at hc
        exact rec_ [UInt8.ofNat (by1 s pos)] _ (by omega) (by simp) (by simp [escOne, hc, h95, h46])
theorem toList_size (s : ByteArray) : s.toList = ([] : List UInt8) ↔ s.size = 0 := by
  rw [ByteArray.toList_eq]
  obtain ⟨⟨l⟩⟩ := s
  cases l <;> simp [ByteArray.size]
theorem ext_all (s : ByteArray) : s.extract 0 s.size = s := by
  apply ByteArray.ext_getElem
  · rw [ByteArray.size_extract]; omega
  · intro j h1 h2
    simp only [ByteArray.getElem_extract, Nat.zero_add]
set_option maxHeartbeats 1000000 in
theorem specEsc_is (s : ByteArray) (hs : s.size ≤ 5000) (e : Nat) (he : e < 4) : ∃ o y, spec_Escape.f 30000 s (e : Int) = some (o, y) ∧ (y = 1 → o = escF s (e : Int)) := by
  unfold spec_Escape.f
  by_cases h0 : e = 0
  · subst h0
    refine ⟨s, 1, by rw [if_pos (by omega)], fun _ => ?_⟩
    unfold escF
    split
    · rfl
    · rw [if_pos (by omega)]
  rw [if_neg (by omega), if_neg (by omega), if_neg (by omega)]
  have opn : ∀ k, ∃ o y, spec_Escape.j0 (k + 1) s (e : Int) true = some (o, y) ∧ (y = 1 → o = escF s (e : Int)) := fun k => ⟨⟨#[]⟩, 2, by rw [spec_Escape.j0, if_pos rfl], fun h => by cases h⟩
  by_cases hz : s.size = 0
  · rw [if_pos ((toList_size s).2 hz)]
    exact opn 29999
  rw [if_neg (fun h => hz ((toList_size s).1 h))]
  have hval : spec_Valid.f 30000 s = some (validF s 0) := by
    have := valid_is s s.size 0 (by omega) 30000 (by omega)
    rwa [ext_all] at this
  rw [hval]
  simp only [Option.bind_some]
  cases hv : validF s 0
  · exact opn 29999
  have hleg := specMetric_is s (by omega) 29999 (by omega)
  clear opn
  obtain ⟨k, hk⟩ : ∃ k, k = 29999 := ⟨_, rfl⟩
  rw [← hk] at hleg
  rw [show (30000 : Nat) = k + 1 by omega, spec_Escape.j0, if_neg (by simp), hleg]
  simp only [Option.bind_some]
  have hlp : ∀ (acc : ByteArray) (k : Nat), 25000 ≤ k → acc.size ≤ 10 → saysL e s acc 0 (spec_Escape.l0 k s (e : Int) acc 0) := fun acc k hk ha => esc_loop s (by omega) e (by omega) s.size 0 acc k (by omega) (by omega) (by omega) (by omega) hv
  have fin : ∀ (acc : ByteArray) (k : Nat) (l : List UInt8), 25000 ≤ k → acc.size ≤ 10 → acc = ⟨l.toArray⟩ → ∃ o y, spec_Escape.l0 k s (e : Int) acc 0 = some (o, y) ∧ (y = 1 → o = ⟨(l ++ escFrom e s 0).toArray⟩) := fun acc k l hk ha hl => by
    obtain ⟨o, y, h1, h2⟩ := hlp acc k hk ha
    refine ⟨o, y, h1, fun hy => ?_⟩
    rw [h2 hy, hl]
    apply ByteArray.ext
    simp
  obtain ⟨k2, hk2⟩ : ∃ k2, k = k2 + 2 := ⟨k - 2, by omega⟩
  subst hk2
  have stay : ∀ k', ∃ o y, spec_Escape.j1 (k' + 1) s (e : Int) true = some (o, y) ∧ (y = 1 → o = s) := fun k' => ⟨s, 1, by rw [spec_Escape.j1, if_pos rfl], fun _ => rfl⟩
  rcases (by omega : e = 1 ∨ e = 2 ∨ e = 3) with rfl | rfl | rfl
  · have hE : escF s ((1 : Nat) : Int) = if legB true s = true then s else ⟨(escFrom 1 s 0).toArray⟩ := by unfold escF; rw [if_neg hz, if_neg (by decide), if_pos (by decide)]
    rw [hE]
    cases hl : legB true s
    · rw [if_neg (by decide), if_neg (by decide), spec_Escape.j1, if_neg (by decide), if_neg (by decide), spec_Escape.j2]
      exact fin ⟨#[]⟩ k2 [] (by omega) (by decide) rfl
    · rw [if_pos rfl, if_pos rfl]
      exact stay _
  · have hE : escF s ((2 : Nat) : Int) = ⟨(escFrom 2 s 0).toArray⟩ := by unfold escF; rw [if_neg hz, if_neg (by decide), if_neg (by decide), if_pos (by decide)]
    rw [hE]
    have hj : (if legB true s = true then spec_Escape.j1 (k2 + 2) s ((2 : Nat) : Int) (((2 : Nat) : Int) != 2) else spec_Escape.j1 (k2 + 2) s ((2 : Nat) : Int) false) = spec_Escape.j1 (k2 + 2) s ((2 : Nat) : Int) false := by split <;> rfl
    rw [hj, spec_Escape.j1, if_neg (by decide), if_neg (by decide), spec_Escape.j2]
    exact fin ⟨#[]⟩ k2 [] (by omega) (by decide) rfl
  · have hE : escF s ((3 : Nat) : Int) = if legB true s = true then s else ⟨([85, 95, 95] ++ escFrom 3 s 0).toArray⟩ := by unfold escF; rw [if_neg hz, if_neg (by decide), if_neg (by decide), if_neg (by decide)]
    rw [hE]
    cases hl : legB true s
    · rw [if_neg (by decide), if_neg (by decide), spec_Escape.j1, if_neg (by decide), if_pos (by decide), spec_Escape.j2]
      exact fin ⟨#[85, 95, 95]⟩ k2 [85, 95, 95] (by omega) (by decide) rfl
    · rw [if_pos rfl, if_pos rfl]
      exact stay _
theorem esc_ab : impl_Escape.f ⟨#[97, 46, 98]⟩ 1 = some ⟨#[97, 95, 98]⟩ := by
  unfold impl_Escape.f escF
  rw [if_pos ⟨by decide, by decide⟩, if_neg (by decide), if_neg (by decide), if_pos rfl]
  have hl : legB true ⟨#[97, 46, 98]⟩ = false := by decide
  rw [hl, if_neg (by decide)]
  have hd : ∀ i, i < 3 → Utf8.decode ⟨#[97, 46, 98]⟩ i = (by1 ⟨#[97, 46, 98]⟩ i, 1) := fun i hi => by
    have : i = 0 ∨ i = 1 ∨ i = 2 := by omega
    rcases this with rfl | rfl | rfl <;> rfl
  have e2 : escFrom 1 ⟨#[97, 46, 98]⟩ 2 = [98] := by
    rw [escFrom_step 1 _ 2 (by decide), hd 2 (by decide)]
    show _ ++ escFrom 1 _ 3 = _
    rw [escFrom_end 1 _ 3 (by decide)]
    rfl
  have e1 : escFrom 1 ⟨#[97, 46, 98]⟩ 1 = [95, 98] := by
    rw [escFrom_step 1 _ 1 (by decide), hd 1 (by decide)]
    show _ ++ escFrom 1 _ 2 = _
    rw [e2]
    rfl
  rw [escFrom_step 1 _ 0 (by decide), hd 0 (by decide)]
  show some (⟨(_ ++ escFrom 1 _ 1).toArray⟩ : ByteArray) = _
  rw [e1]
  rfl
theorem laws_FnEscapeSays.pure : ∀ (a0 : ByteArray) (a1 : Int), a0.size ≤ 140737488351232 → (Lit.int .u8 a1).wf = true → ∃ k, laws_FnEscapeSays.f k a0 a1 = some true := by
  intro a0 a1 hsz hw
  refine ⟨30000, ?_⟩
  unfold laws_FnEscapeSays.f
  by_cases h1 : (a0.size : Int) > 2147483647
  · rw [if_pos h1]
  rw [if_neg h1, esc_ab]
  simp only [Option.bind_some]
  rw [if_pos (by kernel_rfl)]
  by_cases h2 : (a0.size : Int) > 5000
  · rw [if_pos h2]
  rw [if_neg h2]
  have hr : 0 ≤ a1 := by
    have e1 : IntKind.u8.min = 0 := rfl
    simp only [Lit.wf, Bool.and_eq_true, decide_eq_true_eq, e1] at hw
    exact hw.1
  obtain ⟨n, rfl⟩ : ∃ n : Nat, a1 = n := ⟨a1.toNat, by omega⟩
  have ht : wrap64 (Int.tmod (n : Int) 4) = ((n % 4 : Nat) : Int) := by
    rw [Int.tmod_eq_emod_of_nonneg (by omega)]
    unfold wrap64
    omega
  rw [ht]
  obtain ⟨o, y, e1, e2⟩ := specEsc_is a0 (by omega) (n % 4) (by omega)
  rw [e1]
  simp only [Option.bind_some]
  by_cases hy : y = 1
  · rw [if_pos hy, e2 hy]
    unfold impl_Escape.f
    rw [if_pos ⟨by omega, by omega⟩]
    simp
  · rw [if_neg hy]
end Go.Proofs.YtkbaihcamimnjaaDoor.Q
