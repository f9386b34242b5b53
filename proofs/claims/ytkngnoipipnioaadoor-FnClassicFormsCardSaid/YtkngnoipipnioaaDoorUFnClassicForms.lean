/- FnClassicForms: a matcher is read as the same in all its forms: for every name, value and white space. -/
import Derived.Test.YtkngnoipipnioaaDoorUForms
set_option linter.unusedVariables false
set_option linter.unusedSimpArgs false
namespace Go.Proofs.YtkngnoipipnioaaDoor.Q
open Go.RowKit Go.Lib Go.Proofs.YtkngnoipipnioaaDoorW.PrintWords Go.Proofs.YtkngnoipipnioaaDoorW.PrintLast Go.Proofs.YtkngnoipipnioaaDoorW.PrintMore
def set63 : List UInt8 := [97, 98, 99, 100, 101, 102, 103, 104, 105, 106, 107, 108, 109, 110, 111, 112, 113, 114, 115, 116, 117, 118, 119, 120, 121, 122, 65, 66, 67, 68, 69, 70, 71, 72, 73, 74, 75, 76, 77, 78, 79, 80, 81, 82, 83, 84, 85, 86, 87, 88, 89, 90, 95, 48, 49, 50, 51, 52, 53, 54, 55, 56, 57]
def set68 : List UInt8 := [97, 98, 99, 100, 101, 102, 103, 104, 105, 106, 107, 108, 109, 110, 111, 112, 113, 114, 115, 116, 117, 118, 119, 120, 121, 122, 65, 66, 67, 68, 69, 70, 71, 72, 73, 74, 75, 76, 77, 78, 79, 80, 81, 82, 83, 84, 85, 86, 87, 88, 89, 90, 48, 49, 50, 51, 52, 53, 54, 55, 56, 57, 95, 58, 46, 45, 47, 32]
theorem set63_nm : ∀ c ∈ set63, nmC c false = true := by decide +kernel
theorem set68_pl : ∀ c ∈ set68, plB c = true := by decide +kernel
theorem one_of (L : List UInt8) (r : Nat) (h : r < L.length) : ∃ c ∈ L, (mk L).extract r (r + 1) = mk [c] := by
  refine ⟨L[r], List.getElem_mem h, ?_⟩
  rw [mk_extract, List.drop_eq_getElem_cons h]
  have e : r + 1 - r = 1 := by omega
  rw [e]
  rfl
theorem bt_rng (l : List UInt8) (i : Nat) (h : i < l.length) : 0 ≤ bt (mk l) (i : Int) ∧ bt (mk l) (i : Int) ≤ 255 := by
  rw [bt_mk l i h]
  have := (l[i]).toNat_lt
  omega
theorem old_loop (l : List UInt8) (hl : l.length ≤ 3000) : ∀ (d i : Nat) (acc : List UInt8), i + d = l.length → acc.length ≤ 1 + i → ∃ ext : List UInt8, ext.length = d ∧ (∀ c ∈ ext, nmC c false = true) ∧ Ev (fun k => laws_oldName.l0 k (mk l) (mk acc) (i : Int)) (mk (acc ++ ext))
  | 0, i, acc, hi, _ => by
    refine ⟨[], rfl, fun c hc => by simp at hc, Ev.now 1 (fun k => ?_)⟩
    simp only [laws_oldName.l0]
    rw [if_neg (by rw [mk_size]; omega), List.append_nil]
  | d + 1, i, acc, hi, ha => by
    have hlt : i < l.length := by omega
    have hb := bt_rng l i hlt
    obtain ⟨r, hr, hr2⟩ : ∃ r : Nat, Int.tmod (wrap64 (bt (mk l) (i : Int))) 63 = (r : Int) ∧ r < 63 := by
      rw [w64i _ (by omega) (by omega), Int.tmod_eq_emod_of_nonneg hb.1]
      exact ⟨(bt (mk l) (i : Int) % 63).toNat, by omega, by omega⟩
    obtain ⟨c, hc, hcut⟩ := one_of set63 r (by show r < 63; exact hr2)
    obtain ⟨ext, e1, e2, e3⟩ := old_loop l hl d (i + 1) (acc ++ [c]) (by omega) (by rw [List.length_append]; simp; omega)
    refine ⟨c :: ext, by simp [e1], fun x hx => ?_, ?_⟩
    · rcases List.mem_cons.1 hx with h | h
      · rw [h]; exact set63_nm c hc
      · exact e2 x h
    · have hcut2 : (mk set63).extract ((r : Int)).toNat (((r + 1 : Nat) : Int)).toNat = mk [c] := by rw [Int.toNat_natCast, Int.toNat_natCast]; exact hcut
      have e4 : acc ++ (c :: ext) = acc ++ [c] ++ ext := by simp
      rw [e4]
      refine Ev.step e3 1 (fun k => ?_)
      simp only [laws_oldName.l0]
      rw [if_pos (by rw [mk_size]; omega), if_pos (by omega), hr, if_pos (by omega), w64s r (by omega), if_pos (by omega), if_pos (by omega), w64s i (by omega)]
      show (if (mk acc).size + ((mk set63).extract ((r : Int)).toNat (((r + 1 : Nat) : Int)).toNat).size ≤ 9223372036854775807 then laws_oldName.l0 k (mk l) (mk acc ++ (mk set63).extract ((r : Int)).toNat (((r + 1 : Nat) : Int)).toNat) ((i + 1 : Nat) : Int) else none) = _
      rw [hcut2, if_pos (by rw [mk_size, mk_size]; simp; omega), mk_append]
theorem plain_loop (l : List UInt8) (hl : l.length ≤ 3000) : ∀ (d i : Nat) (acc : List UInt8), i + d = l.length → acc.length ≤ 1 + i → ∃ ext : List UInt8, ext.length = d ∧ (∀ c ∈ ext, plB c = true) ∧ Ev (fun k => laws_plainValue.l0 k (mk l) (mk acc) (i : Int)) (mk (acc ++ (ext ++ [122])))
  | 0, i, acc, hi, ha => by
    refine ⟨[], rfl, fun c hc => by simp at hc, Ev.now 1 (fun k => ?_)⟩
    simp only [laws_plainValue.l0]
    rw [if_neg (by rw [mk_size]; omega), if_pos (by rw [mk_size]; omega), List.nil_append]
    exact congrArg some (mk_append acc [122])
  | d + 1, i, acc, hi, ha => by
    have hlt : i < l.length := by omega
    have hb := bt_rng l i hlt
    obtain ⟨r, hr, hr2⟩ : ∃ r : Nat, Int.tmod (wrap64 (bt (mk l) (i : Int))) 68 = (r : Int) ∧ r < 68 := by
      rw [w64i _ (by omega) (by omega), Int.tmod_eq_emod_of_nonneg hb.1]
      exact ⟨(bt (mk l) (i : Int) % 68).toNat, by omega, by omega⟩
    obtain ⟨c, hc, hcut⟩ := one_of set68 r (by show r < 68; exact hr2)
    obtain ⟨ext, e1, e2, e3⟩ := plain_loop l hl d (i + 1) (acc ++ [c]) (by omega) (by rw [List.length_append]; simp; omega)
    refine ⟨c :: ext, by simp [e1], fun x hx => ?_, ?_⟩
    · rcases List.mem_cons.1 hx with h | h
      · rw [h]; exact set68_pl c hc
      · exact e2 x h
    · have hcut2 : (mk set68).extract ((r : Int)).toNat (((r + 1 : Nat) : Int)).toNat = mk [c] := by rw [Int.toNat_natCast, Int.toNat_natCast]; exact hcut
      have e4 : acc ++ (c :: ext ++ [122]) = acc ++ [c] ++ (ext ++ [122]) := by simp
      rw [e4]
      refine Ev.step e3 1 (fun k => ?_)
      simp only [laws_plainValue.l0]
      rw [if_pos (by rw [mk_size]; omega), if_pos (by omega), hr, if_pos (by omega), w64s r (by omega), if_pos (by omega), if_pos (by omega), w64s i (by omega)]
      show (if (mk acc).size + ((mk set68).extract ((r : Int)).toNat (((r + 1 : Nat) : Int)).toNat).size ≤ 9223372036854775807 then laws_plainValue.l0 k (mk l) (mk acc ++ (mk set68).extract ((r : Int)).toNat (((r + 1 : Nat) : Int)).toNat) ((i + 1 : Nat) : Int) else none) = _
      rw [hcut2, if_pos (by rw [mk_size, mk_size]; simp; omega), mk_append]
theorem gap_blk (l : List Int) (i : Nat) : ∀ c ∈ (gapS l i).data.toList, blk c = true := by
  unfold gapS gap5
  repeat' split
  all_goals decide
theorem laws_FnClassicForms.pure : ∀ (a0 : ByteArray) (a1 : ByteArray) (l2 : List Int) (a3 : Bool), a0.size ≤ 140737488351232 → a1.size ≤ 140737488351232 → l2.length ≤ 9223372036854775807 → laws_FnClassicForms.f a0 a1 l2 a3 = some true := by
  intro a0 a1 l2 a3 _ _ _
  unfold laws_FnClassicForms.f
  by_cases hb : 3000 < a0.size ∨ 3000 < a1.size ∨ 2147483647 < l2.length
  · rw [if_pos hb]
  rw [if_neg hb, if_pos]
  have h0 : a0.data.toList.length ≤ 3000 := by rw [Array.length_toList]; show a0.size ≤ 3000; omega
  have h1 : a1.data.toList.length ≤ 3000 := by rw [Array.length_toList]; show a1.size ≤ 3000; omega
  obtain ⟨e0, p1, p2, p3⟩ := old_loop a0.data.toList h0 a0.data.toList.length 0 [110] (by omega) (by simp)
  obtain ⟨e1, q1, q2, q3⟩ := plain_loop a1.data.toList h1 a1.data.toList.length 0 [97] (by omega) (by simp)
  obtain ⟨k1, hk1⟩ := p3.has
  obtain ⟨k2, hk2⟩ := q3.has
  rw [mk_eta] at hk1 hk2
  have hcl := fun b => clsP_forms (gapS l2 0).data.toList ([110] ++ e0) (gapS l2 1).data.toList (gapS l2 2).data.toList (gapS l2 3).data.toList ([97] ++ (e1 ++ [122])) b (gap_blk l2 0) (gap_blk l2 1) (gap_blk l2 2) (gap_blk l2 3) 110 e0 rfl (by decide) p2 e1 rfl q2
  refine ⟨mk ([110] ++ e0), mk ([97] ++ (e1 ++ [122])), k1, k2, hk1, hk2, by rw [mk_size]; simp; omega, by rw [mk_size]; simp; omega, ?_, ?_⟩
  · unfold clsB
    have e : (form1 (mk ([110] ++ e0)) (mk ([97] ++ (e1 ++ [122]))) l2 a3).data.toList = (gapS l2 0).data.toList ++ ([110] ++ e0) ++ (gapS l2 1).data.toList ++ (opS a3).data.toList ++ (gapS l2 2).data.toList ++ ([97] ++ (e1 ++ [122])) ++ (gapS l2 3).data.toList := by
      unfold form1
      simp only [ByteArray.data_append, Array.toList_append, mk_data]
    rw [e, (hcl a3).1]
    rfl
  · unfold clsB
    have e : (form2 (mk ([110] ++ e0)) (mk ([97] ++ (e1 ++ [122]))) l2 a3).data.toList = (gapS l2 3).data.toList ++ ([110] ++ e0) ++ (gapS l2 2).data.toList ++ (opS a3).data.toList ++ (gapS l2 1).data.toList ++ (34 :: (([97] ++ (e1 ++ [122])) ++ [34])) ++ (gapS l2 0).data.toList := by
      unfold form2 quoT
      simp only [ByteArray.data_append, Array.toList_append, mk_data]
      simp
    rw [e, (hcl a3).2]
    rfl
end Go.Proofs.YtkngnoipipnioaaDoor.Q
