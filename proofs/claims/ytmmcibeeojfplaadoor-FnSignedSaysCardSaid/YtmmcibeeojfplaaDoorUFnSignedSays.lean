/- The law FnSignedSays: what the program says of a text that may have a minus ahead is what the reference says, where it says something. No condition. -/
import Derived.Test.YtmmcibeeojfplaaDoorQlawsFnSignedSays
import Derived.Test.YtmmcibeeojfplaaDoorUDurS
set_option linter.unusedVariables false
set_option linter.unusedSimpArgs false
namespace Go.Proofs.YtmmcibeeojfplaaDoor.Q
open Go.RowKit Go.Proofs.YtmmcibeeojfplaaDoorW.PrintWords Go.Proofs.YtmmcibeeojfplaaDoorW.PrintLast Go.Proofs.YtmmcibeeojfplaaDoorW.PrintMore
theorem dur_1h : durF [49, 104] = some 3600000000000 := by decide +kernel
theorem w_neg (n : Nat) (h : n ≤ 9223372036854775807) : wrap64 (-(n : Int)) = -(n : Int) := by unfold wrap64; omega
/-- The reference's answer to a text that may have a minus ahead, and the program's. -/
theorem signed_is (x0 : ByteArray) (hs : x0.size ≤ 65536) : ∃ r : Int × Int, Ev (fun k => spec_ReadSigned.f k x0) r ∧ (r.2 = 1 → rsF x0.data.toList = (r.1, true)) ∧ (r.2 = 0 → (rsF x0.data.toList).2 = false) := by
  have plain : (∀ k, spec_ReadSigned.f (k + 1) x0 = (spec_ReadDuration.f k x0).bind fun b => some (b.1, b.2)) → x0.data.toList.head? ≠ some 45 →
      ∃ r : Int × Int, Ev (fun k => spec_ReadSigned.f k x0) r ∧ (r.2 = 1 → rsF x0.data.toList = (r.1, true)) ∧ (r.2 = 0 → (rsF x0.data.toList).2 = false) := fun hf hh => by
    obtain ⟨r, ⟨K, hK⟩, hy, hno⟩ := spec_is x0 hs
    have hev : Ev (fun k => (spec_ReadDuration.f k x0).bind fun b => some (b.1, b.2)) r := ⟨K, fun k hk => by simp only [hK k hk]; rfl⟩
    refine ⟨r, hev.step 1 hf, fun h => ?_, fun h => ?_⟩
    · obtain ⟨e, h0⟩ := hy h
      rw [rsF_plain _ hh]
      unfold rdF
      rw [e]
      simp
      omega
    · rw [rsF_plain _ hh]
      unfold rdF
      rw [hno h]
      rfl
  by_cases hz : (x0.size : Int) = 0
  · refine plain (fun k => ?_) ?_
    · unfold spec_ReadSigned.f
      rw [if_pos hz]
      simp only [spec_ReadSigned.j0]
      rw [if_pos trivial]
    · have he : x0.data.toList = [] := List.eq_nil_of_length_eq_zero (by rw [len_is]; omega)
      rw [he]
      simp
  have hpos : 0 < x0.data.toList.length := by rw [len_is]; omega
  have b0 := bt_is x0 0 hpos
  have hl : x0.data.toList = x0.data.toList[0] :: x0.data.toList.drop 1 := by
    have := List.drop_eq_getElem_cons (l := x0.data.toList) (i := 0) hpos
    rw [List.drop_zero] at this
    exact this
  have hf0 : ∀ k, spec_ReadSigned.f k x0 = spec_ReadSigned.j0 k x0 (bt x0 0 != 45) := fun k => by
    unfold spec_ReadSigned.f
    rw [if_neg hz, if_pos (by omega)]
  by_cases h45 : x0.data.toList[0] = 45
  · have hb : (bt x0 0 != 45) = false := by
      show (bt x0 ((0 : Nat) : Int) != 45) = false
      rw [b0, h45]
      rfl
    have hex : (x0.extract 1 x0.size).size ≤ 65536 := by rw [ByteArray.size_extract]; omega
    obtain ⟨r, ⟨K, hK⟩, hy, hno⟩ := spec_is (x0.extract 1 x0.size) hex
    rw [ex_drop] at hy hno
    have hrs : rsF x0.data.toList = (-(((durF (x0.data.toList.drop 1)).getD 0 : Nat) : Int), (durF (x0.data.toList.drop 1)).isSome) := by
      rw [hl, h45]
      exact rsF_minus _
    have hstep : ∀ k, spec_ReadSigned.f (k + 1) x0 = (spec_ReadDuration.f k (x0.extract 1 x0.size)).bind fun b => if b.2 = 1 then (if x0.toList = ([45, 48] : List UInt8) then some (0, 2) else some (wrap64 (-b.1), b.2)) else some (wrap64 (-b.1), b.2) := fun k => by
      rw [hf0, hb]
      simp only [spec_ReadSigned.j0]
      rw [if_neg (by decide), if_pos (by omega)]
    by_cases h1 : r.2 = 1
    · obtain ⟨e, h0⟩ := hy h1
      by_cases hm : x0.toList = ([45, 48] : List UInt8)
      · have hev : Ev (fun k => (spec_ReadDuration.f k (x0.extract 1 x0.size)).bind fun b => if b.2 = 1 then (if x0.toList = ([45, 48] : List UInt8) then some (0, 2) else some (wrap64 (-b.1), b.2)) else some (wrap64 (-b.1), b.2)) ((0 : Int), (2 : Int)) := ⟨K, fun k hk => by simp only [hK k hk, Option.bind_some]; rw [if_pos h1, if_pos hm]⟩
        exact ⟨(0, 2), hev.step 1 hstep, fun h => by simp at h, fun h => by simp at h⟩
      · have hev : Ev (fun k => (spec_ReadDuration.f k (x0.extract 1 x0.size)).bind fun b => if b.2 = 1 then (if x0.toList = ([45, 48] : List UInt8) then some (0, 2) else some (wrap64 (-b.1), b.2)) else some (wrap64 (-b.1), b.2)) (wrap64 (-r.1), r.2) := ⟨K, fun k hk => by simp only [hK k hk, Option.bind_some]; rw [if_pos h1, if_neg hm]⟩
        refine ⟨(wrap64 (-r.1), r.2), hev.step 1 hstep, fun _ => ?_, fun h => by have : r.2 = 0 := h; omega⟩
        have hle := durF_le e
        obtain ⟨n, hn⟩ : ∃ n : Nat, r.1 = n := ⟨r.1.toNat, by omega⟩
        rw [hrs, e]
        show (-(((r.1.toNat : Nat)) : Int), true) = (wrap64 (-r.1), true)
        rw [hn] at hle ⊢
        rw [Int.toNat_natCast] at hle ⊢
        rw [w_neg n hle]
    · have hev : Ev (fun k => (spec_ReadDuration.f k (x0.extract 1 x0.size)).bind fun b => if b.2 = 1 then (if x0.toList = ([45, 48] : List UInt8) then some (0, 2) else some (wrap64 (-b.1), b.2)) else some (wrap64 (-b.1), b.2)) (wrap64 (-r.1), r.2) := ⟨K, fun k hk => by simp only [hK k hk, Option.bind_some]; rw [if_neg h1]⟩
      refine ⟨(wrap64 (-r.1), r.2), hev.step 1 hstep, fun h => absurd h h1, fun h => ?_⟩
      rw [hrs, hno h]
      rfl
  · have hn : (x0.data.toList[0].toNat : Int) ≠ 45 := fun e => h45 (UInt8.toNat_inj.1 (by show x0.data.toList[0].toNat = 45; omega))
    have hb : (bt x0 0 != 45) = true := by
      show (bt x0 ((0 : Nat) : Int) != 45) = true
      rw [b0]
      exact bne_iff_ne.2 hn
    refine plain (fun k => ?_) ?_
    · rw [hf0, hb]
      simp only [spec_ReadSigned.j0]
      rw [if_pos trivial]
    · rw [hl]
      simpa using h45
theorem laws_FnSignedSays.pure : ∀ (a0 : ByteArray), a0.size ≤ 140737488351232 → ∃ k, laws_FnSignedSays.f k a0 = some true := by
  intro a0 _
  have hd : impl_ReadSigned.f ⟨#[45, 49, 104]⟩ = some (-3600000000000, true) := by
    unfold impl_ReadSigned.f
    rw [if_pos (by decide)]
    show some (rsF [45, 49, 104]) = _
    rw [rsF_minus, dur_1h]
    rfl
  by_cases hbig : (a0.size : Int) > 2147483647
  · exact ⟨0, by unfold laws_FnSignedSays.f; rw [if_pos hbig]⟩
  by_cases hlong : a0.size ≤ 65536
  · obtain ⟨r, ⟨K, hK⟩, hy, hno⟩ := signed_is a0 hlong
    have hi : impl_ReadSigned.f a0 = some (rsF a0.data.toList) := by unfold impl_ReadSigned.f; rw [if_pos (by omega)]
    refine ⟨K + 1, ?_⟩
    have hll : laws_long.f a0 = some false := by unfold laws_long.f; simp; omega
    unfold laws_FnSignedSays.f
    rw [if_neg hbig, hd]
    simp only [Option.bind_some, if_true, laws_FnSignedSays.j0, hll, hi, hK K (Nat.le_refl _)]
    rw [if_neg (by decide), if_neg (by decide)]
    by_cases h1 : r.2 = 1
    · rw [if_pos h1, hy h1]
      simp
    rw [if_neg h1]
    by_cases h0 : r.2 = 0
    · rw [if_pos h0, hno h0]
      rfl
    rw [if_neg h0]
  · have hll : laws_long.f a0 = some true := by unfold laws_long.f; simp; omega
    refine ⟨1, ?_⟩
    unfold laws_FnSignedSays.f
    rw [if_neg hbig, hd]
    simp only [Option.bind_some, if_true, laws_FnSignedSays.j0, hll]
    rw [if_neg (by decide)]
end Go.Proofs.YtmmcibeeojfplaaDoor.Q
