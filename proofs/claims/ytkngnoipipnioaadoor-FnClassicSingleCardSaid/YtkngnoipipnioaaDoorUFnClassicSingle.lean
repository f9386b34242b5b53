/- FnClassicSingle: what the reference says of a text, the old reader takes: for every text. -/
import Derived.Test.YtkngnoipipnioaaDoorQlawsFnClassicSingle
import Derived.Test.YtkngnoipipnioaaDoorUCls
set_option linter.unusedVariables false
set_option linter.unusedSimpArgs false
namespace Go.Proofs.YtkngnoipipnioaaDoor.Q
open Go.RowKit Go.Proofs.YtkngnoipipnioaaDoorW.PrintWords Go.Proofs.YtkngnoipipnioaaDoorW.PrintLast Go.Proofs.YtkngnoipipnioaaDoorW.PrintMore
theorem has_is (l : List UInt8) (c : UInt8) (hl : l.length ≤ 10000000) : ∃ b, Ev (fun k => laws_has.f k (mk l) (c.toNat : Int)) b ∧ (b = false → c ∉ l) := by
  unfold laws_has.f
  have key : ∀ (n i : Nat), i + n = l.length → ∃ b, Ev (fun k => laws_has.l0 k (mk l) (c.toNat : Int) (i : Int)) b ∧ (b = false → c ∉ l.drop i) := by
    intro n
    induction n with
    | zero =>
      intro i hi
      refine ⟨false, Ev.now 1 (fun k => ?_), fun _ => ?_⟩
      · simp only [laws_has.l0]
        rw [if_neg (by rw [mk_size]; omega)]
      · rw [List.drop_eq_nil_of_le (by omega)]; simp
    | succ n ih =>
      intro i hi
      obtain ⟨b, hb, hn⟩ := ih (i + 1) (by omega)
      have h : i < l.length := by omega
      have st : ∀ k, laws_has.l0 (k + 1) (mk l) (c.toNat : Int) (i : Int) = if (l[i].toNat : Int) = (c.toNat : Int) then some true else laws_has.l0 k (mk l) (c.toNat : Int) ((i + 1 : Nat) : Int) := fun k => by
        simp only [laws_has.l0]
        rw [if_pos (by rw [mk_size]; omega), if_pos (by omega), bt_mk l i h, w64s i (by omega)]
      by_cases h1 : (l[i].toNat : Int) = (c.toNat : Int)
      · exact ⟨true, Ev.now 1 (fun k => by rw [st, if_pos h1]), fun e => by cases e⟩
      · refine ⟨b, Ev.step hb 1 (fun k => by rw [st, if_neg h1]), fun e => ?_⟩
        rw [List.drop_eq_getElem_cons h, List.mem_cons]
        rintro (e2 | e2)
        · exact h1 (by rw [e2])
        · exact hn e e2
  exact key l.length 0 (by omega)
theorem laws_FnClassicSingle.pure : ∀ (a0 : ByteArray), a0.size ≤ 140737488351232 → ∃ k, laws_FnClassicSingle.f k a0 = some true := by
  intro a0 _
  rw [← mk_eta a0]
  generalize a0.data.toList = l
  have hab : impl_ClassicMatcher.f (⟨#[97, 61, 98]⟩ : ByteArray) = some (0, ⟨#[97]⟩, ⟨#[98]⟩, true) := by
    have : clsP [97, 61, 98] = some (0, [97], [98]) := by decide +kernel
    have h2 : clsB (⟨#[97, 61, 98]⟩ : ByteArray) = some (0, mk [97], mk [98]) := by
      show (clsP [97, 61, 98]).map _ = _
      rw [this]
      rfl
    unfold impl_ClassicMatcher.f
    rw [if_pos (by decide), h2]
    rfl
  apply Ev.has
  unfold laws_FnClassicSingle.f
  by_cases hbig : ((mk l).size : Int) > 2147483647
  · exact Ev.iteT hbig (Ev.const _)
  refine Ev.iteF hbig ?_
  refine Ev.bindc hab ?_
  refine Ev.iteT rfl ?_
  have e0 : ((⟨#[98]⟩ : ByteArray).toList != ([98] : List UInt8)) = false := by rw [show (⟨#[98]⟩ : ByteArray) = mk [98] from rfl, mk_list]; rfl
  show Ev (fun k => laws_FnClassicSingle.j0 k (mk l) ((⟨#[98]⟩ : ByteArray).toList != ([98] : List UInt8))) true
  rw [e0]
  have j1t : Ev (fun k => laws_FnClassicSingle.j1 k (mk l) true) true := Ev.now 1 (fun k => by simp only [laws_FnClassicSingle.j1]; rfl)
  by_cases h2 : ((mk l).size : Int) > 20000
  · refine Ev.step j1t 1 (fun k => ?_)
    simp only [laws_FnClassicSingle.j0]
    rw [if_neg (by decide), if_pos h2]
  have hl : l.length ≤ 20000 := by rw [mk_size] at h2; omega
  obtain ⟨b, hb, hn⟩ := has_is l 126 (by omega)
  have hj1 : Ev (fun k => laws_FnClassicSingle.j1 k (mk l) b) true := by
    cases b
    · obtain ⟨r, hr, h1, h0⟩ := classicM_says l (by omega) (hn rfl)
      have himp : impl_ClassicMatcher.f (mk l) = some (match clsB (mk l) with | none => (0, ⟨#[]⟩, ⟨#[]⟩, false) | some (t, n, v) => (t, n, v, true)) := by
        unfold impl_ClassicMatcher.f
        rw [if_pos (by rw [mk_size]; omega)]
        rfl
      refine Ev.step (G := fun k => (impl_ClassicMatcher.f (mk l)).bind fun bt204 => ((spec_ClassicMatcher.f k (mk l)).bind fun bt209 => (if bt209.2.2.2 = 1 then (if bt204.2.2.2 = true then (some (bt204.1 == bt209.1 && (bt204.2.1.toList == bt209.2.1.toList && (bt204.2.2.1.toList == bt209.2.2.1.toList)))) else (some false)) else (if bt209.2.2.2 = 0 then (some (!bt204.2.2.2)) else (some true))))) ?_ 1 (fun k => by simp only [laws_FnClassicSingle.j1]; rw [if_neg (by decide)])
      refine Ev.bindc himp ?_
      refine Ev.bind hr ?_
      by_cases g1 : r.2.2.2 = 1
      · refine Ev.iteT g1 ?_
        obtain ⟨t, nm, v, hc, rfl⟩ := h1 g1
        have hB : clsB (mk l) = some (t, mk nm, mk v) := by unfold clsB; rw [mk_data, hc]; rfl
        rw [hB]
        refine Ev.iteT rfl ?_
        refine Ev.eq (Ev.const _) ?_
        simp
      · refine Ev.iteF g1 ?_
        by_cases g0 : r.2.2.2 = 0
        · refine Ev.iteT g0 ?_
          have hB : clsB (mk l) = none := by unfold clsB; rw [mk_data, h0 g0]; rfl
          rw [hB]
          exact Ev.const _
        · exact Ev.iteF g0 (Ev.const _)
    · exact j1t
  refine Ev.step (Ev.bind (G := fun k t => laws_FnClassicSingle.j1 k (mk l) t) hb hj1) 1 (fun k => ?_)
  simp only [laws_FnClassicSingle.j0]
  rw [if_neg (by decide), if_neg h2]
  rfl
end Go.Proofs.YtkngnoipipnioaaDoor.Q
