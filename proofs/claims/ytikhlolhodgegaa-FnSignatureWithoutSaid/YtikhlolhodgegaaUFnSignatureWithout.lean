/- The signature without some names: the law FnSignatureWithout over the functions that the program comes to, for every input. No condition. -/
import Derived.Test.YtikhlolhodgegaaUSpec1
import Derived.Test.YtikhlolhodgegaaUBase
import Derived.Test.YtikhlolhodgegaaUFits6
import Derived.Test.YtikhlolhodgegaaQlawsFnSignatureWithout
set_option linter.unusedVariables false
set_option linter.unusedSimpArgs false
namespace Go.Proofs.Ytikhlolhodgegaa.Q
open Go.RowKit Go.Proofs.YtikhlolhodgegaaW.PrintWords Go.Proofs.YtikhlolhodgegaaW.PrintLast Go.Proofs.YtikhlolhodgegaaW.PrintMore
theorem sig_ne : ¬ printV ([⟨⟨#[97]⟩, ⟨#[]⟩⟩] : List S26) = printV [] := by decide +kernel
theorem sig_one : (setGo (([⟨⟨#[97]⟩, ⟨#[]⟩⟩] : List S26).map conv) []).map unconv = [⟨⟨#[97]⟩, ⟨#[]⟩⟩] := by simp [setGo, setStep, insP, conv, unconv]
def swTail (e : Nat) (x0 : List S26) (x1 : List ByteArray) (x5 : List S26) : Option Bool := (impl_SignatureWithout.f x0 x1).bind fun t720 => ((impl_Signature.f x5).bind fun t721 => (if t720 = t721 then ((impl_Signature.f x5).bind fun t722 => ((laws_pairs.f e x0).bind fun t723 => ((spec_SignatureWithout.f e t723 x1).bind fun t726 => (some (t722 == t726))))) else (some false)))
theorem sw_loop (x0 : List S26) (x1 : List ByteArray) (W : List S59) (hW : W.length ≤ 1000000000) (e : Nat) (d : Nat) : ∀ (n : Nat) (x5 : List S26), n + d = W.length → x5.length = n →
    laws_FnSignatureWithout.l0 (e + d + 1) x0 x1 x5 W (W.length : Int) n = swTail e x0 x1 (x5 ++ (W.drop n).map unconv) := by
  induction d with
  | zero =>
    intro n x5 hn h5
    rw [Nat.add_zero, laws_FnSignatureWithout.l0, if_neg (by omega), List.drop_of_length_le (by omega), List.map_nil, List.append_nil]
    rfl
  | succ d ih =>
    intro n x5 hn h5
    have hlt : n < W.length := by omega
    rw [show e + (d + 1) + 1 = (e + d + 1) + 1 by omega, laws_FnSignatureWithout.l0, if_pos (by omega), if_pos (by omega), if_pos (by omega), if_pos (by omega), rdP_natSP W n hlt, wrapN n (by omega), ih (n + 1) _ (by omega) (by simp [h5]), List.drop_eq_getElem_cons hlt, List.map_cons, List.append_assoc]
    rfl
theorem laws_FnSignatureWithout.pure : ∀ (l0 : List S26) (l1 : List ByteArray), l0.length ≤ 9223372036854775807 → l1.length ≤ 9223372036854775807 → ∃ k, laws_FnSignatureWithout.f k l0 l1 = some true := by
  intro l names hl hn
  obtain ⟨B, hB⟩ : ∃ B : Nat, B = 2147483647 := ⟨_, rfl⟩
  obtain ⟨M, hM⟩ : ∃ M : Nat, M = l.length * (names.length + 2) := ⟨_, rfl⟩
  refine ⟨M + l.length + names.length + B + 2000, ?_⟩
  have jt : ∀ k, laws_FnSignatureWithout.j0 (k + 1) l names true = some true := fun k => by simp only [laws_FnSignatureWithout.j0, if_true]
  have kt : ∀ k, laws_FnSignatureWithout.j1 (k + 1) l names true = some true := fun k => by simp only [laws_FnSignatureWithout.j1, if_true]
  unfold laws_FnSignatureWithout.f
  rw [fits1_is l _ (by omega)]
  simp only [Option.bind_some]
  cases hf : fitsPs l
  · rw [if_neg (by simp)]; exact jt (M + l.length + names.length + B + 1999)
  rw [if_pos rfl, fits6_is names _ (by omega)]
  simp only [Option.bind_some]
  cases hg : (decide (names.length ≤ 2147483647) && names.all (fun s => decide (s.size ≤ 2147483647)))
  · rw [Bool.not_false]; exact jt (M + l.length + names.length + B + 1999)
  have hs : ∀ p ∈ l, p.f0.size ≤ B ∧ p.f1.size ≤ B := fun p hp => by
    simp [fitsPs, fitsP] at hf
    have := hf.2 p hp
    omega
  have hsh : shortPairs l := fun p hp => by have := hs p hp; omega
  have hgs : ∀ s ∈ names, s.size ≤ 140737488355328 := fun s hs => by
    simp at hg
    have := hg.2 s hs
    omega
  have a1 : impl_Signature.f ([⟨⟨#[97]⟩, ⟨#[]⟩⟩] : List S26) = some (printV [⟨⟨#[97]⟩, ⟨#[]⟩⟩]) := (if_pos ⟨by simp, by intro p hp; rw [List.mem_singleton.1 hp]; decide⟩ : impl_Signature.f _ = some (printV ((setGo (([⟨⟨#[97]⟩, ⟨#[]⟩⟩] : List S26).map conv) []).map unconv))).trans (by rw [sig_one])
  have a2 : impl_Signature.f ([] : List S26) = some (printV []) := (if_pos ⟨by simp, by intro p hp; cases hp⟩ : impl_Signature.f _ = some (printV ((setGo (([] : List S26).map conv) []).map unconv)))
  rw [Bool.not_true, show M + l.length + names.length + B + 2000 = (M + l.length + names.length + B + 1999) + 1 from rfl, laws_FnSignatureWithout.j0, if_neg (by simp), a1, a2]
  simp only [Option.bind_some, laws_much.f]
  rw [if_neg sig_ne]
  by_cases h1 : (l.length : Int) > 300
  · rw [if_pos (decide_eq_true h1)]; exact kt (M + l.length + names.length + B + 1998)
  rw [if_neg (by simpa using h1)]
  by_cases h2 : (names.length : Int) > 300
  · rw [decide_eq_true h2]; exact kt (M + l.length + names.length + B + 1998)
  have hlen := Sset_len (l.map conv) []
  simp at hlen
  have hX := setGo_sorted (l.map conv)
  have hko := kvOrd_len (setGo (l.map conv) [])
  have hfl := List.length_filter_le (keepN names) (kvOrd (setGo (l.map conv) []))
  rw [decide_eq_false h2, show M + l.length + names.length + B + 1999 = (M + l.length + names.length + B + 1998) + 1 from rfl, laws_FnSignatureWithout.j1, if_neg (by simp), pairs_is l (by omega) _ (by omega)]
  simp only [Option.bind_some]
  rw [specWithout_is (l.map conv) (by rw [List.length_map]; omega) names (by omega) _ (by rw [List.length_map, ← hM]; omega)]
  simp only [Option.bind_some]
  have hset : setGo ((kvOrd (setGo (l.map conv) [])).filter (keepN names)) [] = (setGo (l.map conv) []).filter (keepN names) := setGo_kvOrd _ hX _
  have hWm : ∀ q ∈ (kvOrd (setGo (l.map conv) [])).filter (keepN names), q.f0.size ≤ B ∧ q.f1.size ≤ B := fun q hq => by
    have h3 := (kvOrd_perm _).mem_iff.1 (List.mem_filter.1 hq).1
    obtain ⟨p, hp, rfl⟩ := List.mem_map.1 (set_mem h3)
    exact hs p hp
  have eW := specWithout_is (l.map conv) (by rw [List.length_map]; omega) names (by omega)
  rw [List.length_map, ← hM] at eW
  generalize (kvOrd (setGo (l.map conv) [])).filter (keepN names) = W at *
  obtain ⟨e, he⟩ : ∃ e, M + l.length + names.length + B + 1998 = e + W.length + 1 := ⟨M + l.length + names.length + B + 1997 - W.length, by omega⟩
  have hlp := sw_loop l names W (by omega) e W.length 0 [] (by omega) rfl
  rw [he]
  refine Eq.trans hlp ?_
  rw [List.drop_zero, List.nil_append]
  have e1 : impl_SignatureWithout.f l names = some (printQ (setGo W [])) := (if_pos ⟨by omega, by omega, hsh, hgs⟩ : impl_SignatureWithout.f _ _ = some (printV (((setGo (l.map conv) []).filter (keepN names)).map unconv))).trans (by rw [printV_is, hset])
  have e2 : impl_Signature.f (W.map unconv) = some (printQ (setGo W [])) := (if_pos ⟨by rw [List.length_map]; omega, by
    intro p hp
    obtain ⟨q, hq, rfl⟩ := List.mem_map.1 hp
    have := hWm q hq
    show q.f0.size ≤ _ ∧ q.f1.size ≤ _
    omega⟩ : impl_Signature.f _ = some (printV ((setGo ((W.map unconv).map conv) []).map unconv))).trans (by rw [conv_unconv, printV_is])
  unfold swTail
  rw [e1, e2]
  simp only [Option.bind_some]
  rw [if_pos trivial, pairs_is l (by omega) _ (by omega)]
  simp only [Option.bind_some]
  have e3 : spec_SignatureWithout.f e (l.map conv) names = some (printQ (setGo W [])) := by
    unfold spec_SignatureWithout.f
    rw [eW e (by omega)]
    simp only [Option.bind_some]
    rw [specPrint_is W B (by omega) (by omega) hWm e (by omega)]
    rfl
  rw [e3]
  simp
end Go.Proofs.Ytikhlolhodgegaa.Q
