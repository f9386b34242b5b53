/- The lexer's scanQuoted. Condition: the library's tables as it lays them, below the lexer's block. -/
import Derived.Test.YtlpcbmgleecafaaDoorHLexF
set_option linter.unusedVariables false
set_option linter.unusedSimpArgs false
namespace Go.Proofs.YtlpcbmgleecafaaDoor.Q
open Go.RowKit Go.Lib Go.Proofs.YtlpcbmgleecafaaDoorW.PrintWords Go.Proofs.YtlpcbmgleecafaaDoorW.PrintLast Go.Proofs.YtlpcbmgleecafaaDoorW.PrintMore
attribute [local go_sem] max2_int min2_int max_two min_two max_three min_three max_four min_four
/-- The state behind what stands between quotes: 'esc': a backslash is open. -/
def quotS (s : ByteArray) : Nat → Bool → LSt → LSt
  | 0, _, x => x
  | k + 1, esc, x => if nextR s x.p = -1 then nextS s x else if esc then quotS s k false (nextS s x) else if nextR s x.p = 92 then quotS s k true (nextS s x) else if nextR s x.p = 34 then backS (nextS s x) else quotS s k false (nextS s x)
theorem LGd.quot {s : ByteArray} : ∀ (k : Nat) (esc : Bool) {x : LSt}, LGd s x → LGd s (quotS s k esc x)
  | 0, _, _, h => h
  | k + 1, esc, x, h => by
    rw [quotS]
    split
    · exact h.next
    · split
      · exact LGd.quot k _ h.next
      · split
        · exact LGd.quot k _ h.next
        · split
          · exact h.back
          · exact LGd.quot k _ h.next
/-- The token in quotes: its kind, or none, and the state behind it. -/
def quoF (s : ByteArray) (x : LSt) : Option Int × LSt :=
  if acB s x ⟨#[34]⟩ then
    (if acB s (quotS s (s.size + 1) false (acS s x ⟨#[34]⟩)) ⟨#[34]⟩ then some 8 else none, acS s (quotS s (s.size + 1) false (acS s x ⟨#[34]⟩)) ⟨#[34]⟩)
  else (none, acS s x ⟨#[34]⟩)
structure QuotAt (w wr : World) (b T : Nat) (pre post : List Value) (s : ByteArray) (err : Value) (x0 y : LSt) (esc : Bool) (r : Int) : Prop where
  ex : ∃ (x : LSt) (k : Nat), y = nextS s x ∧ r = nextR s x.p ∧ LGd s x ∧ quotS s (s.size + 1) false x0 = quotS s (k + 1) esc x ∧ s.size - x.p.toNat ≤ k
  out : LexOut (w.alloc (.cells #[.int .i64 0, .string ⟨#[]⟩, .int .i64 0, .int .i64 0, .int .i64 0, .int .i64 0] 56)) wr b T pre post s err y
  tb : TBb b wr
set_option maxRecDepth 100000 in
set_option maxHeartbeats 4000000 in
theorem scanQuoted1_calls (w : World) (b T : Nat) (pre post : List Value) (s : ByteArray) (err : Value) (x x1 yq y9 : LSt) (o : Option Int) (hb1 : acB s x ⟨#[34]⟩ = true) (hx1 : acS s x ⟨#[34]⟩ = x1) (hyq : quotS s (s.size + 1) false x1 = yq) (hy9 : acS s yq ⟨#[34]⟩ = y9) (ho : (if acB s yq ⟨#[34]⟩ then some 8 else none) = o) (h : LX w b T pre post s err x) (hk : LGd s x) :
    Calls Tryd.prog 29 #[.pointer (some ⟨b, pre.length, none⟩)] w fun e w' => resE o s y9 e ∧ LexOut w w' b T pre post s err (resS o y9) := by
  have HL := Aside0.mk h
  have HK := Aside0.mk hk
  have HL1 := Aside0.mk h.startZ
  have HB1 := Aside0.mk hb1
  have HX1 := Aside0.mk hx1
  have HYQ := Aside0.mk hyq
  have HY9 := Aside0.mk hy9
  have HGX : Aside0 (LGd s x1) := ⟨by rw [← hx1]; exact hk.ac _⟩
  have HGQ : Aside0 (LGd s yq) := ⟨by rw [← hyq]; exact LGd.quot _ _ HGX.out⟩
  have HG9 : Aside0 (LGd s y9) := ⟨by rw [← hy9]; exact HGQ.out.ac _⟩
  have HOO := Aside0.mk ho
  have hu0 := Tryd.underlying56
  have hu1 := Tryd.underlying75
  have hu2 := Tryd.underlying54
  clear h hk hb1 hx1 hyq hy9 ho
  go_enter Tryd.func29, Tryd.ntmps29
  go_wp2_with fail
  refine (expect_calls _ b T pre post s err x ⟨#[34]⟩ HL1.out.1 HK.out).mono ?_
  rintro e w0 ⟨⟨v, rfl, hv⟩, hO⟩
  rw [HB1.out, if_pos rfl] at hv
  subst hv
  rw [HX1.out] at hO
  have HO0 := Aside0.mk (HL1.out.2.trans hO)
  have HLX0 := Aside0.mk (HL1.out.1.out hO)
  clear hO HL1
  go_wp2_with fail
  refine (next_calls _ b T pre post s err x1 HLX0.out.lex HGX.out.ok HLX0.out.tb.tbl).mono ?_
  rintro e w1 ⟨rfl, hO⟩
  have HW : Aside0 (QuotAt w w1 b T pre post s err x1 (nextS s x1) false (nextR s x1.p)) := ⟨⟨⟨x1, s.size, rfl, rfl, HGX.out, rfl, by omega⟩, HO0.out.trans hO, HLX0.out.tb.grown hO.grown⟩⟩
  clear hO HO0 HLX0
  go_wp2_with fail
  go_loopw [5, 6] (fun v5 v6 wr => ∃ (y : LSt) (esc : Bool) (r : Int), v5 = .bool esc ∧ v6 = .int .i32 r ∧ Aside0 (QuotAt w wr b T pre post s err x1 y esc r)) (fun _ v6 wr => wordM wr b (pre.length + 3) s v6)
  case atStart => exact ⟨_, _, _, rfl, rfl, HW⟩
  case round =>
    obtain ⟨y, esc, r, rfl, rfl, HR⟩ := hrel
    obtain ⟨x2, k, hy, hr, hg, hw, hm⟩ := HR.out.ex
    clear HW
    by_cases h1 : r = -1
    · have HQ : Aside0 (LX wr b T pre post s err yq ∧ LGd s yq ∧ LexOut (w.alloc (.cells #[.int .i64 0, .string ⟨#[]⟩, .int .i64 0, .int .i64 0, .int .i64 0, .int .i64 0] 56)) wr b T pre post s err yq) := ⟨by
        have e : y = yq := by rw [← HYQ.out, hw, quotS, if_pos (by rw [← hr]; exact h1), hy]
        rw [← e]
        exact ⟨⟨HR.out.out.lex, HR.out.tb⟩, by rw [hy]; exact hg.next, HR.out.out⟩⟩
      subst h1
      clear hy hr hg hw hm
      go_wp2_with fail
      refine (expect_calls _ b T pre post s err yq ⟨#[34]⟩ HQ.out.1 HQ.out.2.1).mono ?_
      rintro e W ⟨⟨v, rfl, hv⟩, hO⟩
      rw [HY9.out] at hO
      have HO := Aside0.mk (HQ.out.2.2.trans hO)
      have HXT : Aside0 (TBb b W) := ⟨HQ.out.1.tb.grown hO.grown⟩
      cases hq9 : acB s yq ⟨#[34]⟩
      · rw [hq9, if_neg (by decide)] at hv
        obtain ⟨ti, pv, rfl, _⟩ := hv
        have HON : Aside0 (o = none) := ⟨by rw [← HOO.out, hq9]; rfl⟩
        clear hO hq9
        go_wp2_with fail
        have hlt := HL.out.lex.lt
        have HT0 : Aside0 (TZ w W.drew b T pre post s err y9) := ⟨(TZ.of HO.out HL.out.lex.lt).below (below_drew (Below.refl _ _))⟩
        clear HO
        go_region_held3 (fun W => W.cell? ⟨b, pre.length, none⟩ = some (.string s) ∧ W.cell? ⟨w.heap.size, 0, none⟩ = some (.int .i64 0) ∧ W.cell? ⟨w.heap.size, 1, none⟩ = some (.string ⟨#[]⟩) ∧ W.cell? ⟨w.heap.size, 2, none⟩ = some (.int .i64 0) ∧ W.cell? ⟨w.heap.size, 3, none⟩ = some (.int .i64 0) ∧ W.cell? ⟨w.heap.size, 4, none⟩ = some (.int .i64 0) ∧ W.cell? ⟨w.heap.size, 5, none⟩ = some (.int .i64 0) ∧ (∀ j, W.frozen? ⟨w.heap.size, j, none⟩ = false) ∧ Aside0 (TZ w W b T pre post s err y9)) (first | (with_reducible exact HT0.out.facts) | (with_reducible exact HT1.out.facts) | (with_reducible exact (HT1.out.zero6 hlt).facts)) (first | (go_at_call 34; (with_reducible refine (pos5_calls w W.drew b T pre post s err y9 HT0.out).mono ?_); rintro e w4 ⟨rfl, HT1⟩; unfold posV))
        go_wp2
        have HT2 := HT1.out.zero6 hlt
        obtain ⟨_, r0, r1, r2, r3, r4, r5, _, _⟩ := HT2.facts
        exact bodyPost_ret (v := .tuple #[tok0, .iface 75 (.agg #[.int .i64 y9.st, .int .i64 y9.p, .int .i64 y9.cl, .int .i64 y9.cs, .string s, .int .i32 34])]) (by simp [results, Tryd.results29, go_sem, tok0, r0, r1, r2, r3, r4, r5]) rfl ⟨by rw [HON.out]; exact ⟨_, rfl, ⟨_, _, rfl, Or.inr (Or.inl rfl)⟩⟩, by rw [HON.out]; exact ⟨HT2.lex, HT2.gr⟩⟩
      · rw [hq9, if_pos rfl] at hv
        subst hv
        have HON : Aside0 (o = some 8) := ⟨by rw [← HOO.out, hq9]; rfl⟩
        have HX9 : Aside0 (LX W b T pre post s err y9 ∧ LGd s y9 ∧ LexOut (w.alloc (.cells #[.int .i64 0, .string ⟨#[]⟩, .int .i64 0, .int .i64 0, .int .i64 0, .int .i64 0] 56)) W b T pre post s err y9) := ⟨⟨hO.lex, HXT.out⟩, HG9.out, HO.out⟩
        clear hO hq9 HO
        go_wp2_with fail
        refine (emit_calls _ b T pre post s err y9 8 HX9.out.1.lex HX9.out.2.1.ok).mono ?_
        rintro e W ⟨rfl, hO⟩
        have HO := Aside0.mk (HX9.out.2.2.trans hO)
        clear hO
        unfold tokV
        have hbz := tok_cells HO.out HL.out.lex.lt
        obtain ⟨hcz, hfz⟩ := cells_in hbz
        have z0 : W.cell? ⟨w.heap.size, 0, none⟩ = some (.int .i64 0) := hcz 0
        have z1 : W.cell? ⟨w.heap.size, 1, none⟩ = some (.string ⟨#[]⟩) := hcz 1
        have z2 : W.cell? ⟨w.heap.size, 2, none⟩ = some (.int .i64 0) := hcz 2
        have z3 : W.cell? ⟨w.heap.size, 3, none⟩ = some (.int .i64 0) := hcz 3
        have z4 : W.cell? ⟨w.heap.size, 4, none⟩ = some (.int .i64 0) := hcz 4
        have z5 : W.cell? ⟨w.heap.size, 5, none⟩ = some (.int .i64 0) := hcz 5
        clear hbz hcz
        have H8 := Aside0.mk (tok_done HO.out HL.out.lex.lt (.int .i64 8) (.string (s.extract y9.st.toNat y9.p.toNat)) (.int .i64 y9.st) (.int .i64 y9.p) (.int .i64 y9.cl) (.int .i64 y9.cs))
        go_wp2
        generalize ((((((W.setCell ⟨w.heap.size, 0, none⟩ (.int .i64 8)).setCell ⟨w.heap.size, 1, none⟩ (.string (s.extract y9.st.toNat y9.p.toNat))).setCell ⟨w.heap.size, 2, none⟩ (.int .i64 y9.st)).setCell ⟨w.heap.size, 3, none⟩ (.int .i64 y9.p)).setCell ⟨w.heap.size, 4, none⟩ (.int .i64 y9.cl)).setCell ⟨w.heap.size, 5, none⟩ (.int .i64 y9.cs)) = W6 at H8 ⊢
        obtain ⟨hc8, _⟩ := cells_in H8.out.2
        have r0 := hc8 0
        have r1 := hc8 1
        have r2 := hc8 2
        have r3 := hc8 3
        have r4 := hc8 4
        have r5 := hc8 5
        simp only [List.getElem?_toArray, List.getElem?_cons_zero, List.getElem?_cons_succ] at r0 r1 r2 r3 r4 r5
        exact bodyPost_ret (v := .tuple #[tokV 8 (s.extract y9.st.toNat y9.p.toNat) y9, .nilIface]) (by simp [results, Tryd.results29, go_sem, tokV, r0, r1, r2, r3, r4, r5]) rfl ⟨by rw [HON.out]; rfl, by rw [HON.out]; exact H8.out.1⟩
    · have e1 : (r == -1) = false := beq_eq_false_iff_ne.2 h1
      have e2 : (r != -1) = true := bne_iff_ne.2 h1
      have hrr := nextR_range s x2.p
      rw [← hr] at hrr
      have hg2 : Aside0 (LGd s y) := ⟨by rw [hy]; exact hg.next⟩
      have hk2 : s.size - y.p.toNat + 1 ≤ k := by
        have hon := (nextS_on hg (by rw [← hr]; exact h1)).1
        rw [← hy] at hon
        have := hg2.out.p1
        have := hg.s0; have := hg.s1
        omega
      have HK2 := Aside0.mk hk2
      have HM := Aside0.mk (word_less hg hy hr h1)
      have HM0 := Aside0.mk (wordM_is HR.out.out.lex r)
      cases esc
      · by_cases h92 : r = 92
        ·
          skip
          subst h92
          have HWS : Aside0 (quotS s (s.size + 1) false x1 = quotS s k true y) := ⟨by rw [hw, quotS, if_neg (by rw [← hr]; exact h1)]; rw [if_neg (by decide), if_pos hr.symm, hy]⟩
          clear hy hr hg hw hm h1 hk2 hrr
          go_wp2_with fail
          refine (next_calls _ b T pre post s err y HR.out.out.lex hg2.out.ok HR.out.tb.tbl).mono ?_
          rintro e w3 ⟨rfl, hO⟩
          have HW3 : Aside0 (QuotAt w w3 b T pre post s err x1 (nextS s y) true (nextR s y.p)) := ⟨⟨⟨y, k - 1, rfl, rfl, hg2.out, by rw [HWS.out]; congr 1; have := HK2.out; omega, by have := HK2.out; omega⟩, HR.out.out.trans hO, HR.out.tb.grown hO.grown⟩⟩
          clear hO
          go_wp2_with fail
          go_roundw
          case rel => exact ⟨_, _, _, rfl, rfl, HW3⟩
          case measure =>
            rw [wordM_is HW3.out.out.lex, HM0.out]
            exact HM.out
        · by_cases h34 : r = 34
          · have HQ : Aside0 (∀ W : World, LexOut wr W b T pre post s err (backS y) → LX W b T pre post s err yq ∧ LGd s yq ∧ LexOut (w.alloc (.cells #[.int .i64 0, .string ⟨#[]⟩, .int .i64 0, .int .i64 0, .int .i64 0, .int .i64 0] 56)) W b T pre post s err yq) := ⟨fun W hO => by
              have e : backS y = yq := by rw [← HYQ.out, hw, quotS, if_neg (by rw [← hr]; exact h1), if_neg (by decide), if_neg (by rw [← hr]; exact h92), if_pos (by rw [← hr]; exact h34), hy]
              rw [e] at hO
              exact ⟨⟨hO.lex, HR.out.tb.grown hO.grown⟩, HGQ.out, HR.out.out.trans hO⟩⟩
            subst h34
            clear hy hr hg hw hm h1 h92
            go_wp2_with fail
            refine (rewind_calls _ b T pre post s err y HR.out.out.lex hg2.out.ok).mono ?_
            rintro e w3 ⟨rfl, hO⟩
            replace HQ := Aside0.mk (HQ.out w3 hO)
            clear hO
            go_wp2_with fail
            refine (expect_calls _ b T pre post s err yq ⟨#[34]⟩ HQ.out.1 HQ.out.2.1).mono ?_
            rintro e W ⟨⟨v, rfl, hv⟩, hO⟩
            rw [HY9.out] at hO
            have HO := Aside0.mk (HQ.out.2.2.trans hO)
            have HXT : Aside0 (TBb b W) := ⟨HQ.out.1.tb.grown hO.grown⟩
            cases hq9 : acB s yq ⟨#[34]⟩
            · rw [hq9, if_neg (by decide)] at hv
              obtain ⟨ti, pv, rfl, _⟩ := hv
              have HON : Aside0 (o = none) := ⟨by rw [← HOO.out, hq9]; rfl⟩
              clear hO hq9
              go_wp2_with fail
              have hlt := HL.out.lex.lt
              have HT0 : Aside0 (TZ w W.drew b T pre post s err y9) := ⟨(TZ.of HO.out HL.out.lex.lt).below (below_drew (Below.refl _ _))⟩
              clear HO
              go_region_held3 (fun W => W.cell? ⟨b, pre.length, none⟩ = some (.string s) ∧ W.cell? ⟨w.heap.size, 0, none⟩ = some (.int .i64 0) ∧ W.cell? ⟨w.heap.size, 1, none⟩ = some (.string ⟨#[]⟩) ∧ W.cell? ⟨w.heap.size, 2, none⟩ = some (.int .i64 0) ∧ W.cell? ⟨w.heap.size, 3, none⟩ = some (.int .i64 0) ∧ W.cell? ⟨w.heap.size, 4, none⟩ = some (.int .i64 0) ∧ W.cell? ⟨w.heap.size, 5, none⟩ = some (.int .i64 0) ∧ (∀ j, W.frozen? ⟨w.heap.size, j, none⟩ = false) ∧ Aside0 (TZ w W b T pre post s err y9)) (first | (with_reducible exact HT0.out.facts) | (with_reducible exact HT1.out.facts) | (with_reducible exact (HT1.out.zero6 hlt).facts)) (first | (go_at_call 34; (with_reducible refine (pos5_calls w W.drew b T pre post s err y9 HT0.out).mono ?_); rintro e w4 ⟨rfl, HT1⟩; unfold posV))
              go_wp2
              have HT2 := HT1.out.zero6 hlt
              obtain ⟨_, r0, r1, r2, r3, r4, r5, _, _⟩ := HT2.facts
              exact bodyPost_ret (v := .tuple #[tok0, .iface 75 (.agg #[.int .i64 y9.st, .int .i64 y9.p, .int .i64 y9.cl, .int .i64 y9.cs, .string s, .int .i32 34])]) (by simp [results, Tryd.results29, go_sem, tok0, r0, r1, r2, r3, r4, r5]) rfl ⟨by rw [HON.out]; exact ⟨_, rfl, ⟨_, _, rfl, Or.inr (Or.inl rfl)⟩⟩, by rw [HON.out]; exact ⟨HT2.lex, HT2.gr⟩⟩
            · rw [hq9, if_pos rfl] at hv
              subst hv
              have HON : Aside0 (o = some 8) := ⟨by rw [← HOO.out, hq9]; rfl⟩
              have HX9 : Aside0 (LX W b T pre post s err y9 ∧ LGd s y9 ∧ LexOut (w.alloc (.cells #[.int .i64 0, .string ⟨#[]⟩, .int .i64 0, .int .i64 0, .int .i64 0, .int .i64 0] 56)) W b T pre post s err y9) := ⟨⟨hO.lex, HXT.out⟩, HG9.out, HO.out⟩
              clear hO hq9 HO
              go_wp2_with fail
              refine (emit_calls _ b T pre post s err y9 8 HX9.out.1.lex HX9.out.2.1.ok).mono ?_
              rintro e W ⟨rfl, hO⟩
              have HO := Aside0.mk (HX9.out.2.2.trans hO)
              clear hO
              unfold tokV
              have hbz := tok_cells HO.out HL.out.lex.lt
              obtain ⟨hcz, hfz⟩ := cells_in hbz
              have z0 : W.cell? ⟨w.heap.size, 0, none⟩ = some (.int .i64 0) := hcz 0
              have z1 : W.cell? ⟨w.heap.size, 1, none⟩ = some (.string ⟨#[]⟩) := hcz 1
              have z2 : W.cell? ⟨w.heap.size, 2, none⟩ = some (.int .i64 0) := hcz 2
              have z3 : W.cell? ⟨w.heap.size, 3, none⟩ = some (.int .i64 0) := hcz 3
              have z4 : W.cell? ⟨w.heap.size, 4, none⟩ = some (.int .i64 0) := hcz 4
              have z5 : W.cell? ⟨w.heap.size, 5, none⟩ = some (.int .i64 0) := hcz 5
              clear hbz hcz
              have H8 := Aside0.mk (tok_done HO.out HL.out.lex.lt (.int .i64 8) (.string (s.extract y9.st.toNat y9.p.toNat)) (.int .i64 y9.st) (.int .i64 y9.p) (.int .i64 y9.cl) (.int .i64 y9.cs))
              go_wp2
              generalize ((((((W.setCell ⟨w.heap.size, 0, none⟩ (.int .i64 8)).setCell ⟨w.heap.size, 1, none⟩ (.string (s.extract y9.st.toNat y9.p.toNat))).setCell ⟨w.heap.size, 2, none⟩ (.int .i64 y9.st)).setCell ⟨w.heap.size, 3, none⟩ (.int .i64 y9.p)).setCell ⟨w.heap.size, 4, none⟩ (.int .i64 y9.cl)).setCell ⟨w.heap.size, 5, none⟩ (.int .i64 y9.cs)) = W6 at H8 ⊢
              obtain ⟨hc8, _⟩ := cells_in H8.out.2
              have r0 := hc8 0
              have r1 := hc8 1
              have r2 := hc8 2
              have r3 := hc8 3
              have r4 := hc8 4
              have r5 := hc8 5
              simp only [List.getElem?_toArray, List.getElem?_cons_zero, List.getElem?_cons_succ] at r0 r1 r2 r3 r4 r5
              exact bodyPost_ret (v := .tuple #[tokV 8 (s.extract y9.st.toNat y9.p.toNat) y9, .nilIface]) (by simp [results, Tryd.results29, go_sem, tokV, r0, r1, r2, r3, r4, r5]) rfl ⟨by rw [HON.out]; rfl, by rw [HON.out]; exact H8.out.1⟩
          ·
            skip
            have e3 : (r == 92) = false := beq_eq_false_iff_ne.2 h92
            have e4 : (r == 34) = false := beq_eq_false_iff_ne.2 h34
            have HWS : Aside0 (quotS s (s.size + 1) false x1 = quotS s k false y) := ⟨by rw [hw, quotS, if_neg (by rw [← hr]; exact h1)]; rw [if_neg (by decide), if_neg (by rw [← hr]; exact h92), if_neg (by rw [← hr]; exact h34), hy]⟩
            clear hy hr hg hw hm h1 hk2 hrr h92 h34
            go_wp2_with fail
            refine (next_calls _ b T pre post s err y HR.out.out.lex hg2.out.ok HR.out.tb.tbl).mono ?_
            rintro e w3 ⟨rfl, hO⟩
            have HW3 : Aside0 (QuotAt w w3 b T pre post s err x1 (nextS s y) false (nextR s y.p)) := ⟨⟨⟨y, k - 1, rfl, rfl, hg2.out, by rw [HWS.out]; congr 1; have := HK2.out; omega, by have := HK2.out; omega⟩, HR.out.out.trans hO, HR.out.tb.grown hO.grown⟩⟩
            clear hO
            go_wp2_with fail
            go_roundw
            case rel => exact ⟨_, _, _, rfl, rfl, HW3⟩
            case measure =>
              rw [wordM_is HW3.out.out.lex, HM0.out]
              exact HM.out
      ·
        skip
        have HWS : Aside0 (quotS s (s.size + 1) false x1 = quotS s k false y) := ⟨by rw [hw, quotS, if_neg (by rw [← hr]; exact h1)]; rw [if_pos rfl, hy]⟩
        clear hy hr hg hw hm h1 hk2 hrr
        go_wp2_with fail
        refine (next_calls _ b T pre post s err y HR.out.out.lex hg2.out.ok HR.out.tb.tbl).mono ?_
        rintro e w3 ⟨rfl, hO⟩
        have HW3 : Aside0 (QuotAt w w3 b T pre post s err x1 (nextS s y) false (nextR s y.p)) := ⟨⟨⟨y, k - 1, rfl, rfl, hg2.out, by rw [HWS.out]; congr 1; have := HK2.out; omega, by have := HK2.out; omega⟩, HR.out.out.trans hO, HR.out.tb.grown hO.grown⟩⟩
        clear hO
        go_wp2_with fail
        go_roundw
        case rel => exact ⟨_, _, _, rfl, rfl, HW3⟩
        case measure =>
          rw [wordM_is HW3.out.out.lex, HM0.out]
          exact HM.out
end Go.Proofs.YtlpcbmgleecafaaDoor.Q
