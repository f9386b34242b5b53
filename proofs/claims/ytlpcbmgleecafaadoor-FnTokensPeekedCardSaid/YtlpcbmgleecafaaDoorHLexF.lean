/- The lexer's scanUnquoted. Condition: the library's tables as it lays them, below the lexer's block. -/
import Derived.Test.YtlpcbmgleecafaaDoorHLexE
set_option linter.unusedVariables false
set_option linter.unusedSimpArgs false
namespace Go.Proofs.YtlpcbmgleecafaaDoor.Q
open Go.RowKit Go.Lib Go.Proofs.YtlpcbmgleecafaaDoorW.PrintWords Go.Proofs.YtlpcbmgleecafaaDoorW.PrintLast Go.Proofs.YtlpcbmgleecafaaDoorW.PrintMore
attribute [local go_sem] max2_int min2_int max_two min_two max_three min_three max_four min_four
/-- The state behind a word without quotes. -/
def wordS (s : ByteArray) : Nat → LSt → LSt
  | 0, x => x
  | k + 1, x => if nextR s x.p = -1 then nextS s x else if resR (nextR s x.p) = true then backS (nextS s x) else wordS s k (nextS s x)
theorem LGd.word {s : ByteArray} : ∀ (k : Nat) {x : LSt}, LGd s x → LGd s (wordS s k x)
  | 0, _, h => h
  | k + 1, x, h => by
    rw [wordS]
    split
    · exact h.next
    · split
      · exact h.back
      · exact LGd.word k h.next
/-- The state at the head of the loop over a word: the cursor has read once more. -/
structure WordAt (w wr : World) (b T : Nat) (pre post : List Value) (s : ByteArray) (err : Value) (x0 y : LSt) (r : Int) : Prop where
  ex : ∃ (x : LSt) (k : Nat), y = nextS s x ∧ r = nextR s x.p ∧ LGd s x ∧ wordS s (s.size + 1) x0 = wordS s (k + 1) x ∧ s.size - x.p.toNat ≤ k
  out : LexOut (w.alloc (.cells #[.int .i64 0, .string ⟨#[]⟩, .int .i64 0, .int .i64 0, .int .i64 0, .int .i64 0] 56)) wr b T pre post s err y
  tb : TBb b wr
/-- What is left to read. -/
def wordM (w : World) (b o : Nat) (s : ByteArray) (v : Value) : Nat := match w.cell? ⟨b, o, none⟩, v with
  | some (.int _ p), .int _ r => if r = -1 then 0 else s.size + 1 - p.toNat
  | _, _ => 0
theorem wordM_is {w : World} {b T : Nat} {pre post : List Value} {s : ByteArray} {err : Value} {y : LSt} (h : LexAt w b T pre post s err y) (r : Int) : wordM w b (pre.length + 3) s (.int .i32 r) = if r = -1 then 0 else s.size + 1 - y.p.toNat := by
  unfold wordM
  rw [h.c3]
theorem word_less {s : ByteArray} {x y : LSt} {r : Int} (h : LGd s x) (hy : y = nextS s x) (hr : r = nextR s x.p) (h1 : r ≠ -1) : (if nextR s y.p = -1 then 0 else s.size + 1 - (nextS s y).p.toNat) < (if r = -1 then 0 else s.size + 1 - y.p.toNat) := by
  rw [if_neg h1]
  have hg := hy ▸ h.next
  have a1 := hg.p1
  have a2 := hg.s0
  have a3 := hg.s1
  split
  · omega
  · rename_i h2
    have := (nextS_on hg h2).1
    have := hg.next.p1
    omega
set_option maxRecDepth 100000 in
set_option maxHeartbeats 2000000 in
theorem scanUnquoted_calls (w : World) (b T : Nat) (pre post : List Value) (s : ByteArray) (err : Value) (x : LSt) (y9 : LSt) (hy9 : wordS s (s.size + 1) x = y9) (h : LX w b T pre post s err x) (hk : LGd s x) :
    Calls Tryd.prog 31 #[.pointer (some ⟨b, pre.length, none⟩)] w fun e w' => resE (some 9) s y9 e ∧ LexOut w w' b T pre post s err (resS (some 9) y9) := by
  have HL := Aside0.mk h
  have HK := Aside0.mk hk
  have HL1 := Aside0.mk h.startZ
  have HY := Aside0.mk hy9
  clear h hk hy9
  go_enter Tryd.func31, Tryd.ntmps31
  go_wp2_with fail
  refine (next_calls _ b T pre post s err x HL1.out.1.lex HK.out.ok HL1.out.1.tb.tbl).mono ?_
  rintro e w1 ⟨rfl, hO⟩
  have HW : Aside0 (WordAt w w1 b T pre post s err x (nextS s x) (nextR s x.p)) := ⟨⟨⟨x, s.size, rfl, rfl, HK.out, rfl, by omega⟩, hO, HL1.out.1.tb.grown hO.grown⟩⟩
  clear hO
  go_wp2_with fail
  go_loopw [4] (fun v4 wr => ∃ (y : LSt) (r : Int), v4 = .int .i32 r ∧ Aside0 (WordAt w wr b T pre post s err x y r)) (fun v4 wr => wordM wr b (pre.length + 3) s v4)
  case atStart => exact ⟨_, _, rfl, HW⟩
  case round =>
    obtain ⟨y, r, rfl, HR⟩ := hrel
    obtain ⟨x1, k, hy, hr, hg, hw, hm⟩ := HR.out.ex
    by_cases h1 : r = -1
    · have HX9 : Aside0 (LX wr b T pre post s err y9 ∧ LGd s y9 ∧ LexOut (w.alloc (.cells #[.int .i64 0, .string ⟨#[]⟩, .int .i64 0, .int .i64 0, .int .i64 0, .int .i64 0] 56)) wr b T pre post s err y9) := ⟨by
        have e : y = y9 := by rw [← HY.out, hw, wordS, if_pos (by rw [← hr]; exact h1), hy]
        rw [← e]
        exact ⟨⟨HR.out.out.lex, HR.out.tb⟩, by rw [hy]; exact hg.next, HR.out.out⟩⟩
      subst h1
      clear hy hr hg hw hm HW HL1
      go_wp2_with fail
      refine (emit_calls _ b T pre post s err y9 9 HX9.out.1.lex HX9.out.2.1.ok).mono ?_
      rintro e W ⟨rfl, hO⟩
      have HO := Aside0.mk (HX9.out.2.2.trans hO)
      clear hO
      unfold tokV
      have hbz := tok_cells HO.out HL.out.lex.lt
      obtain ⟨hcz, hfz⟩ := cells_in hbz
      have z0 : W.cell? ⟨w.heap.size, 0, none⟩ = some (.int .i64 0) := hcz 0
      have z1 : W.cell? ⟨w.heap.size, 1, none⟩ = some (.string ⟨#[]⟩) := hcz 1
      have z2 : W.cell? ⟨w.heap.size, 2, none⟩ = some (.int .i64 0) := hcz 2
      have z3 : W.cell? ⟨w.heap.size, 3, none⟩ = some (.int .i64 0) := hcz 3
      have z4 : W.cell? ⟨w.heap.size, 4, none⟩ = some (.int .i64 0) := hcz 4
      have z5 : W.cell? ⟨w.heap.size, 5, none⟩ = some (.int .i64 0) := hcz 5
      clear hbz hcz
      have H8 := Aside0.mk (tok_done HO.out HL.out.lex.lt (.int .i64 9) (.string (s.extract y9.st.toNat y9.p.toNat)) (.int .i64 y9.st) (.int .i64 y9.p) (.int .i64 y9.cl) (.int .i64 y9.cs))
      go_wp2
      generalize ((((((W.setCell ⟨w.heap.size, 0, none⟩ (.int .i64 9)).setCell ⟨w.heap.size, 1, none⟩ (.string (s.extract y9.st.toNat y9.p.toNat))).setCell ⟨w.heap.size, 2, none⟩ (.int .i64 y9.st)).setCell ⟨w.heap.size, 3, none⟩ (.int .i64 y9.p)).setCell ⟨w.heap.size, 4, none⟩ (.int .i64 y9.cl)).setCell ⟨w.heap.size, 5, none⟩ (.int .i64 y9.cs)) = W6 at H8 ⊢
      obtain ⟨hc8, _⟩ := cells_in H8.out.2
      have r0 := hc8 0
      have r1 := hc8 1
      have r2 := hc8 2
      have r3 := hc8 3
      have r4 := hc8 4
      have r5 := hc8 5
      simp only [List.getElem?_toArray, List.getElem?_cons_zero, List.getElem?_cons_succ] at r0 r1 r2 r3 r4 r5
      exact bodyPost_ret (v := .tuple #[tokV 9 (s.extract y9.st.toNat y9.p.toNat) y9, .nilIface]) (by simp [results, Tryd.results31, go_sem, tokV, r0, r1, r2, r3, r4, r5]) rfl ⟨rfl, H8.out.1⟩
    · have e1 : (r == -1) = false := beq_eq_false_iff_ne.2 h1
      have e2 : (r != -1) = true := bne_iff_ne.2 h1
      have hrr := nextR_range s x1.p
      rw [← hr] at hrr
      have hg2 : Aside0 (LGd s y) := ⟨by rw [hy]; exact hg.next⟩
      cases hres : resR r
      · have HRES := Aside0.mk hres
        have HWS : Aside0 (wordS s (s.size + 1) x = wordS s k y) := ⟨by rw [hw, wordS, if_neg (by rw [← hr]; exact h1), ← hr, hres, if_neg (by decide), hy]⟩
        have hk2 : s.size - y.p.toNat + 1 ≤ k := by
          have hon := (nextS_on hg (by rw [← hr]; exact h1)).1
          rw [← hy] at hon
          have := hg2.out.p1
          have := hg.s0; have := hg.s1
          omega
        have HK2 := Aside0.mk hk2
        have HM := Aside0.mk (word_less hg hy hr h1)
        have HM0 := Aside0.mk (wordM_is HR.out.out.lex r)
        have h0 := hrr.1
        have h01 := hrr.2
        clear hy hr hg hw hm HW HL1 hres h1 hk2 hrr
        go_wp2_with fail
        refine (isReserved_calls r _ h0 h01 HR.out.tb.tbl).mono ?_
        rintro e w2 ⟨rfl, hb⟩
        rw [HRES.out]
        have HO2 := Aside0.mk (HR.out.out.below hb)
        have HT2 := Aside0.mk (HR.out.tb.grown (grownBy_below (World.grownBy.refl wr (some b)) hb))
        clear hb
        go_wp2_with fail
        refine (next_calls _ b T pre post s err y HO2.out.lex hg2.out.ok HT2.out.tbl).mono ?_
        rintro e w3 ⟨rfl, hO⟩
        have HW3 : Aside0 (WordAt w w3 b T pre post s err x (nextS s y) (nextR s y.p)) := ⟨⟨⟨y, k - 1, rfl, rfl, hg2.out, by rw [HWS.out]; congr 1; have := HK2.out; omega, by have := HK2.out; omega⟩, HO2.out.trans hO, HT2.out.grown hO.grown⟩⟩
        clear hO
        go_wp2_with fail
        go_roundw
        case rel => exact ⟨_, _, rfl, HW3⟩
        case measure =>
          rw [wordM_is HW3.out.out.lex, HM0.out]
          exact HM.out
      · have HRES := Aside0.mk hres
        have HEQ : Aside0 (backS y = y9) := ⟨by rw [← HY.out, hw, wordS, if_neg (by rw [← hr]; exact h1), ← hr, hres, if_pos rfl, hy]⟩
        have HG9 : Aside0 (LGd s y9) := ⟨by rw [← HEQ.out, hy]; exact hg.back⟩
        have h0 := hrr.1
        have h01 := hrr.2
        clear hy hr hg hw hm HW HL1 hres h1 hrr
        go_wp2_with fail
        refine (isReserved_calls r _ h0 h01 HR.out.tb.tbl).mono ?_
        rintro e w2 ⟨rfl, hb⟩
        rw [HRES.out]
        have HO2 := Aside0.mk (HR.out.out.below hb)
        have HT2 := Aside0.mk (HR.out.tb.grown (grownBy_below (World.grownBy.refl wr (some b)) hb))
        clear hb
        go_wp2_with fail
        refine (rewind_calls _ b T pre post s err y HO2.out.lex hg2.out.ok).mono ?_
        rintro e w3 ⟨rfl, hO⟩
        have HX9 : Aside0 (LX w3 b T pre post s err y9 ∧ LGd s y9 ∧ LexOut (w.alloc (.cells #[.int .i64 0, .string ⟨#[]⟩, .int .i64 0, .int .i64 0, .int .i64 0, .int .i64 0] 56)) w3 b T pre post s err y9) := ⟨by
          rw [HEQ.out] at hO
          exact ⟨⟨hO.lex, HT2.out.grown hO.grown⟩, HG9.out, HO2.out.trans hO⟩⟩
        clear hO
        go_wp2_with fail
        refine (emit_calls _ b T pre post s err y9 9 HX9.out.1.lex HX9.out.2.1.ok).mono ?_
        rintro e W ⟨rfl, hO⟩
        have HO := Aside0.mk (HX9.out.2.2.trans hO)
        clear hO
        unfold tokV
        have hbz := tok_cells HO.out HL.out.lex.lt
        obtain ⟨hcz, hfz⟩ := cells_in hbz
        have z0 : W.cell? ⟨w.heap.size, 0, none⟩ = some (.int .i64 0) := hcz 0
        have z1 : W.cell? ⟨w.heap.size, 1, none⟩ = some (.string ⟨#[]⟩) := hcz 1
        have z2 : W.cell? ⟨w.heap.size, 2, none⟩ = some (.int .i64 0) := hcz 2
        have z3 : W.cell? ⟨w.heap.size, 3, none⟩ = some (.int .i64 0) := hcz 3
        have z4 : W.cell? ⟨w.heap.size, 4, none⟩ = some (.int .i64 0) := hcz 4
        have z5 : W.cell? ⟨w.heap.size, 5, none⟩ = some (.int .i64 0) := hcz 5
        clear hbz hcz
        have H8 := Aside0.mk (tok_done HO.out HL.out.lex.lt (.int .i64 9) (.string (s.extract y9.st.toNat y9.p.toNat)) (.int .i64 y9.st) (.int .i64 y9.p) (.int .i64 y9.cl) (.int .i64 y9.cs))
        go_wp2
        generalize ((((((W.setCell ⟨w.heap.size, 0, none⟩ (.int .i64 9)).setCell ⟨w.heap.size, 1, none⟩ (.string (s.extract y9.st.toNat y9.p.toNat))).setCell ⟨w.heap.size, 2, none⟩ (.int .i64 y9.st)).setCell ⟨w.heap.size, 3, none⟩ (.int .i64 y9.p)).setCell ⟨w.heap.size, 4, none⟩ (.int .i64 y9.cl)).setCell ⟨w.heap.size, 5, none⟩ (.int .i64 y9.cs)) = W6 at H8 ⊢
        obtain ⟨hc8, _⟩ := cells_in H8.out.2
        have r0 := hc8 0
        have r1 := hc8 1
        have r2 := hc8 2
        have r3 := hc8 3
        have r4 := hc8 4
        have r5 := hc8 5
        simp only [List.getElem?_toArray, List.getElem?_cons_zero, List.getElem?_cons_succ] at r0 r1 r2 r3 r4 r5
        exact bodyPost_ret (v := .tuple #[tokV 9 (s.extract y9.st.toNat y9.p.toNat) y9, .nilIface]) (by simp [results, Tryd.results31, go_sem, tokV, r0, r1, r2, r3, r4, r5]) rfl ⟨rfl, H8.out.1⟩
end Go.Proofs.YtlpcbmgleecafaaDoor.Q
