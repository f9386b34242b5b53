/- impl.TokensPeeked: the tokens of a text, with looks ahead. Condition: a text of at most 100000 bytes; the library's tables as it lays them. -/
import Derived.Test.YtlpcbmgleecafaaDoorHTokens
import Derived.Test.YtlpcbmgleecafaaDoorHPeekB
set_option linter.unusedVariables false
set_option linter.unusedSimpArgs false
namespace Go.Proofs.YtlpcbmgleecafaaDoor.Q
open Go.RowKit Go.Lib Go.Proofs.YtlpcbmgleecafaaDoorW.PrintWords Go.Proofs.YtlpcbmgleecafaaDoorW.PrintLast Go.Proofs.YtlpcbmgleecafaaDoorW.PrintMore
attribute [local go_sem] max2_int min2_int max_two min_two max_three min_three max_four min_four
theorem TkAt.again {w wr w1 : World} {g : Nat} {s : ByteArray} {x : LSt} {v : Value} {xs : List S26} {k : Nat} (h : TkAt w wr g s x v xs k) (ho : LexOut wr w1 g 50 [] [] s .nilIface x) : TkAt w w1 g s x v xs k :=
  ⟨ho.lex, (h.scan ho).1, (h.scan ho).2, h.low, h.gd, h.all, h.fuel, h.len⟩
theorem TkAt.drew {w wr : World} {g : Nat} {s : ByteArray} {x : LSt} {v : Value} {xs : List S26} {k n : Nat} (h : TkAt w wr g s x v xs k) : TkAt w (wr.drewN n) g s x v xs k :=
  h.again ⟨h.lex.drewN n, grown_drewN n _⟩
set_option maxRecDepth 100000 in
set_option maxHeartbeats 8000000 in
theorem tokensP_calls (s : ByteArray) (A1 : Option Addr) (c1 : Nat) (l1 : List Bool) (w : World) (hs : s.size ≤ 100000) (tb : TBl w) (hr1 : Kd.C Kd.bool w A1 l1.length l1) (hc1 : l1.length ≤ c1) (hl1 : l1.length ≤ 9223372036854775807) :
    Calls Tryd.prog 8 #[.string s, .slice A1 l1.length c1] w (ToksOut w (toksF s (s.size + 2) lx0)) := by
  have HT := Aside0.mk tb
  have HS := Aside0.mk hs
  have HR1 := Aside0.mk hr1
  clear tb hs hr1 hc1
  have hu0 := Tryd.underlying26
  have hu1 := Tryd.underlying38
  go_enter Tryd.func8, Tryd.ntmps8
  go_wp2_with fail
  refine (newLexer_calls s _).mono ?_
  rintro e w0 ⟨g, rfl, hg, hl, hb⟩
  have HW : Aside0 (TkAt w w0 g s lx0 (.slice none ([] : List S26).length 0) [] (s.size + 2)) := ⟨⟨hl, Kd.R_nil _ _ _ _ _, hb, hg, ⟨by show (0 : Int) ≤ _; omega, by decide, by decide, by decide, by decide, by decide, by decide, by decide, by have := HS.out; omega⟩, by simp, Nat.le_add_right _ _, by simp⟩⟩
  clear hg hl hb
  go_wp2_with fail
  go_loopw [7] (fun v7 wr => ∃ (x : LSt) (xs : List S26) (k : Nat) (A7 : Option Addr) (c7 : Nat), v7 = .slice A7 xs.length c7 ∧ Aside0 (TkAt w wr g s x (.slice A7 xs.length c7) xs k)) (fun _ wr => tokM wr g s)
  case atStart => exact ⟨_, _, _, _, _, rfl, HW⟩
  case round =>
    obtain ⟨x, xs, k, A7, c7, rfl, HR⟩ := hrel
    clear HW
    obtain ⟨k, rfl⟩ : ∃ j, k = j + 1 := ⟨k - 1, by have := HR.out.fuel; have := HR.out.gd.p1; omega⟩
    obtain ⟨c, hc⟩ : ∃ c, scanF s (s.size + 1) x = c := ⟨_, rfl⟩
    obtain ⟨c, y⟩ := c
    have HC := Aside0.mk hc
    have HMS := Aside0.mk (tokM_is HR.out.lex)
    have HG := Aside0.mk (scanF_good _ HR.out.gd c y hc)
    have HA : Aside0 (toksF s (k + 1) x = match scanF s (s.size + 1) x with
      | (.eof, _) => ([], true)
      | (.bad, _) => ([], false)
      | (.tok kd, y) => (tokD s kd y :: (toksF s k (emitS y)).1, (toksF s k (emitS y)).2)) := ⟨rfl⟩
    rw [hc] at HA
    clear hc
    by_cases hlt : (xs.length : Int) < (l1.length : Int)
    · obtain ⟨ad, e1, hx0⟩ := Kd.at_bool HR1.out (xs.length : Int) (by omega) hlt
      subst e1
      rw [Int.toNat_natCast] at hx0
      replace hx0 := (HR.out.bel.cell (World.block_lt_of_cell? w _ hx0)).trans hx0
      have hp : ((0 : Int) ≤ (xs.length : Int)) = True := eq_true (by omega)
      have hq := eq_true hlt
      have hdl : decide ((xs.length : Int) < (l1.length : Int)) = true := decide_eq_true hlt
      have hnl : decide (xs.length < l1.length) = true := decide_eq_true (by omega)
      cases hv : rdOf false l1 (xs.length : Int)
      · rw [hv] at hx0
        clear hv
        go_wp2_with fail
        refine (zzScan_calls _ g 50 [] [] s x (HR.out.lx HT.out) HR.out.gd c y HC.out).mono ?_
        rintro e w1 hP
        cases c with
        | eof =>
          obtain ⟨rfl, hO⟩ := hP
          have HO := Aside0.mk (HR.out.scan hO)
          clear hO
          unfold tok0
          go_wp2_with fail
          go_ret2
          have e : toksF s (s.size + 2) lx0 = (xs, true) := by rw [HR.out.all, HA.out, List.append_nil]
          rw [e]
          exact ⟨_, rfl, Kd.R_alloc HO.out.1 _, below_alloc HO.out.2 _⟩
        | bad =>
          obtain ⟨ev, ⟨ti, pv, rfl, _⟩, rfl, hO⟩ := hP
          have HO := Aside0.mk (HR.out.scan hO)
          clear hO
          unfold tok0
          go_wp2_with fail
          go_ret2
          have e : toksF s (s.size + 2) lx0 = (xs, false) := by rw [HR.out.all, HA.out, List.append_nil]
          rw [e]
          exact ⟨_, rfl, Kd.R_alloc HO.out.1 _, below_alloc HO.out.2 _⟩
        | tok kd =>
          obtain ⟨rfl, hO⟩ := hP
          have HO := Aside0.mk (HR.out.scan hO)
          have HL := Aside0.mk hO.lex
          clear hO
          unfold tokV
          have hkd := (HG.out.2 kd rfl).2.1
          have hk0 : (kd == 0) = false := beq_eq_false_iff_ne.2 (by omega)
          have HV := Aside0.mk (Kd.R_alloc HO.out.1 (.cells #[.int .i64 kd, .string (s.extract y.st.toNat y.p.toNat), .int .i64 y.st, .int .i64 y.p, .int .i64 y.cl, .int .i64 y.cs] 38))
          have HX := Aside0.mk (below_alloc HO.out.2 (.cells #[.int .i64 kd, .string (s.extract y.st.toNat y.p.toNat), .int .i64 y.st, .int .i64 y.p, .int .i64 y.cl, .int .i64 y.cs] 38))
          have hxl := HR.out.len
          have hxp := HR.out.gd.p1
          have hss := HS.out
          go_wp2_with (at_builtin; refine Kd.R_append k26 (w0 := w) w.heap.size rfl (.tmp 38) (.tmp 52) 22 26 (.agg #[.int .i64 0, .string ⟨#[]⟩, .int .i64 0, .int .i64 0, .int .i64 0, .int .i64 0]) 56 rfl Tryd.underlying22 infoTok rfl (by decide) (by omega) (.slice A7 xs.length c7) xs (tokD s kd y) [.int .i64 kd, .string (s.extract y.st.toNat y.p.toNat), .int .i64 y.st, .int .i64 y.p, .int .i64 y.cl, .int .i64 y.cs] (fun _ => True) (fun _ => False) rfl (by first | (go_simp; done) | (go_simp; rfl)) (k26_mkM _ _ _ (tokD s kd y)) (fun _ hk => hk.elim) (fun _ _ => trivial) HV.out HX.out ?aS ?aL ?_; (case aS => exact HX.out.size); (case aL => omega); intro v1 w6 ho hb hg6 hat6; have HO6 := Aside0.mk ho; have HB6 := Aside0.mk hb; have HG6 := Aside0.mk hg6; clear ho hb hg6 hat6)
          have HL6 : Aside0 (LexAt w6 g 50 [] [] s .nilIface (emitS y)) := ⟨((HL.out.below (below_alloc (Below.refl _ _) _)).kept HG6.out (fun e => by
            obtain ⟨cells, hc⟩ := Kd.R_typed HV.out _ e
            have h2 := HL.out.below (below_alloc (Below.refl _ _) (.cells #[.int .i64 kd, .string (s.extract y.st.toNat y.p.toNat), .int .i64 y.st, .int .i64 y.p, .int .i64 y.cl, .int .i64 y.cs] 38))
            unfold LexAt at h2
            rw [h2] at hc
            injection hc with hc
            injection hc with _ hc
            exact absurd hc (by decide)))⟩
          have HN : Aside0 (TkAt w w6 g s (emitS y) v1 (xs ++ [tokD s kd y]) k) := ⟨⟨HL6.out, HO6.out, HB6.out, HR.out.low, HG.out.1.emit, by rw [HR.out.all, HA.out, List.append_assoc]; rfl, by
            have := HR.out.fuel
            have := (HG.out.2 kd rfl).1
            have := HR.out.gd.s0; have := HR.out.gd.s1
            show s.size + 2 ≤ k + y.p.toNat
            omega, by
            have := (HG.out.2 kd rfl).1
            have := HR.out.gd.s0; have := HR.out.gd.s1
            show (xs ++ [tokD s kd y]).length ≤ y.p.toNat
            rw [List.length_append]
            show xs.length + 1 ≤ _
            omega⟩⟩
          obtain ⟨A8, c8, e8⟩ := Kd.R_slice HN.out.out
          subst e8
          go_roundw
          case rel => exact ⟨_, _, _, _, _, rfl, HN⟩
          case measure =>
            rw [tokM_is HN.out.lex, HMS.out]
            have h1 := (HG.out.2 kd rfl).1
            have := HR.out.gd.s0; have := HR.out.gd.s1
            have := HG.out.1.p1
            show s.size - y.p.toNat < _
            omega
      · rw [hv] at hx0
        clear hv
        go_wp2_with fail
        refine (zzPeek_calls _ g 50 [] [] s x (HR.out.lx HT.out) HR.out.gd c y HC.out).mono ?_
        rintro e wp hP
        clear hx0
        cases c with
        | eof =>
          obtain ⟨rfl, hO⟩ := hP
          replace HR := Aside0.mk (HR.out.again hO)
          clear hO
          go_wp2_with fail
          refine (zzScan_calls _ g 50 [] [] s x (HR.out.lx HT.out) HR.out.gd _ y HC.out).mono ?_
          rintro e w1 hP
          obtain ⟨rfl, hO⟩ := hP
          have HO := Aside0.mk (HR.out.scan hO)
          clear hO
          unfold tok0
          go_wp2_with fail
          go_ret2
          have e : toksF s (s.size + 2) lx0 = (xs, true) := by rw [HR.out.all, HA.out, List.append_nil]
          rw [e]
          exact ⟨_, rfl, Kd.R_alloc HO.out.1 _, below_alloc HO.out.2 _⟩
        | bad =>
          obtain ⟨ev, ⟨ti, pv, rfl, _⟩, rfl, hO⟩ := hP
          have HOP := Aside0.mk hO
          clear hO
          go_wp2_with fail
          refine (zzScanE_calls _ g 50 [] [] s x ti pv ⟨HOP.out.lex, ⟨w, HT.out, HR.out.low, (HR.out.scan HOP.out).2⟩⟩).mono ?_
          rintro e w1 ⟨rfl, hO⟩
          replace hO := HOP.out.trans hO
          have HO := Aside0.mk (HR.out.scan hO)
          clear hO
          unfold tok0
          go_wp2_with fail
          go_ret2
          have e : toksF s (s.size + 2) lx0 = (xs, false) := by rw [HR.out.all, HA.out, List.append_nil]
          rw [e]
          exact ⟨_, rfl, Kd.R_alloc HO.out.1 _, below_alloc HO.out.2 _⟩
        | tok kd =>
          obtain ⟨rfl, hO⟩ := hP
          replace HR := Aside0.mk (HR.out.again hO)
          clear hO
          go_wp2_with fail
          refine (zzScan_calls _ g 50 [] [] s x (HR.out.lx HT.out) HR.out.gd _ y HC.out).mono ?_
          rintro e w1 hP
          obtain ⟨rfl, hO⟩ := hP
          have HO := Aside0.mk (HR.out.scan hO)
          have HL := Aside0.mk hO.lex
          clear hO
          unfold tokV
          have hkd := (HG.out.2 kd rfl).2.1
          have hk0 : (kd == 0) = false := beq_eq_false_iff_ne.2 (by omega)
          have HV := Aside0.mk (Kd.R_alloc HO.out.1 (.cells #[.int .i64 kd, .string (s.extract y.st.toNat y.p.toNat), .int .i64 y.st, .int .i64 y.p, .int .i64 y.cl, .int .i64 y.cs] 38))
          have HX := Aside0.mk (below_alloc HO.out.2 (.cells #[.int .i64 kd, .string (s.extract y.st.toNat y.p.toNat), .int .i64 y.st, .int .i64 y.p, .int .i64 y.cl, .int .i64 y.cs] 38))
          have hxl := HR.out.len
          have hxp := HR.out.gd.p1
          have hss := HS.out
          go_wp2_with (at_builtin; refine Kd.R_append k26 (w0 := w) w.heap.size rfl (.tmp 38) (.tmp 52) 22 26 (.agg #[.int .i64 0, .string ⟨#[]⟩, .int .i64 0, .int .i64 0, .int .i64 0, .int .i64 0]) 56 rfl Tryd.underlying22 infoTok rfl (by decide) (by omega) (.slice A7 xs.length c7) xs (tokD s kd y) [.int .i64 kd, .string (s.extract y.st.toNat y.p.toNat), .int .i64 y.st, .int .i64 y.p, .int .i64 y.cl, .int .i64 y.cs] (fun _ => True) (fun _ => False) rfl (by first | (go_simp; done) | (go_simp; rfl)) (k26_mkM _ _ _ (tokD s kd y)) (fun _ hk => hk.elim) (fun _ _ => trivial) HV.out HX.out ?aS ?aL ?_; (case aS => exact HX.out.size); (case aL => omega); intro v1 w6 ho hb hg6 hat6; have HO6 := Aside0.mk ho; have HB6 := Aside0.mk hb; have HG6 := Aside0.mk hg6; clear ho hb hg6 hat6)
          have HL6 : Aside0 (LexAt w6 g 50 [] [] s .nilIface (emitS y)) := ⟨((HL.out.below (below_alloc (Below.refl _ _) _)).kept HG6.out (fun e => by
            obtain ⟨cells, hc⟩ := Kd.R_typed HV.out _ e
            have h2 := HL.out.below (below_alloc (Below.refl _ _) (.cells #[.int .i64 kd, .string (s.extract y.st.toNat y.p.toNat), .int .i64 y.st, .int .i64 y.p, .int .i64 y.cl, .int .i64 y.cs] 38))
            unfold LexAt at h2
            rw [h2] at hc
            injection hc with hc
            injection hc with _ hc
            exact absurd hc (by decide)))⟩
          have HN : Aside0 (TkAt w w6 g s (emitS y) v1 (xs ++ [tokD s kd y]) k) := ⟨⟨HL6.out, HO6.out, HB6.out, HR.out.low, HG.out.1.emit, by rw [HR.out.all, HA.out, List.append_assoc]; rfl, by
            have := HR.out.fuel
            have := (HG.out.2 kd rfl).1
            have := HR.out.gd.s0; have := HR.out.gd.s1
            show s.size + 2 ≤ k + y.p.toNat
            omega, by
            have := (HG.out.2 kd rfl).1
            have := HR.out.gd.s0; have := HR.out.gd.s1
            show (xs ++ [tokD s kd y]).length ≤ y.p.toNat
            rw [List.length_append]
            show xs.length + 1 ≤ _
            omega⟩⟩
          obtain ⟨A8, c8, e8⟩ := Kd.R_slice HN.out.out
          subst e8
          go_roundw
          case rel => exact ⟨_, _, _, _, _, rfl, HN⟩
          case measure =>
            rw [tokM_is HN.out.lex, HMS.out]
            have h1 := (HG.out.2 kd rfl).1
            have := HR.out.gd.s0; have := HR.out.gd.s1
            have := HG.out.1.p1
            show s.size - y.p.toNat < _
            omega
    · have hdl : decide ((xs.length : Int) < (l1.length : Int)) = false := decide_eq_false hlt
      have hnl : decide (xs.length < l1.length) = false := decide_eq_false (by omega)
      go_wp2_with fail
      refine (zzScan_calls _ g 50 [] [] s x (HR.out.lx HT.out) HR.out.gd c y HC.out).mono ?_
      rintro e w1 hP
      cases c with
      | eof =>
        obtain ⟨rfl, hO⟩ := hP
        have HO := Aside0.mk (HR.out.scan hO)
        clear hO
        unfold tok0
        go_wp2_with fail
        go_ret2
        have e : toksF s (s.size + 2) lx0 = (xs, true) := by rw [HR.out.all, HA.out, List.append_nil]
        rw [e]
        exact ⟨_, rfl, Kd.R_alloc HO.out.1 _, below_alloc HO.out.2 _⟩
      | bad =>
        obtain ⟨ev, ⟨ti, pv, rfl, _⟩, rfl, hO⟩ := hP
        have HO := Aside0.mk (HR.out.scan hO)
        clear hO
        unfold tok0
        go_wp2_with fail
        go_ret2
        have e : toksF s (s.size + 2) lx0 = (xs, false) := by rw [HR.out.all, HA.out, List.append_nil]
        rw [e]
        exact ⟨_, rfl, Kd.R_alloc HO.out.1 _, below_alloc HO.out.2 _⟩
      | tok kd =>
        obtain ⟨rfl, hO⟩ := hP
        have HO := Aside0.mk (HR.out.scan hO)
        have HL := Aside0.mk hO.lex
        clear hO
        unfold tokV
        have hkd := (HG.out.2 kd rfl).2.1
        have hk0 : (kd == 0) = false := beq_eq_false_iff_ne.2 (by omega)
        have HV := Aside0.mk (Kd.R_alloc HO.out.1 (.cells #[.int .i64 kd, .string (s.extract y.st.toNat y.p.toNat), .int .i64 y.st, .int .i64 y.p, .int .i64 y.cl, .int .i64 y.cs] 38))
        have HX := Aside0.mk (below_alloc HO.out.2 (.cells #[.int .i64 kd, .string (s.extract y.st.toNat y.p.toNat), .int .i64 y.st, .int .i64 y.p, .int .i64 y.cl, .int .i64 y.cs] 38))
        have hxl := HR.out.len
        have hxp := HR.out.gd.p1
        have hss := HS.out
        go_wp2_with (at_builtin; refine Kd.R_append k26 (w0 := w) w.heap.size rfl (.tmp 38) (.tmp 52) 22 26 (.agg #[.int .i64 0, .string ⟨#[]⟩, .int .i64 0, .int .i64 0, .int .i64 0, .int .i64 0]) 56 rfl Tryd.underlying22 infoTok rfl (by decide) (by omega) (.slice A7 xs.length c7) xs (tokD s kd y) [.int .i64 kd, .string (s.extract y.st.toNat y.p.toNat), .int .i64 y.st, .int .i64 y.p, .int .i64 y.cl, .int .i64 y.cs] (fun _ => True) (fun _ => False) rfl (by first | (go_simp; done) | (go_simp; rfl)) (k26_mkM _ _ _ (tokD s kd y)) (fun _ hk => hk.elim) (fun _ _ => trivial) HV.out HX.out ?aS ?aL ?_; (case aS => exact HX.out.size); (case aL => omega); intro v1 w6 ho hb hg6 hat6; have HO6 := Aside0.mk ho; have HB6 := Aside0.mk hb; have HG6 := Aside0.mk hg6; clear ho hb hg6 hat6)
        have HL6 : Aside0 (LexAt w6 g 50 [] [] s .nilIface (emitS y)) := ⟨((HL.out.below (below_alloc (Below.refl _ _) _)).kept HG6.out (fun e => by
          obtain ⟨cells, hc⟩ := Kd.R_typed HV.out _ e
          have h2 := HL.out.below (below_alloc (Below.refl _ _) (.cells #[.int .i64 kd, .string (s.extract y.st.toNat y.p.toNat), .int .i64 y.st, .int .i64 y.p, .int .i64 y.cl, .int .i64 y.cs] 38))
          unfold LexAt at h2
          rw [h2] at hc
          injection hc with hc
          injection hc with _ hc
          exact absurd hc (by decide)))⟩
        have HN : Aside0 (TkAt w w6 g s (emitS y) v1 (xs ++ [tokD s kd y]) k) := ⟨⟨HL6.out, HO6.out, HB6.out, HR.out.low, HG.out.1.emit, by rw [HR.out.all, HA.out, List.append_assoc]; rfl, by
          have := HR.out.fuel
          have := (HG.out.2 kd rfl).1
          have := HR.out.gd.s0; have := HR.out.gd.s1
          show s.size + 2 ≤ k + y.p.toNat
          omega, by
          have := (HG.out.2 kd rfl).1
          have := HR.out.gd.s0; have := HR.out.gd.s1
          show (xs ++ [tokD s kd y]).length ≤ y.p.toNat
          rw [List.length_append]
          show xs.length + 1 ≤ _
          omega⟩⟩
        obtain ⟨A8, c8, e8⟩ := Kd.R_slice HN.out.out
        subst e8
        go_roundw
        case rel => exact ⟨_, _, _, _, _, rfl, HN⟩
        case measure =>
          rw [tokM_is HN.out.lex, HMS.out]
          have h1 := (HG.out.2 kd rfl).1
          have := HR.out.gd.s0; have := HR.out.gd.s1
          have := HG.out.1.p1
          show s.size - y.p.toNat < _
          omega
def impl_TokensPeeked.f (a0 : ByteArray) (l1 : List Bool) : Option (List S26 × Bool) := if a0.size ≤ 100000 ∧ l1.length ≤ 9223372036854775807 then some (toksF a0 (a0.size + 2) lx0) else none
theorem impl_TokensPeeked.calls (a0 : ByteArray) (A1 : Option Addr) (c1 : Nat) (l1 : List Bool) (r1 : List S26) (r2 : Bool) (w : World) (tb : TBl w) (hr1 : Kd.C Kd.bool w A1 l1.length l1) (hc1 : l1.length ≤ c1) (h : impl_TokensPeeked.f a0 l1 = some (r1, r2)) :
    Calls Tryd.prog 8 #[.string a0, .slice A1 l1.length c1] w fun e w' => ∃ v0_ : Value, e = .returned (.tuple #[v0_, .bool r2]) ∧ Kd.R k26 26 w' w.heap.size (fun _ => True) v0_ r1 ∧ Below w.heap.size w w' := by
  unfold impl_TokensPeeked.f at h
  split at h
  case isFalse => cases h
  case isTrue hs =>
  have h2 := Option.some.inj h
  have := tokensP_calls a0 A1 c1 l1 w hs.1 tb hr1 hc1 hs.2
  rw [h2] at this
  exact this
end Go.Proofs.YtlpcbmgleecafaaDoor.Q
