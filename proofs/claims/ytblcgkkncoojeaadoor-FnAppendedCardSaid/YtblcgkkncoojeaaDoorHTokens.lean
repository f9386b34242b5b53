/- impl.Tokens: the tokens of a text. Condition: a text of at most 100000 bytes; the library's tables as it lays them. -/
import Derived.Test.YtblcgkkncoojeaaDoorHParKM
set_option linter.unusedVariables false
set_option linter.unusedSimpArgs false
namespace Go.Proofs.YtblcgkkncoojeaaDoor.Q
open Go.RowKit Go.Lib Go.Proofs.YtblcgkkncoojeaaDoorW.PrintWords Go.Proofs.YtblcgkkncoojeaaDoorW.PrintLast Go.Proofs.YtblcgkkncoojeaaDoorW.PrintMore
attribute [local go_sem] max2_int min2_int max_two min_two max_three min_three max_four min_four
/-- The state at the head of the loop over tokens. -/
structure TkAt (w wr : World) (g : Nat) (s : ByteArray) (x : LSt) (v : Value) (xs : List S28) (k : Nat) : Prop where
  lex : LexAt wr g 65 [] [] s .nilIface x
  out : Kd.R k28 28 wr w.heap.size (fun _ => True) v xs
  bel : Below w.heap.size w wr
  low : w.heap.size ≤ g
  gd : LGd s x
  all : toksF s (s.size + 2) lx0 = (xs ++ (toksF s k x).1, (toksF s k x).2)
  fuel : s.size + 2 ≤ k + x.p.toNat
  len : xs.length ≤ x.p.toNat
def tokM (w : World) (g : Nat) (s : ByteArray) : Nat := match w.cell? ⟨g, 3, none⟩ with
  | some (.int _ p) => s.size - p.toNat
  | _ => 0
section
variable {w wr w1 : World} {g : Nat} {s : ByteArray} {x y : LSt} {v : Value} {xs : List S28} {k : Nat}
theorem tokM_is (h : LexAt w g 65 [] [] s .nilIface x) : tokM w g s = s.size - x.p.toNat := by
  unfold tokM
  rw [show w.cell? ⟨g, 3, none⟩ = some (.int .i64 x.p) from h.c3]
theorem TkAt.lx (h : TkAt w wr g s x v xs k) (tb : TBl w) : LX wr g 65 [] [] s .nilIface x := ⟨h.lex, ⟨w, tb, h.low, h.bel⟩⟩
/-- What the lexer's scan leaves of the list and of the old memory. -/
theorem TkAt.scan (h : TkAt w wr g s x v xs k) {err : Value} (ho : LexOut wr w1 g 65 [] [] s err y) : Kd.R k28 28 w1 w.heap.size (fun _ => True) v xs ∧ Below w.heap.size w w1 := by
  refine ⟨Kd.R_over' (v := .slice (some ⟨g, 0, none⟩) 0 0) (e' := 65) h.out (fun k hk => ?_) (by decide) ho.grown, h.bel.grown ho.grown h.bel.size (fun k hk => by injection hk with e; have := h.low; omega)⟩
  have e : some g = some k := hk
  injection e with e
  exact ⟨_, by rw [← e]; exact h.lex⟩
end
theorem infoTok : (Tryd.prog.info? 28).map (fun i => (i.zero, i.size, i.bytes)) = some (some (.agg #[.int .i64 0, .string ⟨#[]⟩, .int .i64 0, .int .i64 0, .int .i64 0, .int .i64 0]), 6, 56) := by kernel_rfl
/-- What Tokens hands back. -/
def ToksOut (w : World) (r : List S28 × Bool) (e : Ending) (w' : World) : Prop := ∃ v, e = .returned (.tuple #[v, .bool r.2]) ∧ Kd.R k28 28 w' w.heap.size (fun _ => True) v r.1 ∧ Below w.heap.size w w'
set_option maxRecDepth 100000 in
set_option maxHeartbeats 4000000 in
theorem tokens_calls (s : ByteArray) (w : World) (hs : s.size ≤ 100000) (tb : TBl w) :
    Calls Tryd.prog 11 #[.string s] w (ToksOut w (toksF s (s.size + 2) lx0)) := by
  have HT := Aside0.mk tb
  have HS := Aside0.mk hs
  clear tb hs
  have hu0 := Tryd.underlying28
  have hu1 := Tryd.underlying51
  go_enter Tryd.func11, Tryd.ntmps11
  go_wp2_with fail
  refine (newLexer_calls s _).mono ?_
  rintro e w0 ⟨g, rfl, hg, hl, hb⟩
  have HW : Aside0 (TkAt w w0 g s lx0 (.slice none 0 0) [] (s.size + 2)) := ⟨⟨hl, Kd.R_nil _ _ _ _ _, hb, hg, ⟨by show (0 : Int) ≤ _; omega, by decide, by decide, by decide, by decide, by decide, by decide, by decide, by have := HS.out; omega⟩, by simp, Nat.le_add_right _ _, by simp⟩⟩
  clear hg hl hb
  go_wp2_with fail
  go_loopw [5] (fun v5 wr => ∃ (x : LSt) (xs : List S28) (k : Nat), Aside0 (TkAt w wr g s x v5 xs k)) (fun _ wr => tokM wr g s)
  case atStart => exact ⟨_, _, _, HW⟩
  case round =>
    obtain ⟨x, xs, k, HR⟩ := hrel
    clear HW
    obtain ⟨k, rfl⟩ : ∃ j, k = j + 1 := ⟨k - 1, by have := HR.out.fuel; have := HR.out.gd.p1; omega⟩
    obtain ⟨c, hc⟩ : ∃ c, scanF s (s.size + 1) x = c := ⟨_, rfl⟩
    obtain ⟨c, y⟩ := c
    have HC := Aside0.mk hc
    have HG := Aside0.mk (scanF_good _ HR.out.gd c y hc)
    have HA : Aside0 (toksF s (k + 1) x = match scanF s (s.size + 1) x with
      | (.eof, _) => ([], true)
      | (.bad, _) => ([], false)
      | (.tok kd, y) => (tokD s kd y :: (toksF s k (emitS y)).1, (toksF s k (emitS y)).2)) := ⟨rfl⟩
    rw [hc] at HA
    clear hc
    go_wp2_with fail
    refine (zzScan_calls wr g 65 [] [] s x (HR.out.lx HT.out) HR.out.gd c y HC.out).mono ?_
    rintro e w1 hP
    cases c with
    | eof =>
      obtain ⟨rfl, hO⟩ := hP
      have HO := Aside0.mk (HR.out.scan hO)
      clear hO
      unfold tok0
      go_wp2_with fail
      go_ret2
      have e : toksF s (s.size + 2) lx0 = (xs, true) := by rw [HR.out.all, HA.out, List.append_nil]
      rw [e]
      exact ⟨_, rfl, Kd.R_alloc HO.out.1 _, below_alloc HO.out.2 _⟩
    | bad =>
      obtain ⟨ev, ⟨ti, pv, rfl, _⟩, rfl, hO⟩ := hP
      have HO := Aside0.mk (HR.out.scan hO)
      clear hO
      unfold tok0
      go_wp2_with fail
      go_ret2
      have e : toksF s (s.size + 2) lx0 = (xs, false) := by rw [HR.out.all, HA.out, List.append_nil]
      rw [e]
      exact ⟨_, rfl, Kd.R_alloc HO.out.1 _, below_alloc HO.out.2 _⟩
    | tok kd =>
      obtain ⟨rfl, hO⟩ := hP
      have HO := Aside0.mk (HR.out.scan hO)
      have HL := Aside0.mk hO.lex
      clear hO
      unfold tokV
      have hkd := (HG.out.2 kd rfl).2.1
      have hk0 : (kd == 0) = false := beq_eq_false_iff_ne.2 (by omega)
      have HV := Aside0.mk (Kd.R_alloc HO.out.1 (.cells #[.int .i64 kd, .string (s.extract y.st.toNat y.p.toNat), .int .i64 y.st, .int .i64 y.p, .int .i64 y.cl, .int .i64 y.cs] 51))
      have HX := Aside0.mk (below_alloc HO.out.2 (.cells #[.int .i64 kd, .string (s.extract y.st.toNat y.p.toNat), .int .i64 y.st, .int .i64 y.p, .int .i64 y.cl, .int .i64 y.cs] 51))
      have hxl := HR.out.len
      have hxp := HR.out.gd.p1
      have hss := HS.out
      go_wp2_with (at_builtin; refine Kd.R_append k28 (w0 := w) w.heap.size rfl (.tmp 22) (.tmp 36) 24 28 (.agg #[.int .i64 0, .string ⟨#[]⟩, .int .i64 0, .int .i64 0, .int .i64 0, .int .i64 0]) 56 rfl Tryd.underlying24 infoTok rfl (by decide) (by omega) u5 xs (tokD s kd y) [.int .i64 kd, .string (s.extract y.st.toNat y.p.toNat), .int .i64 y.st, .int .i64 y.p, .int .i64 y.cl, .int .i64 y.cs] (fun _ => True) (fun _ => False) rfl (by first | (go_simp; done) | (go_simp; rfl)) (k28_mkM _ _ _ (tokD s kd y)) (fun _ hk => hk.elim) (fun _ _ => trivial) HV.out HX.out ?aS ?aL ?_; (case aS => exact HX.out.size); (case aL => omega); intro v1 w6 ho hb hg6 hat6; have HO6 := Aside0.mk ho; have HB6 := Aside0.mk hb; have HG6 := Aside0.mk hg6; clear ho hb hg6 hat6)
      have HL6 : Aside0 (LexAt w6 g 65 [] [] s .nilIface (emitS y)) := ⟨((HL.out.below (below_alloc (Below.refl _ _) _)).kept HG6.out (fun e => by
        obtain ⟨cells, hc⟩ := Kd.R_typed HV.out _ e
        have h2 := HL.out.below (below_alloc (Below.refl _ _) (.cells #[.int .i64 kd, .string (s.extract y.st.toNat y.p.toNat), .int .i64 y.st, .int .i64 y.p, .int .i64 y.cl, .int .i64 y.cs] 51))
        unfold LexAt at h2
        rw [h2] at hc
        injection hc with hc
        injection hc with _ hc
        exact absurd hc (by decide)))⟩
      have HN : Aside0 (TkAt w w6 g s (emitS y) v1 (xs ++ [tokD s kd y]) k) := ⟨⟨HL6.out, HO6.out, HB6.out, HR.out.low, HG.out.1.emit, by rw [HR.out.all, HA.out, List.append_assoc]; rfl, by
        have := HR.out.fuel
        have := (HG.out.2 kd rfl).1
        have := HR.out.gd.s0; have := HR.out.gd.s1
        show s.size + 2 ≤ k + y.p.toNat
        omega, by
        have := (HG.out.2 kd rfl).1
        have := HR.out.gd.s0; have := HR.out.gd.s1
        show (xs ++ [tokD s kd y]).length ≤ y.p.toNat
        rw [List.length_append]
        show xs.length + 1 ≤ _
        omega⟩⟩
      go_roundw
      case rel => exact ⟨_, _, _, HN⟩
      case measure =>
        rw [tokM_is HN.out.lex, tokM_is HR.out.lex]
        have h1 := (HG.out.2 kd rfl).1
        have := HR.out.gd.s0; have := HR.out.gd.s1
        have := HG.out.1.p1
        show s.size - y.p.toNat < _
        omega
def impl_Tokens.f (a0 : ByteArray) : Option (List S28 × Bool) := if a0.size ≤ 100000 then some (toksF a0 (a0.size + 2) lx0) else none
theorem impl_Tokens.calls (a0 : ByteArray) (r1 : List S28) (r2 : Bool) (w : World) (tb : TBl w) (h : impl_Tokens.f a0 = some (r1, r2)) :
    Calls Tryd.prog 11 #[.string a0] w fun e w' => ∃ v0_ : Value, e = .returned (.tuple #[v0_, .bool r2]) ∧ Kd.R k28 28 w' w.heap.size (fun _ => True) v0_ r1 ∧ Below w.heap.size w w' := by
  unfold impl_Tokens.f at h
  split at h
  case isFalse => cases h
  case isTrue hs =>
  have h2 := Option.some.inj h
  have := tokens_calls a0 w hs tb
  rw [h2] at this
  exact this
end Go.Proofs.YtblcgkkncoojeaaDoor.Q
