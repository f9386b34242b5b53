/- The reference's list without its braces: spec.inside. Condition: at most 1000000 tokens. The reference's reader of lists of matchers: what spec.ParseMatchers returns. Condition: a text of at most 20000 bytes without the sign of regular expressions. The reference's reader of one matcher: what spec.ParseMatcher returns. Condition: a text of at most 20000 bytes without the sign of regular expressions. -/
import Derived.Test.YtnnhehlieakedaaGreatDoorURefM
import Derived.Test.YtnnhehlieakedaaGreatDoorHKinds
import Derived.Lib.BufferOwn
import Derived.Test.YtnnhehlieakedaaGreatDoorQspecTM
namespace Go.Proofs.YtnnhehlieakedaaGreatDoor.Q
open Go.RowKit Go.Lib Go.Proofs.YtnnhehlieakedaaGreatDoorW.PrintWords Go.Proofs.YtnnhehlieakedaaGreatDoorW.PrintLast Go.Proofs.YtnnhehlieakedaaGreatDoorW.PrintMore
attribute [local go_sem] max2_int min2_int max_two min_two max_three min_three max_four min_four
def InsP (w : World) (l : List S61) (e : Ending) (w' : World) : Prop := match inT l with
  | none => e = .returned (.tuple #[.slice none 0 0, .int .i64 0]) ∧ Below w.heap.size w w'
  | some q => ∃ A c, e = .returned (.tuple #[.slice A q.length c, .int .i64 1]) ∧ q.length ≤ c ∧ Kd.C k61 w A q.length q ∧ Below w.heap.size w w'
theorem insP_none {w : World} {l : List S61} {e : Ending} {w' : World} (h : inT l = none) (h1 : e = .returned (.tuple #[.slice none 0 0, .int .i64 0])) (h2 : Below w.heap.size w w') : InsP w l e w' := by
  unfold InsP; rw [h]; exact ⟨h1, h2⟩
theorem insP_some {w : World} {l q : List S61} {e : Ending} {w' : World} (h : inT l = some q) {A : Option Addr} {c : Nat} (h1 : e = .returned (.tuple #[.slice A q.length c, .int .i64 1])) (hc : q.length ≤ c) (hC : Kd.C k61 w A q.length q) (h2 : Below w.heap.size w w') : InsP w l e w' := by
  unfold InsP; rw [h]; exact ⟨A, c, h1, hc, hC, h2⟩
theorem infoTk : (Tryz.prog.info? 61).map (fun i => i.size) = some 6 := by kernel_rfl
theorem cut_tk (A : Option Addr) (n c : Nat) (lo hi' : Int) (h0 : 0 ≤ lo) (h1 : lo ≤ hi') (h2 : hi' ≤ n) (hc : n ≤ c) : ∀ W : World, (Instr.slice 57 (.slice A n c) (some (.int .i64 lo)) (some (.int .i64 hi')) none).run Tryz.prog W = .ok (.slice (if c = lo.toNat then A else A.map (·.add (lo.toNat * 6))) (hi'.toNat - lo.toNat) (c - lo.toNat)) W := by
  obtain ⟨i, hi, hs⟩ : ∃ i, Tryz.prog.info? 61 = some i ∧ i.size = 6 := by
    have := infoTk
    cases h : Tryz.prog.info? 61 with
    | none => rw [h] at this; cases this
    | some i => rw [h] at this; exact ⟨i, rfl, Option.some.inj this⟩
  exact cut_mid _ _ .i64 .i64 Tryz.underlying57 hi 6 hs A n c lo hi' h0 h1 h2 hc
theorem cutf_tk (A : Option Addr) (n c : Nat) (j : Int) (h0 : 0 ≤ j) (hm : j ≤ n) : ∀ W : World, (Instr.slice 57 (.slice A n c) (some (.int .i64 j)) none none).run Tryz.prog W = .ok (.slice (if c = j.toNat then A else A.map (·.add (j.toNat * 6))) (n - j.toNat) (c - j.toNat)) W := by
  obtain ⟨i, hi, hs⟩ : ∃ i, Tryz.prog.info? 61 = some i ∧ i.size = 6 := by
    have := infoTk
    cases h : Tryz.prog.info? 61 with
    | none => rw [h] at this; cases this
    | some i => rw [h] at this; exact ⟨i, rfl, Option.some.inj this⟩
  exact cut_from _ _ .i64 Tryz.underlying57 hi 6 hs A n c j h0 hm
theorem last_rd (l : List S61) (z : S61) (h : l.getLast? = some z) : rd_T61 l ((l.length : Int) - 1) = z := by
  unfold rd_T61
  rw [List.getLast?_eq_getElem?] at h
  have e : ((l.length : Int) - 1).toNat = l.length - 1 := by omega
  rw [e, List.getD_eq_getElem?_getD, h]
  rfl
set_option maxRecDepth 100000 in
set_option maxHeartbeats 4000000 in
theorem inside_calls (A0 : Option Addr) (c0 : Nat) (l : List S61) (w : World) (hr : Kd.C k61 w A0 l.length l) (hc : l.length ≤ c0) (hl : l.length ≤ 1000000) :
    Calls Tryz.prog 42 #[.slice A0 l.length c0] w (InsP w l) := by
  match l, hr, hc, hl with
  | [], hr, hc, hl =>
    have HR := Aside0.mk hr
    clear hr
    go_enter Tryz.func42, Tryz.ntmps42
    go_wp2
    go_ret2
    exact insP_some (q := []) rfl rfl hc HR.out (by repeat (first | exact Below.refl _ _ | apply below_drew | apply pw_below_drewN))
  | t :: r, hr, hc, hl =>
    obtain ⟨ad, e1, h0, _⟩ := at_T61 hr 0 (by decide) (by simp)
    subst e1
    have hq0 : rd_T61 (t :: r) 0 = t := rfl
    rw [hq0, show ad.add (Int.toNat 0 * 6) = ad by cases ad; rfl] at h0
    obtain ⟨z, hz⟩ : ∃ z, (t :: r).getLast? = some z := by
      cases h : (t :: r).getLast? with
      | none => simp at h
      | some z => exact ⟨z, rfl⟩
    obtain ⟨ad2, e2, h1, _⟩ := at_T61 hr (((t :: r).length : Int) - 1) (by simp) (by omega)
    injection e2 with e2
    subst e2
    rw [last_rd _ _ hz] at h1
    have HR := Aside0.mk hr
    have hn0 : 1 ≤ (t :: r).length := by simp
    have HI : Aside0 (inT (t :: r) = if t.f0 = 1 then (match r.getLast? with
      | some z => if z.f0 = 2 then some r.dropLast else none
      | none => none)
    else (match (t :: r).getLast? with
      | some z => if z.f0 = 2 then none else some (t :: r)
      | none => none)) := ⟨rfl⟩
    have HL : Aside0 ((t :: r).length = r.length + 1) := ⟨rfl⟩
    rw [hz] at HI
    have HZ := Aside0.mk hz
    clear hr hz hq0
    generalize (t :: r).length = n at *
    rw [show ((n : Int) - 1).toNat = n - 1 by omega] at h1
    have g0 : (0 < (n : Int)) = True := eq_true (by omega)
    have g0' : (0 < n) = True := eq_true (by omega)
    have hw : wrap64 ((n : Int) - 1) = (n : Int) - 1 := by unfold wrap64; omega
    have g1 : (0 ≤ (n : Int) - 1) = True := eq_true (by omega)
    have g2 : ((n : Int) - 1 < (n : Int)) = True := eq_true (by omega)
    by_cases ht : t.f0 = 1
    · have et : (t.f0 == 1) = true := by rw [ht]; rfl
      by_cases hz2 : z.f0 = 2
      · have ez : (z.f0 == 2) = true := by rw [hz2]; rfl
        have hr2 : 2 ≤ n := by
          have hL := HL.out
          have hZ := HZ.out
          match r, hL, hZ with
          | [], _, hZ =>
            have : t = z := by simpa using hZ
            rw [this] at ht
            omega
          | a :: r, hL, _ => simp at hL; omega
        have g3 : ((n : Int) < 2) = False := eq_false (by omega)
        have g3' : (n < 2) = False := eq_false (by omega)
        obtain ⟨A2, hA2⟩ : ∃ A2, A2 = (if c0 = 1 then some ad else (some ad).map (·.add (1 * 6))) := ⟨_, rfl⟩
        have hcut := cut_tk (some ad) n c0 1 ((n : Int) - 1) (by decide) (by omega) (by omega) hc
        rw [show (1 : Int).toNat = 1 by decide, ← hA2, show ((n : Int) - 1).toNat - 1 = n - 2 by omega] at hcut
        have HA2 := Aside0.mk hA2
        clear hA2
        have HF : Aside0 (inT (t :: r) = some r.dropLast ∧ r.dropLast.length = n - 2 ∧ Kd.C k61 w A2 r.dropLast.length r.dropLast) := ⟨by
          have hL := HL.out
          have hI := HI.out
          have hrz : r.getLast? = some z := by
            have hZ := HZ.out
            match r, hL, hZ with
            | [], hL, _ => simp at hL; omega
            | a :: r, _, hZ => rwa [List.getLast?_cons_cons] at hZ
          rw [hrz] at hI
          simp only [if_pos ht, if_pos hz2] at hI
          refine ⟨hI, by rw [List.length_dropLast]; omega, ?_⟩
          have hR := HR.out
          have hC := Kd.C_mid (c := c0) (lo := 1) (hi := n - 1) (xs := t :: r) (A := some ad) (w := w) (k := k61) (by rw [hL] at hR; exact hR) (by omega) (by rw [List.length_cons]; omega) (by rw [List.length_cons]; omega)
          have e : ((t :: r).take (n - 1)).drop 1 = r.dropLast := by
            rw [show n - 1 = (r.length - 1) + 1 by omega, List.take_succ_cons, List.drop_succ_cons, List.drop_zero, List.dropLast_eq_take]
          rw [e] at hC
          rw [HA2.out]
          exact hC⟩
        go_enter Tryz.func42, Tryz.ntmps42
        go_wp2
        go_ret2
        exact insP_some (A := A2) (c := c0 - 1) HF.out.1 (by show Ending.returned (.tuple #[.slice A2 (n - 2) (c0 - 1), .int .i64 1]) = _; rw [HF.out.2.1]) (by rw [HF.out.2.1]; omega) HF.out.2.2 (by repeat (first | exact Below.refl _ _ | apply below_drew | apply pw_below_drewN))
      · have ez : (z.f0 == 2) = false := beq_eq_false_iff_ne.2 hz2
        have HF : Aside0 (inT (t :: r) = none) := ⟨by
          have hI := HI.out
          rw [hI]
          simp only [if_pos ht]
          have hZ := HZ.out
          match r, hZ with
          | [], _ => rfl
          | a :: r, hZ =>
            rw [List.getLast?_cons_cons] at hZ
            rw [hZ]
            simp only [if_neg hz2]⟩
        go_enter Tryz.func42, Tryz.ntmps42
        go_wp2
        go_ret2
        exact insP_none HF.out rfl (by repeat (first | exact Below.refl _ _ | apply below_drew | apply pw_below_drewN))
    · have et : (t.f0 == 1) = false := beq_eq_false_iff_ne.2 ht
      by_cases hz2 : z.f0 = 2
      · have ez : (z.f0 == 2) = true := by rw [hz2]; rfl
        have HF : Aside0 (inT (t :: r) = none) := ⟨by
          rw [HI.out]
          simp only [if_neg ht, if_pos hz2]⟩
        go_enter Tryz.func42, Tryz.ntmps42
        go_wp2
        go_ret2
        exact insP_none HF.out rfl (by repeat (first | exact Below.refl _ _ | apply below_drew | apply pw_below_drewN))
      · have ez : (z.f0 == 2) = false := beq_eq_false_iff_ne.2 hz2
        have HF : Aside0 (inT (t :: r) = some (t :: r)) := ⟨by
          rw [HI.out]
          simp only [if_neg ht, if_neg hz2]⟩
        have HL2 : Aside0 ((t :: r).length = n) := ⟨HL.out.symm⟩
        go_enter Tryz.func42, Tryz.ntmps42
        go_wp2
        go_ret2
        exact insP_some (A := some ad) (c := c0) HF.out (by show Ending.returned (.tuple #[.slice (some ad) n c0, .int .i64 1]) = _; rw [HL2.out]) (by rw [HL2.out]; exact hc) (by rw [HL2.out]; exact HR.out) (by repeat (first | exact Below.refl _ _ | apply below_drew | apply pw_below_drewN))
end Go.Proofs.YtnnhehlieakedaaGreatDoor.Q
namespace Go.Proofs.YtnnhehlieakedaaGreatDoor.Q
open Go.RowKit Go.Lib Go.Proofs.YtnnhehlieakedaaGreatDoorW.PrintWords Go.Proofs.YtnnhehlieakedaaGreatDoorW.PrintLast Go.Proofs.YtnnhehlieakedaaGreatDoorW.PrintMore
attribute [local go_sem] max2_int min2_int max_two min_two max_three min_three max_four min_four
def RefP (w : World) (r : List S28 × Int) (e : Ending) (w' : World) : Prop := ∃ v, e = .returned (.tuple #[v, .int .i64 r.2]) ∧ Kd.R k28 28 w' w.heap.size (fun _ => True) v r.1 ∧ Below w.heap.size w w'
theorem infoSM : (Tryz.prog.info? 28).map (fun i => (i.zero, i.size, i.bytes)) = some (some (.agg #[.int .i64 0, .string ⟨#[]⟩, .string ⟨#[]⟩]), 3, 40) := by kernel_rfl
def lenV : Value → Nat
  | .slice _ n _ => n
  | _ => 0
theorem refP_mk {w w' : World} {r : List S28 × Int} {l : List S28} {x : Int} {v : Value} {e : Ending} (h : r = (l, x)) (he : e = .returned (.tuple #[v, .int .i64 x])) (hR : Kd.R k28 28 w' w.heap.size (fun _ => True) v l) (hB : Below w.heap.size w w') : RefP w r e w' := by
  subst h
  exact ⟨v, he, hR, hB⟩
structure RlAt (w wr : World) (q0 q : List S61) (A : Option Addr) (c : Nat) (v7 : Value) (out : List S28) (st : Int) (k : Nat) : Prop where
  row : Kd.C k61 w A q.length q
  cap : q.length ≤ c
  outs : Kd.R k28 28 wr w.heap.size (fun _ => True) v7 out
  bel : Below w.heap.size w wr
  all : pmGo (q0.length + 1) q0 [] 1 = pmGo k q out st
  fuel : q.length < k
  part : ∃ p, q0 = p ++ q
  len : out.length + q.length ≤ 100000
theorem thR_cases (q : List S61) : (thR q).2 = 0 ∨ (thR q).2 = 1 ∨ (thR q).2 = 2 := by
  unfold thR
  split <;> simp
set_option maxRecDepth 100000 in
set_option maxHeartbeats 8000000 in
theorem refAll_calls (s : ByteArray) (w : World) (hs : s.size ≤ 20000) (ht : ∀ i : Int, 0 ≤ i → i < s.size → (bt s i == 126) = false) (K : Nat) (ts : List S61) (is : Int) (hT : spec_Tokens.f K s = some (ts, is)) (hW : ∀ q0 p q, inT ts = some q0 → q0 = p ++ q → spec_three.f K q = some (thV (thR q))) (hlen : ts.length ≤ 100000) :
    Calls Tryz.prog 26 #[.string s] w (RefP w (pmAll (ts, is))) := by
  have HT := Aside0.mk hT
  have HW := Aside0.mk hW
  have H126 := Aside0.mk ht
  clear hT hW ht
  have hu0 := Tryz.underlying28
  go_enter Tryz.func26, Tryz.ntmps26
  go_wp2
  go_loop [13] (fun v13 => ∃ x : Int, 0 ≤ x ∧ x ≤ (s.size : Int) ∧ v13 = .int .i64 x) (fun v13 => ((s.size : Int) - RowKit.intOf v13).toNat)
  case atStart => exact ⟨0, by omega, by omega, rfl⟩
  case round =>
    obtain ⟨x, hx, hxl, rfl⟩ := hrel
    by_cases hlt : x < (s.size : Int)
    · have hb := bt_at s x
      have h126 := H126.out x hx hlt
      have hp := eq_true hx
      have hq := eq_true hlt
      have hxn : x.toNat < s.size := by omega
      go_wp2
      go_round
      case rel => exact ⟨x + 1, by omega, by omega, by go_simp⟩
      case measure => simp [RowKit.intOf]; omega
    · have hxe : x = (s.size : Int) := by omega
      subst hxe
      go_wp2_with fail
      refine (spec_Tokens.calls K s ts is _ HT.out).mono ?_
      rintro e w1 ⟨v, rfl, hR, hB⟩
      obtain ⟨A, c, rfl, hc, hC⟩ := Kd.R_reads hR
      have HB1 := Aside0.mk hB
      have HC1 := Aside0.mk hC
      clear hR hB hC
      by_cases h1 : is = 1
      · subst h1
        go_wp2_with fail
        refine (inside_calls A c ts w1 HC1.out hc (by omega)).mono ?_
        rintro e w2 hI
        unfold InsP at hI
        cases hq : inT ts with
        | none =>
          rw [hq] at hI
          obtain ⟨rfl, hb⟩ := hI
          have HB2 := Aside0.mk (below_step HB1.out hb)
          have HF : Aside0 (pmAll (ts, 1) = ([], 0)) := ⟨by unfold pmAll; rw [if_pos rfl, hq]⟩
          clear hb
          go_wp2
          go_ret2
          exact refP_mk (v := .slice none 0 0) HF.out rfl (Kd.R_nil _ _ _ _ _) HB2.out
        | some q0 =>
          rw [hq] at hI
          obtain ⟨A2, c2, rfl, hc2, hC2, hb⟩ := hI
          have HB2 := Aside0.mk (below_step HB1.out hb)
          have HC2 := Aside0.mk (Kd.C_below hC2 hb)
          have HF : Aside0 (pmAll (ts, 1) = pmGo (q0.length + 1) q0 [] 1) := ⟨by unfold pmAll; rw [if_pos rfl, hq]⟩
          have HW2 : Aside0 (∀ p q, q0 = p ++ q → spec_three.f K q = some (thV (thR q))) := ⟨fun p q h => HW.out q0 p q hq h⟩
          have hq0 : q0.length ≤ 100000 := by
            have : q0.length ≤ ts.length := by
              unfold inT at hq
              split at hq
              · obtain rfl := Option.some.inj hq; exact Nat.le_refl _
              · split at hq
                · split at hq
                  · split at hq
                    · obtain rfl := Option.some.inj hq
                      simp only [List.length_dropLast, List.length_cons]; omega
                    · cases hq
                  · cases hq
                · split at hq
                  · split at hq
                    · cases hq
                    · obtain rfl := Option.some.inj hq; exact Nat.le_refl _
                  · cases hq
            omega
          have HS : Aside0 (RlAt w2 w2 q0 q0 A2 c2 (.slice none 0 0) [] 1 (q0.length + 1)) := ⟨⟨HC2.out, hc2, Kd.R_nil _ _ _ _ _, Below.refl _ _, rfl, Nat.lt_succ_self _, ⟨[], rfl⟩, by simpa using hq0⟩⟩
          clear hb hC2
          go_wp2_with fail
          go_loopw [5, 7, 8] (fun v5 v7 v8 wr => ∃ (q : List S61) (A : Option Addr) (c : Nat) (out : List S28) (st : Int) (k : Nat), v5 = .slice A q.length c ∧ v8 = .int .i64 st ∧ (st = 1 ∨ st = 2) ∧ Aside0 (RlAt w2 wr q0 q A c v7 out st k)) (fun v5 _ _ _ => lenV v5)
          case atStart => exact ⟨q0, A2, c2, [], 1, _, rfl, rfl, Or.inl rfl, HS⟩
          case round =>
            obtain ⟨q, A, c, out, st, k, rfl, rfl, hst, HR⟩ := hrel
            have hk := HR.out.fuel
            obtain ⟨k, rfl⟩ : ∃ j, k = j + 1 := ⟨k - 1, by omega⟩
            have hln := HR.out.len
            have hcap := HR.out.cap
            by_cases hq0l : q.length = 0
            · have HE : Aside0 (pmAll (ts, 1) = if st = 2 then ([], 2) else (out, 1)) := ⟨by rw [HF.out, HR.out.all, pmGo, if_pos hq0l]⟩
              have HZ := Aside0.mk (And.intro (Kd.R_lower HR.out.outs HB2.out.size) (below_step HB2.out HR.out.bel))
              rw [hq0l]
              rcases hst with rfl | rfl
              · go_wp2
                go_ret2
                exact refP_mk (v := u7) HE.out rfl HZ.out.1 HZ.out.2
              · go_wp2
                go_ret2
                exact refP_mk (v := .slice none 0 0) HE.out rfl (Kd.R_nil _ _ _ _ _) HZ.out.2
            · obtain ⟨m, x, hm⟩ : ∃ m x, thR q = (m, x) := ⟨_, _, rfl⟩
              have hx := thR_cases q
              have h3 := @thR_len q
              rw [hm] at hx h3
              have HW3 : Aside0 (spec_three.f K q = some (m.f0, m.f1, m.f2, x)) := ⟨by
                obtain ⟨p, hp⟩ := HR.out.part
                rw [HW2.out p q hp, hm]; rfl⟩
              have hpos : (0 < (q.length : Int)) = True := eq_true (by omega)
              have hpos' : (0 < q.length) = True := eq_true (by omega)
              have HE : Aside0 (pmAll (ts, 1) = if x = 0 then ([], 0) else match q.drop 3 with
                | [] => if (if x = 2 then 2 else st) = 2 then ([], 2) else (out ++ [m], 1)
                | u :: r => if u.f0 = 3 then pmGo k r (out ++ [m]) (if x = 2 then 2 else st) else ([], 0)) := ⟨by rw [HF.out, HR.out.all, pmGo, if_neg hq0l, hm]; rfl⟩
              clear hm
              go_wp2_with fail
              refine (spec_three.calls K A c q m.f0 m.f1 m.f2 x _ (Kd.C_below HR.out.row HR.out.bel) hcap HW3.out).mono ?_
              rintro e w3 ⟨rfl, hb⟩
              have HB3 := Aside0.mk (below_step HR.out.bel hb)
              have HO3 := Aside0.mk (Kd.R_alloc (Kd.R_below HR.out.outs hb) (.cells #[.int .i64 m.f0, .string m.f1, .string m.f2] 28))
              have HX3 := Aside0.mk (below_alloc HB3.out (.cells #[.int .i64 m.f0, .string m.f1, .string m.f2] 28))
              clear hb
              by_cases hx0 : x = 0
              · have HE0 : Aside0 (pmAll (ts, 1) = ([], 0)) := ⟨by rw [HE.out, if_pos hx0]⟩
                clear HE
                subst hx0
                have HZ := Aside0.mk (below_step HB2.out HX3.out)
                go_wp2
                go_ret2
                exact refP_mk (v := .slice none 0 0) HE0.out rfl (Kd.R_nil _ _ _ _ _) HZ.out
              · have h3l : 3 ≤ q.length := h3 hx0
                have ex0 : (x == 0) = false := beq_eq_false_iff_ne.2 hx0
                obtain ⟨st2, hst2⟩ : ∃ st2 : Int, st2 = if x = 2 then 2 else st := ⟨_, rfl⟩
                have hst2' : st2 = 1 ∨ st2 = 2 := by rw [hst2]; split; exact Or.inr rfl; exact hst
                obtain ⟨A3, hA3⟩ : ∃ A3, A3 = (if c = 3 then A else A.map (·.add (3 * 6))) := ⟨_, rfl⟩
                have hcut := cutf_tk A q.length c 3 (by decide) (by omega)
                rw [show (3 : Int).toNat = 3 by decide, ← hA3] at hcut
                have hC3 : Kd.C k61 w2 A3 (q.drop 3).length (q.drop 3) := by
                  rw [hA3]
                  exact Kd.C_drop HR.out.row h3l hcap
                have hl3 : (q.drop 3).length = q.length - 3 := List.length_drop
                have HPART := HR.out.part
                have HE2 : Aside0 (pmAll (ts, 1) = match q.drop 3 with
                  | [] => if st2 = 2 then ([], 2) else (out ++ [m], 1)
                  | u :: r => if u.f0 = 3 then pmGo k r (out ++ [m]) st2 else ([], 0)) := ⟨by rw [HE.out, if_neg hx0, hst2]⟩
                have HP3 : Aside0 (∃ p, q0 = p ++ q.drop 3) := ⟨by
                  obtain ⟨p, hp⟩ := HPART
                  exact ⟨p ++ q.take 3, by rw [List.append_assoc, List.take_append_drop]; exact hp⟩⟩
                clear hA3 HPART
                obtain ⟨dl, hdl⟩ : ∃ dl, dl = q.length - 3 := ⟨_, rfl⟩
                rw [← hdl] at hl3 hcut
                generalize q.drop 3 = d at *
                cases d with
                | nil =>
                  have hd0 : dl = 0 := hl3.symm
                  rw [hd0] at hcut
                  have HE3 : Aside0 (pmAll (ts, 1) = if st2 = 2 then ([], 2) else (out ++ [m], 1)) := ⟨HE2.out⟩
                  clear HE2 HE HF hC3 hl3 hdl
                  by_cases hx2 : x = 2
                  · subst hx2
                    have hs2 : st2 = 2 := by rw [hst2, if_pos rfl]
                    go_wp2_with (at_builtin; refine Kd.R_append k28 (w0 := w2) w2.heap.size rfl (.tmp 49) (.tmp 51) 54 28 (.agg #[.int .i64 0, .string ⟨#[]⟩, .string ⟨#[]⟩]) 40 rfl Tryz.underlying54 infoSM rfl (by decide) (by omega) u7 out m [.int .i64 m.f0, .string m.f1, .string m.f2] (fun _ => True) (fun _ => False) rfl (by first | (go_simp; done) | (go_simp; rfl)) (k28_mkM _ _ _ m) (fun _ hk => hk.elim) (fun _ _ => trivial) HO3.out HX3.out ?aS ?aL ?_; (case aS => exact HX3.out.size); (case aL => omega); intro v1 w6 ho hb hg6 hat6; have HO6 := Aside0.mk ho; have HB6 := Aside0.mk hb; clear ho hb hg6 hat6)
                    go_ret2
                    exact refP_mk (v := .slice none 0 0) (HE3.out.trans (if_pos hs2)) rfl (Kd.R_nil _ _ _ _ _) (below_step HB2.out HB6.out)
                  · have ex2 : (x == 2) = false := beq_eq_false_iff_ne.2 hx2
                    rw [if_neg hx2] at hst2
                    rcases hst with rfl | rfl
                    · have hs2 : ¬ st2 = 2 := by rw [hst2]; decide
                      go_wp2_with (at_builtin; refine Kd.R_append k28 (w0 := w2) w2.heap.size rfl (.tmp 49) (.tmp 51) 54 28 (.agg #[.int .i64 0, .string ⟨#[]⟩, .string ⟨#[]⟩]) 40 rfl Tryz.underlying54 infoSM rfl (by decide) (by omega) u7 out m [.int .i64 m.f0, .string m.f1, .string m.f2] (fun _ => True) (fun _ => False) rfl (by first | (go_simp; done) | (go_simp; rfl)) (k28_mkM _ _ _ m) (fun _ hk => hk.elim) (fun _ _ => trivial) HO3.out HX3.out ?aS ?aL ?_; (case aS => exact HX3.out.size); (case aL => omega); intro v1 w6 ho hb hg6 hat6; have HO6 := Aside0.mk ho; have HB6 := Aside0.mk hb; clear ho hb hg6 hat6)
                      go_ret2
                      exact refP_mk (v := v1) (HE3.out.trans (if_neg hs2)) rfl (Kd.R_lower HO6.out HB2.out.size) (below_step HB2.out HB6.out)
                    · go_wp2_with (at_builtin; refine Kd.R_append k28 (w0 := w2) w2.heap.size rfl (.tmp 49) (.tmp 51) 54 28 (.agg #[.int .i64 0, .string ⟨#[]⟩, .string ⟨#[]⟩]) 40 rfl Tryz.underlying54 infoSM rfl (by decide) (by omega) u7 out m [.int .i64 m.f0, .string m.f1, .string m.f2] (fun _ => True) (fun _ => False) rfl (by first | (go_simp; done) | (go_simp; rfl)) (k28_mkM _ _ _ m) (fun _ hk => hk.elim) (fun _ _ => trivial) HO3.out HX3.out ?aS ?aL ?_; (case aS => exact HX3.out.size); (case aL => omega); intro v1 w6 ho hb hg6 hat6; have HO6 := Aside0.mk ho; have HB6 := Aside0.mk hb; clear ho hb hg6 hat6)
                      go_ret2
                      exact refP_mk (v := .slice none 0 0) (HE3.out.trans (if_pos hst2)) rfl (Kd.R_nil _ _ _ _ _) (below_step HB2.out HB6.out)
                | cons u r =>
                  have hdl1 : dl = r.length + 1 := hl3.symm
                  obtain ⟨ad, e1, hu0', _⟩ := at_T61 hC3 0 (by decide) (by simp)
                  subst e1
                  have hq0u : rd_T61 (u :: r) 0 = u := rfl
                  rw [hq0u, show ad.add (Int.toNat 0 * 6) = ad by cases ad; rfl] at hu0'
                  have HU := Aside0.mk hu0'
                  have hdp : (0 < (dl : Int)) = True := eq_true (by omega)
                  have hdp' : (0 < dl) = True := eq_true (by omega)
                  have hdz : ((dl : Int) == 0) = false := beq_eq_false_iff_ne.2 (by omega)
                  have hdz' : (dl = 0) = False := eq_false (by omega)
                  have HC4 : Aside0 (Kd.C k61 w2 (if c - 3 = 1 then some ad else (some ad).map (·.add (1 * 6))) r.length r) := ⟨Kd.C_drop (m := 1) (c := c - 3) hC3 (by simp) (by rw [hl3]; omega)⟩
                  have HLR : Aside0 (r.length = q.length - 3 - 1) := ⟨by omega⟩
                  have HP4 : Aside0 (∃ p, q0 = p ++ r) := ⟨by
                    obtain ⟨p, hp⟩ := HP3.out
                    exact ⟨p ++ [u], by rw [hp]; simp⟩⟩
                  have HE3 : Aside0 (pmAll (ts, 1) = if u.f0 = 3 then pmGo k r (out ++ [m]) st2 else ([], 0)) := ⟨HE2.out⟩
                  have HG3 : Aside0 (u.f0 = 3 → pmGo (q0.length + 1) q0 [] 1 = pmGo k r (out ++ [m]) st2) := ⟨fun h => by rw [← HF.out, HE3.out, if_pos h]⟩
                  clear HE2 HE hC3 hl3 hu0'
                  by_cases hu3 : u.f0 = 3
                  · have eu3 : (u.f0 == 3) = true := by rw [hu3]; rfl
                    by_cases hx2 : x = 2
                    · subst hx2
                      have hs2 : st2 = 2 := by rw [hst2, if_pos rfl]
                      go_wp2_with (at_builtin; refine Kd.R_append k28 (w0 := w2) w2.heap.size rfl (.tmp 49) (.tmp 51) 54 28 (.agg #[.int .i64 0, .string ⟨#[]⟩, .string ⟨#[]⟩]) 40 rfl Tryz.underlying54 infoSM rfl (by decide) (by omega) u7 out m [.int .i64 m.f0, .string m.f1, .string m.f2] (fun _ => True) (fun _ => False) rfl (by first | (go_simp; done) | (go_simp; rfl)) (k28_mkM _ _ _ m) (fun _ hk => hk.elim) (fun _ _ => trivial) HO3.out HX3.out ?aS ?aL ?_; (case aS => exact HX3.out.size); (case aL => omega); intro v1 w6 ho hb hg6 hat6; have HO6 := Aside0.mk ho; have HB6 := Aside0.mk hb; have hcu := (hb.cell (World.block_lt_of_cell? _ _ HU.out)).trans HU.out; clear ho hb hg6 hat6)
                      go_roundw
                      case rel => exact ⟨r, if c - 3 = 1 then some ad else (some ad).map (·.add (1 * 6)), c - 3 - 1, out ++ [m], 2, k, by rw [HLR.out]; rfl, rfl, Or.inr rfl, ⟨⟨HC4.out, by omega, HO6.out, HB6.out, by rw [HG3.out hu3, hs2], by omega, HP4.out, by rw [List.length_append]; simp; omega⟩⟩⟩
                      case measure => simp [lenV]; omega
                    · have ex2 : (x == 2) = false := beq_eq_false_iff_ne.2 hx2
                      rw [if_neg hx2] at hst2
                      go_wp2_with (at_builtin; refine Kd.R_append k28 (w0 := w2) w2.heap.size rfl (.tmp 49) (.tmp 51) 54 28 (.agg #[.int .i64 0, .string ⟨#[]⟩, .string ⟨#[]⟩]) 40 rfl Tryz.underlying54 infoSM rfl (by decide) (by omega) u7 out m [.int .i64 m.f0, .string m.f1, .string m.f2] (fun _ => True) (fun _ => False) rfl (by first | (go_simp; done) | (go_simp; rfl)) (k28_mkM _ _ _ m) (fun _ hk => hk.elim) (fun _ _ => trivial) HO3.out HX3.out ?aS ?aL ?_; (case aS => exact HX3.out.size); (case aL => omega); intro v1 w6 ho hb hg6 hat6; have HO6 := Aside0.mk ho; have HB6 := Aside0.mk hb; have hcu := (hb.cell (World.block_lt_of_cell? _ _ HU.out)).trans HU.out; clear ho hb hg6 hat6)
                      go_roundw
                      case rel => exact ⟨r, if c - 3 = 1 then some ad else (some ad).map (·.add (1 * 6)), c - 3 - 1, out ++ [m], st, k, by rw [HLR.out]; rfl, rfl, hst, ⟨⟨HC4.out, by omega, HO6.out, HB6.out, by rw [HG3.out hu3, hst2], by omega, HP4.out, by rw [List.length_append]; simp; omega⟩⟩⟩
                      case measure => simp [lenV]; omega
                  · have eu3 : (u.f0 == 3) = false := beq_eq_false_iff_ne.2 hu3
                    by_cases hx2 : x = 2
                    · subst hx2
                      go_wp2_with (at_builtin; refine Kd.R_append k28 (w0 := w2) w2.heap.size rfl (.tmp 49) (.tmp 51) 54 28 (.agg #[.int .i64 0, .string ⟨#[]⟩, .string ⟨#[]⟩]) 40 rfl Tryz.underlying54 infoSM rfl (by decide) (by omega) u7 out m [.int .i64 m.f0, .string m.f1, .string m.f2] (fun _ => True) (fun _ => False) rfl (by first | (go_simp; done) | (go_simp; rfl)) (k28_mkM _ _ _ m) (fun _ hk => hk.elim) (fun _ _ => trivial) HO3.out HX3.out ?aS ?aL ?_; (case aS => exact HX3.out.size); (case aL => omega); intro v1 w6 ho hb hg6 hat6; have HO6 := Aside0.mk ho; have HB6 := Aside0.mk hb; have hcu := (hb.cell (World.block_lt_of_cell? _ _ HU.out)).trans HU.out; clear ho hb hg6 hat6)
                      go_ret2
                      exact refP_mk (v := .slice none 0 0) (HE3.out.trans (if_neg hu3)) rfl (Kd.R_nil _ _ _ _ _) (below_step HB2.out HB6.out)
                    · have ex2 : (x == 2) = false := beq_eq_false_iff_ne.2 hx2
                      go_wp2_with (at_builtin; refine Kd.R_append k28 (w0 := w2) w2.heap.size rfl (.tmp 49) (.tmp 51) 54 28 (.agg #[.int .i64 0, .string ⟨#[]⟩, .string ⟨#[]⟩]) 40 rfl Tryz.underlying54 infoSM rfl (by decide) (by omega) u7 out m [.int .i64 m.f0, .string m.f1, .string m.f2] (fun _ => True) (fun _ => False) rfl (by first | (go_simp; done) | (go_simp; rfl)) (k28_mkM _ _ _ m) (fun _ hk => hk.elim) (fun _ _ => trivial) HO3.out HX3.out ?aS ?aL ?_; (case aS => exact HX3.out.size); (case aL => omega); intro v1 w6 ho hb hg6 hat6; have HO6 := Aside0.mk ho; have HB6 := Aside0.mk hb; have hcu := (hb.cell (World.block_lt_of_cell? _ _ HU.out)).trans HU.out; clear ho hb hg6 hat6)
                      go_ret2
                      exact refP_mk (v := .slice none 0 0) (HE3.out.trans (if_neg hu3)) rfl (Kd.R_nil _ _ _ _ _) (below_step HB2.out HB6.out)
      · have e1 : (is == 1) = false := beq_eq_false_iff_ne.2 h1
        have HF : Aside0 (pmAll (ts, is) = ([], is)) := ⟨by unfold pmAll; rw [if_neg h1]⟩
        go_wp2
        go_ret2
        exact refP_mk (v := .slice none 0 0) HF.out rfl (Kd.R_nil _ _ _ _ _) HB1.out
end Go.Proofs.YtnnhehlieakedaaGreatDoor.Q
namespace Go.Proofs.YtnnhehlieakedaaGreatDoor.Q
open Go.RowKit Go.Lib Go.Proofs.YtnnhehlieakedaaGreatDoorW.PrintWords Go.Proofs.YtnnhehlieakedaaGreatDoorW.PrintLast Go.Proofs.YtnnhehlieakedaaGreatDoorW.PrintMore
attribute [local go_sem] max2_int min2_int max_two min_two max_three min_three max_four min_four
theorem set3 {W : World} {g : Nat} {a b c : Value} (h : W.heap[g]? = some (.cells #[a, b, c] 28 (0, 0))) (x y z : Value) : (((W.setCell ⟨g, 0, none⟩ x).setCell ⟨g, 1, none⟩ y).setCell ⟨g, 2, none⟩ z).heap[g]? = some (.cells #[x, y, z] 28 (0, 0)) := by
  simp [World.setCell, Array.getElem?_modify, h]
def oneW (ts : List S61) (l : List S28) (x : Int) : S28 × Int := if x = 1 then (match l with
    | [m] => if (ts.head?.map (·.f0)) = some 1 then (zM, 2) else (m, 1)
    | _ => (zM, 0)) else (zM, x)
theorem blk3 {W : World} {g : Nat} {a b c : Value} (h : W.heap[g]? = some (.cells #[a, b, c] 28 (0, 0))) : W.cell? ⟨g, 0, none⟩ = some a ∧ W.cell? ⟨g, 1, none⟩ = some b ∧ W.cell? ⟨g, 2, none⟩ = some c ∧ ∀ j, W.frozen? ⟨g, j, none⟩ = false :=
  ⟨Lib.cell_of_heap h 0, Lib.cell_of_heap h 1, Lib.cell_of_heap h 2, fun j => by simp [World.frozen?, h]⟩
set_option maxRecDepth 100000 in
set_option maxHeartbeats 8000000 in
theorem refOne_calls (s : ByteArray) (w : World) (hs : s.size ≤ 20000) (ht : ∀ i : Int, 0 ≤ i → i < s.size → (bt s i == 126) = false) (K : Nat) (ts : List S61) (is : Int) (hT : spec_Tokens.f K s = some (ts, is)) (hW : ∀ q0 p q, inT ts = some q0 → q0 = p ++ q → spec_three.f K q = some (thV (thR q))) (hlen : ts.length ≤ 100000) (hne : (pmAll (ts, is)).1 ≠ [] → ts ≠ []) :
    Calls Tryz.prog 10 #[.string s] w fun e w' => e = .returned (.tuple #[.agg #[.int .i64 (pmOne (ts, is)).1.f0, .string (pmOne (ts, is)).1.f1, .string (pmOne (ts, is)).1.f2], .int .i64 (pmOne (ts, is)).2]) ∧ Below w.heap.size w w' := by
  have HA := Aside0.mk (refAll_calls s (w.alloc (.cells #[.int .i64 0, .string ⟨#[]⟩, .string ⟨#[]⟩] 28)) hs ht K ts is hT hW hlen)
  have HT := Aside0.mk hT
  have HN := Aside0.mk hne
  clear hT hW ht hne
  obtain ⟨l, x, hr⟩ : ∃ l x, pmAll (ts, is) = (l, x) := ⟨_, _, rfl⟩
  rw [hr] at HA HN
  have HO : Aside0 (pmOne (ts, is) = oneW ts l x) := ⟨by
    have e : pmOne (ts, is) = oneW ts (pmAll (ts, is)).1 (pmAll (ts, is)).2 := rfl
    rw [e, hr]⟩
  clear hr
  have hu0 := Tryz.underlying28
  by_cases hx : x = 1
  · subst hx
    match l, HA, HN, HO with
    | [], HA, HN, HO =>
      have HO2 : Aside0 (pmOne (ts, is) = (zM, 0)) := ⟨HO.out⟩
      rw [HO2.out]
      go_enter Tryz.func10, Tryz.ntmps10
      go_wp2_with fail
      refine HA.out.mono ?_
      rintro e w1 ⟨v, rfl, hR, hb⟩
      replace hR : Kd.R k28 28 w1 _ (fun _ => True) v [] := hR
      obtain ⟨A, c, rfl, hc, hC⟩ := Kd.R_reads hR
      have HBK := Aside0.mk ((hb.block w.heap.size (by simp)).trans (heap_alloc_new w _))
      obtain ⟨b0, b1, b2, bf⟩ := blk3 HBK.out
      have HB := Aside0.mk (below_step (below_alloc (Below.refl w.heap.size w) _) hb)
      have HC := Aside0.mk hC
      clear hR hC hb HA
      go_wp2_with fail
      refine (spec_Tokens.calls K s ts is _ HT.out).mono ?_
      rintro e w2 ⟨v2, rfl, hR2, hb2⟩
      obtain ⟨A2, c2, rfl, hc2, hC2⟩ := Kd.R_reads hR2
      replace HBK := Aside0.mk ((hb2.block w.heap.size (World.block_lt_of_cell? _ _ b0)).trans HBK.out)
      clear b0 b1 b2 bf
      obtain ⟨b0, b1, b2, bf⟩ := blk3 HBK.out
      replace HB := Aside0.mk (below_step HB.out hb2)
      replace HC := Aside0.mk (Kd.C_below HC.out hb2)
      clear hR2 hC2 hb2
      simp only [List.length_nil]
      go_wp2
      have HS3 := Aside0.mk (And.intro (set3 HBK.out (.int .i64 0) (.string ⟨#[]⟩) (.string ⟨#[]⟩)) ((((HB.out).setCell (p := ⟨w.heap.size, 0, none⟩) (Nat.le_refl _) (.int .i64 0)).setCell (p := ⟨w.heap.size, 1, none⟩) (Nat.le_refl _) (.string ⟨#[]⟩)).setCell (p := ⟨w.heap.size, 2, none⟩) (Nat.le_refl _) (.string ⟨#[]⟩)))
      generalize (((w2.setCell ⟨w.heap.size, 0, none⟩ (.int .i64 0)).setCell ⟨w.heap.size, 1, none⟩ (.string ⟨#[]⟩)).setCell ⟨w.heap.size, 2, none⟩ (.string ⟨#[]⟩)) = W3 at HS3 ⊢
      obtain ⟨r0, r1, r2, _⟩ := blk3 HS3.out.1
      exact bodyPost_ret (v := .tuple #[.agg #[.int .i64 0, .string ⟨#[]⟩, .string ⟨#[]⟩], .int .i64 (0)]) (by simp [results, Tryz.results10, go_sem, r0, r1, r2]) rfl ⟨rfl, HS3.out.2⟩
    | [m], HA, HN, HO =>
      have HNE : Aside0 (ts ≠ []) := ⟨HN.out (by simp)⟩
      match ts, HT, HN, HO, HNE with
      | [], _, _, _, HNE => exact absurd rfl HNE.out
      | t :: tr, HT, HN, HO, HNE =>
        by_cases ht1 : t.f0 = 1
        · have et : (t.f0 == 1) = true := by rw [ht1]; rfl
          have HO2 : Aside0 (pmOne (t :: tr, is) = (zM, 2)) := ⟨by rw [HO.out]; unfold oneW; rw [if_pos rfl]; exact if_pos (congrArg some ht1)⟩
          rw [HO2.out]
          go_enter Tryz.func10, Tryz.ntmps10
          go_wp2_with fail
          refine HA.out.mono ?_
          rintro e w1 ⟨v, rfl, hR, hb⟩
          replace hR : Kd.R k28 28 w1 _ (fun _ => True) v [m] := hR
          obtain ⟨A, c, rfl, hc, hC⟩ := Kd.R_reads hR
          have HBK := Aside0.mk ((hb.block w.heap.size (by simp)).trans (heap_alloc_new w _))
          obtain ⟨b0, b1, b2, bf⟩ := blk3 HBK.out
          have HB := Aside0.mk (below_step (below_alloc (Below.refl w.heap.size w) _) hb)
          have HC := Aside0.mk hC
          clear hR hC hb HA
          go_wp2_with fail
          refine (spec_Tokens.calls K s (t :: tr) is _ HT.out).mono ?_
          rintro e w2 ⟨v2, rfl, hR2, hb2⟩
          obtain ⟨A2, c2, rfl, hc2, hC2⟩ := Kd.R_reads hR2
          replace HBK := Aside0.mk ((hb2.block w.heap.size (World.block_lt_of_cell? _ _ b0)).trans HBK.out)
          clear b0 b1 b2 bf
          obtain ⟨b0, b1, b2, bf⟩ := blk3 HBK.out
          replace HB := Aside0.mk (below_step HB.out hb2)
          replace HC := Aside0.mk (Kd.C_below HC.out hb2)
          obtain ⟨ad2, e2, g0, _⟩ := at_T61 hC2 0 (by decide) (by simp)
          subst e2
          have hq0 : rd_T61 (t :: tr) 0 = t := rfl
          rw [hq0, show ad2.add (Int.toNat 0 * 6) = ad2 by cases ad2; rfl] at g0
          have hn0 : (0 < (t :: tr).length) = True := eq_true (by simp)
          have hn1 : (0 < ((t :: tr).length : Int)) = True := eq_true (by simp)
          generalize (t :: tr).length = n at *
          clear hR2 hC2 hb2
          simp only [List.length_singleton]
          go_wp2
          have HS3 := Aside0.mk (And.intro (set3 HBK.out (.int .i64 0) (.string ⟨#[]⟩) (.string ⟨#[]⟩)) ((((HB.out).setCell (p := ⟨w.heap.size, 0, none⟩) (Nat.le_refl _) (.int .i64 0)).setCell (p := ⟨w.heap.size, 1, none⟩) (Nat.le_refl _) (.string ⟨#[]⟩)).setCell (p := ⟨w.heap.size, 2, none⟩) (Nat.le_refl _) (.string ⟨#[]⟩)))
          generalize (((w2.setCell ⟨w.heap.size, 0, none⟩ (.int .i64 0)).setCell ⟨w.heap.size, 1, none⟩ (.string ⟨#[]⟩)).setCell ⟨w.heap.size, 2, none⟩ (.string ⟨#[]⟩)) = W3 at HS3 ⊢
          obtain ⟨r0, r1, r2, _⟩ := blk3 HS3.out.1
          exact bodyPost_ret (v := .tuple #[.agg #[.int .i64 0, .string ⟨#[]⟩, .string ⟨#[]⟩], .int .i64 (2)]) (by simp [results, Tryz.results10, go_sem, r0, r1, r2]) rfl ⟨rfl, HS3.out.2⟩
        · have et : (t.f0 == 1) = false := beq_eq_false_iff_ne.2 ht1
          have HO2 : Aside0 (pmOne (t :: tr, is) = (m, 1)) := ⟨by rw [HO.out]; unfold oneW; rw [if_pos rfl]; exact if_neg (fun h => ht1 (Option.some.inj h))⟩
          rw [HO2.out]
          go_enter Tryz.func10, Tryz.ntmps10
          go_wp2_with fail
          refine HA.out.mono ?_
          rintro e w1 ⟨v, rfl, hR, hb⟩
          replace hR : Kd.R k28 28 w1 _ (fun _ => True) v [m] := hR
          obtain ⟨A, c, rfl, hc, hC⟩ := Kd.R_reads hR
          have HBK := Aside0.mk ((hb.block w.heap.size (by simp)).trans (heap_alloc_new w _))
          obtain ⟨b0, b1, b2, bf⟩ := blk3 HBK.out
          have HB := Aside0.mk (below_step (below_alloc (Below.refl w.heap.size w) _) hb)
          have HC := Aside0.mk hC
          clear hR hC hb HA
          go_wp2_with fail
          refine (spec_Tokens.calls K s (t :: tr) is _ HT.out).mono ?_
          rintro e w2 ⟨v2, rfl, hR2, hb2⟩
          obtain ⟨A2, c2, rfl, hc2, hC2⟩ := Kd.R_reads hR2
          replace HBK := Aside0.mk ((hb2.block w.heap.size (World.block_lt_of_cell? _ _ b0)).trans HBK.out)
          clear b0 b1 b2 bf
          obtain ⟨b0, b1, b2, bf⟩ := blk3 HBK.out
          replace HB := Aside0.mk (below_step HB.out hb2)
          replace HC := Aside0.mk (Kd.C_below HC.out hb2)
          obtain ⟨ad2, e2, g0, _⟩ := at_T61 hC2 0 (by decide) (by simp)
          subst e2
          have hq0 : rd_T61 (t :: tr) 0 = t := rfl
          rw [hq0, show ad2.add (Int.toNat 0 * 6) = ad2 by cases ad2; rfl] at g0
          have hn0 : (0 < (t :: tr).length) = True := eq_true (by simp)
          have hn1 : (0 < ((t :: tr).length : Int)) = True := eq_true (by simp)
          generalize (t :: tr).length = n at *
          clear hR2 hC2 hb2
          simp only [List.length_singleton]
          obtain ⟨ad, e1, m0, m1, m2⟩ := at_T28 HC.out 0 (by decide) (by simp)
          subst e1
          have hqm : rd_T28 [m] 0 = m := rfl
          rw [hqm] at m0 m1 m2
          rw [show ad.add (Int.toNat 0 * 3) = ad by cases ad; rfl] at m0 m1 m2
          clear hqm hq0
          go_wp2
          trace_state
          have HS3 := Aside0.mk (And.intro (set3 HBK.out (.int .i64 m.f0) (.string m.f1) (.string m.f2)) ((((HB.out).setCell (p := ⟨w.heap.size, 0, none⟩) (Nat.le_refl _) (.int .i64 m.f0)).setCell (p := ⟨w.heap.size, 1, none⟩) (Nat.le_refl _) (.string m.f1)).setCell (p := ⟨w.heap.size, 2, none⟩) (Nat.le_refl _) (.string m.f2)))
          generalize (((w2.setCell ⟨w.heap.size, 0, none⟩ (.int .i64 m.f0)).setCell ⟨w.heap.size, 1, none⟩ (.string m.f1)).setCell ⟨w.heap.size, 2, none⟩ (.string m.f2)) = W3 at HS3 ⊢
          obtain ⟨r0, r1, r2, _⟩ := blk3 HS3.out.1
          exact bodyPost_ret (v := .tuple #[.agg #[.int .i64 m.f0, .string m.f1, .string m.f2], .int .i64 (1)]) (by simp [results, Tryz.results10, go_sem, r0, r1, r2]) rfl ⟨rfl, HS3.out.2⟩
    | m :: m2 :: l2, HA, HN, HO =>
      have HO2 : Aside0 (pmOne (ts, is) = (zM, 0)) := ⟨HO.out⟩
      rw [HO2.out]
      go_enter Tryz.func10, Tryz.ntmps10
      go_wp2_with fail
      refine HA.out.mono ?_
      rintro e w1 ⟨v, rfl, hR, hb⟩
      replace hR : Kd.R k28 28 w1 _ (fun _ => True) v (m :: m2 :: l2) := hR
      obtain ⟨A, c, rfl, hc, hC⟩ := Kd.R_reads hR
      have HBK := Aside0.mk ((hb.block w.heap.size (by simp)).trans (heap_alloc_new w _))
      obtain ⟨b0, b1, b2, bf⟩ := blk3 HBK.out
      have HB := Aside0.mk (below_step (below_alloc (Below.refl w.heap.size w) _) hb)
      have HC := Aside0.mk hC
      clear hR hC hb HA
      go_wp2_with fail
      refine (spec_Tokens.calls K s ts is _ HT.out).mono ?_
      rintro e w2 ⟨v2, rfl, hR2, hb2⟩
      obtain ⟨A2, c2, rfl, hc2, hC2⟩ := Kd.R_reads hR2
      replace HBK := Aside0.mk ((hb2.block w.heap.size (World.block_lt_of_cell? _ _ b0)).trans HBK.out)
      clear b0 b1 b2 bf
      obtain ⟨b0, b1, b2, bf⟩ := blk3 HBK.out
      replace HB := Aside0.mk (below_step HB.out hb2)
      replace HC := Aside0.mk (Kd.C_below HC.out hb2)
      clear hR2 hC2 hb2 HC
      have hl1 : (((m :: m2 :: l2).length : Int) == 1) = false := beq_eq_false_iff_ne.2 (by simp; omega)
      generalize (m :: m2 :: l2).length = n at *
      go_wp2
      have HS3 := Aside0.mk (And.intro (set3 HBK.out (.int .i64 0) (.string ⟨#[]⟩) (.string ⟨#[]⟩)) ((((HB.out).setCell (p := ⟨w.heap.size, 0, none⟩) (Nat.le_refl _) (.int .i64 0)).setCell (p := ⟨w.heap.size, 1, none⟩) (Nat.le_refl _) (.string ⟨#[]⟩)).setCell (p := ⟨w.heap.size, 2, none⟩) (Nat.le_refl _) (.string ⟨#[]⟩)))
      generalize (((w2.setCell ⟨w.heap.size, 0, none⟩ (.int .i64 0)).setCell ⟨w.heap.size, 1, none⟩ (.string ⟨#[]⟩)).setCell ⟨w.heap.size, 2, none⟩ (.string ⟨#[]⟩)) = W3 at HS3 ⊢
      obtain ⟨r0, r1, r2, _⟩ := blk3 HS3.out.1
      exact bodyPost_ret (v := .tuple #[.agg #[.int .i64 0, .string ⟨#[]⟩, .string ⟨#[]⟩], .int .i64 (0)]) (by simp [results, Tryz.results10, go_sem, r0, r1, r2]) rfl ⟨rfl, HS3.out.2⟩
  · have ex : (x == 1) = false := beq_eq_false_iff_ne.2 hx
    have HO2 : Aside0 (pmOne (ts, is) = (zM, x)) := ⟨by rw [HO.out]; unfold oneW; rw [if_neg hx]⟩
    rw [HO2.out]
    go_enter Tryz.func10, Tryz.ntmps10
    go_wp2_with fail
    refine HA.out.mono ?_
    rintro e w1 ⟨v, rfl, hR, hb⟩
    replace hR : Kd.R k28 28 w1 _ (fun _ => True) v l := hR
    obtain ⟨A, c, rfl, hc, hC⟩ := Kd.R_reads hR
    have HBK := Aside0.mk ((hb.block w.heap.size (by simp)).trans (heap_alloc_new w _))
    obtain ⟨b0, b1, b2, bf⟩ := blk3 HBK.out
    have HB := Aside0.mk (below_step (below_alloc (Below.refl w.heap.size w) _) hb)
    have HC := Aside0.mk hC
    clear hR hC hb HA
    go_wp2
    have HS3 := Aside0.mk (And.intro (set3 HBK.out (.int .i64 0) (.string ⟨#[]⟩) (.string ⟨#[]⟩)) ((((HB.out).setCell (p := ⟨w.heap.size, 0, none⟩) (Nat.le_refl _) (.int .i64 0)).setCell (p := ⟨w.heap.size, 1, none⟩) (Nat.le_refl _) (.string ⟨#[]⟩)).setCell (p := ⟨w.heap.size, 2, none⟩) (Nat.le_refl _) (.string ⟨#[]⟩)))
    generalize (((w1.setCell ⟨w.heap.size, 0, none⟩ (.int .i64 0)).setCell ⟨w.heap.size, 1, none⟩ (.string ⟨#[]⟩)).setCell ⟨w.heap.size, 2, none⟩ (.string ⟨#[]⟩)) = W3 at HS3 ⊢
    obtain ⟨r0, r1, r2, _⟩ := blk3 HS3.out.1
    exact bodyPost_ret (v := .tuple #[.agg #[.int .i64 0, .string ⟨#[]⟩, .string ⟨#[]⟩], .int .i64 (x)]) (by simp [results, Tryz.results10, go_sem, r0, r1, r2]) rfl ⟨rfl, HS3.out.2⟩
open Classical in
noncomputable def spec_ParseMatcher.f (a0 : ByteArray) : Option (Int × ByteArray × ByteArray × Int) := if a0.size ≤ 20000 ∧ (∀ i : Int, 0 ≤ i → i < a0.size → (bt a0 i == 126) = false) then some ((pmOne (spT a0)).1.f0, (pmOne (spT a0)).1.f1, (pmOne (spT a0)).1.f2, (pmOne (spT a0)).2) else none
theorem spec_ParseMatcher.calls (a0 : ByteArray) (r1 : Int) (r2 : ByteArray) (r3 : ByteArray) (r4 : Int) (w : World) (h : spec_ParseMatcher.f a0 = some (r1, r2, r3, r4)) :
    Calls Tryz.prog 10 #[.string a0] w fun e w' => e = .returned (.tuple #[.agg #[.int .i64 r1, .string r2, .string r3], .int .i64 r4]) ∧ Below w.heap.size w w' := by
  unfold spec_ParseMatcher.f at h
  split at h
  case isFalse => cases h
  rename_i hh
  obtain ⟨hs, h126⟩ := hh
  have h2 := Option.some.inj h
  injection h2 with e1 h2
  injection h2 with e2 h2
  injection h2 with e3 e4
  subst e1 e2 e3 e4
  obtain ⟨K1, hK1⟩ := spT_ev a0 hs
  have hq := spT_quoted a0 hs
  have hW : ∃ K, ∀ k, K ≤ k → ∀ q0 p q, inT (spT a0).1 = some q0 → q0 = p ++ q → spec_three.f k q = some (thV (thR q)) := by
    cases hi : inT (spT a0).1 with
    | none => exact ⟨0, fun k _ q0 p q h => by cases h⟩
    | some q1 =>
      obtain ⟨K, hK⟩ := three_all q1 (hq.sub (inT_sub hi))
      exact ⟨K, fun k hk q0 p q h e => hK k hk p q (by rw [Option.some.inj h]; exact e)⟩
  obtain ⟨K2, hK2⟩ := hW
  exact refOne_calls a0 w hs h126 (max K1 K2) (spT a0).1 (spT a0).2 (hK1 _ (by omega)) (hK2 _ (by omega)) (by have := spT_len a0; omega) (fun hne e => hne (by rw [e]; exact pmAll_nil _))
end Go.Proofs.YtnnhehlieakedaaGreatDoor.Q
