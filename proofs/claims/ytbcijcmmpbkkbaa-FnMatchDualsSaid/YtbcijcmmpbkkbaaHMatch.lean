/- The matchers of the program as matchers of the library: what impl.inner and impl.inners return; comparing and matching them. No condition beyond the lengths named. -/
import Derived.Test.YtbcijcmmpbkkbaaHKinds
import Derived.WalkLawsBesides
namespace Go.Proofs.Ytbcijcmmpbkkbaa.Q
open Go.RowKit Go.Proofs.YtbcijcmmpbkkbaaW.PrintWords Go.Proofs.YtbcijcmmpbkkbaaW.PrintLast Go.Proofs.YtbcijcmmpbkkbaaW.PrintMore
attribute [local go_sem] max2_int min2_int max_two min_two max_three min_three max_four min_four

set_option maxHeartbeats 400000 in
theorem inner_calls (a0 : Int) (a1 a2 : ByteArray) (w : World) :
    Calls Try.prog 45 #[.agg #[.int .i64 a0, .string a1, .string a2]] w fun e w' => ∃ g, e = .returned (.pointer (some ⟨g, 0, none⟩)) ∧ w.heap.size ≤ g ∧ w'.heap[g]? = some (.cells #[.int .i64 a0, .string a1, .string a2] 108 (0, 0)) ∧ Below w.heap.size w w' := by
  have hu30 := Try.underlying30
  have hu108 := Try.underlying108
  go_enter Try.func45, Try.ntmps45
  go_wp2
  go_ret
  exact ⟨w.heap.size + 1, rfl, by omega, by simpa using blk_new (w.alloc (.cells #[.int .i64 a0, .string a1, .string a2] 30)) (.cells #[.int .i64 a0, .string a1, .string a2] 108 (0, 0)), below_alloc (below_alloc (Below.refl _ _) _) _⟩

theorem take_step30 (l : List S30) (x : Int) (h0 : 0 ≤ x) (h1 : x < (l.length : Int)) : l.take (x + 1).toNat = l.take x.toNat ++ [rd_T30 l x] := by
  obtain ⟨n, rfl⟩ := Int.eq_ofNat_of_zero_le h0
  have e : ((n : Int) + 1).toNat = n + 1 := by omega
  rw [e, Int.toNat_natCast, List.take_succ_eq_append_getElem (by omega)]
  simp [rd_T30, List.getD_eq_getElem?_getD, List.getElem?_eq_getElem (show n < l.length by omega)]
theorem info71 : (Try.prog.info? 71).map (fun i => (i.zero, i.size, i.bytes)) = some (some (.pointer none), 1, 8) := by kernel_rfl

set_option maxRecDepth 100000 in
set_option maxHeartbeats 800000 in
theorem inners_calls (A0 : Option Addr) (c0 : Nat) (l0 : List S30) (w : World) (hr0 : Kd.C k30 w A0 l0.length l0) (_hc0 : l0.length ≤ c0) (hlen : l0.length ≤ 10000000000) :
    Calls Try.prog 52 #[.slice A0 l0.length c0] w fun e w' => ∃ v, e = .returned v ∧ Kd.R (ptrK 108 k30) 71 w' w.heap.size (fun _ => True) v l0 ∧ Below w.heap.size w w' := by
  have hu30 := Try.underlying30
  have HR0 := Aside0.mk hr0
  clear hr0
  have HB := Aside0.mk (Below.refl w.heap.size w)
  go_enter Try.func52, Try.ntmps52
  go_wp2
  go_loopw [3, 8] (fun v3 v8 w' => ∃ x : Int, 0 ≤ x ∧ x ≤ (l0.length : Int) ∧ v8 = .int .i64 x ∧ Aside0 (Kd.R (ptrK 108 k30) 71 w' w.heap.size (fun _ => True) v3 (l0.take x.toNat)) ∧ Aside0 (Below w.heap.size w w')) (fun _ v8 _ => ((l0.length : Int) - intOf v8).toNat)
  case atStart => exact ⟨0, by omega, by omega, rfl, ⟨by simpa using Kd.R_nil _ _ _ _ _⟩, HB⟩
  case round =>
    obtain ⟨x, hx, hxl, rfl, HO, HB⟩ := hrel
    by_cases hlt : x < (l0.length : Int)
    · obtain ⟨ad, e1, hx0, hx1, hx2⟩ := at_T30 HR0.out x hx hlt
      cases e1
      replace hx0 := (HB.out.cell (World.block_lt_of_cell? w _ hx0)).trans hx0
      replace hx1 := (HB.out.cell (World.block_lt_of_cell? w _ hx1)).trans hx1
      replace hx2 := (HB.out.cell (World.block_lt_of_cell? w _ hx2)).trans hx2
      have hp := eq_true hx
      have hq := eq_true hlt
      go_wp2_with fail
      refine (inner_calls _ _ _ _).mono ?_
      rintro e w1 ⟨g, rfl, hg, hgh, hb1⟩
      have HO1 := Aside0.mk (Kd.R_below (Kd.R_alloc HO.out _) hb1)
      have HB1 := Aside0.mk (below_step (below_alloc HB.out _) hb1)
      have GG := Aside0.mk hgh
      have hg' : w.heap.size ≤ g := by have := HB.out.size; simp at hg; omega
      have GE := Aside0.mk hg'
      clear HO HB hgh hg hg' hb1
      go_wp2_with (first | (at_builtin; refine Kd.R_append (ptrK 108 k30) (w0 := w) w.heap.size rfl (.tmp 12) (.tmp 15) 85 71 (.pointer none) 8 rfl Try.underlying85 info71 rfl (by decide) (by omega) u3 (l0.take x.toNat) (rd_T30 l0 x) [.pointer (some ⟨g, 0, none⟩)] (fun _ => True) (fun k => k = g) rfl (by first | (go_simp; done) | (go_simp; rfl)) ?aP ?aK (fun _ _ => trivial) HO1.out HB1.out ?aS ?aL ?_; (case aP => exact ⟨g, _, rfl, rfl, GE.out, GG.out, k30_mkM _ _ _ _⟩); (case aK => rintro k rfl; exact ⟨trivial, Kd.R_ne HO1.out GG.out (by decide)⟩); (case aS => exact HB1.out.size); (case aL => rw [List.length_take]; omega); intro v1 w2 ho hb hg2 hat; have HO2 := Aside0.mk ho; have HB2 := Aside0.mk hb; clear ho hb hg2 hat HO1 HB1))
      go_roundw
      case rel => exact ⟨x + 1, by omega, by omega, rfl, ⟨by rw [take_step30 l0 x hx hlt]; exact HO2.out⟩, HB2⟩
      case measure => simp [intOf]; omega
    · have hxe : x = (l0.length : Int) := by omega
      subst hxe
      go_wp2
      go_ret
      exact ⟨_, rfl, by simpa using HO.out, HB.out⟩
/-- What a matcher of type 0 or 1 says of a value. -/
def matchesV (m : S30) (v : ByteArray) : Bool := if m.f0 = 0 then v.toList == m.f2.toList else !(v.toList == m.f2.toList)
set_option maxHeartbeats 400000 in
theorem matchesV_calls (g : Nat) (m : S30) (s : ByteArray) (w : World) (h : w.heap[g]? = some (.cells #[.int .i64 m.f0, .string m.f1, .string m.f2] 108 (0, 0))) (h0 : m.f0 = 0 ∨ m.f0 = 1) :
    Calls Try.prog 46 #[.pointer (some ⟨g, 0, none⟩), .string s] w fun e w' => e = .returned (.bool (matchesV m s)) ∧ w = w' := by
  obtain ⟨t, n, v⟩ := m
  rcases h0 with h0 | h0
  all_goals
    simp only at h0 h
    subst h0
    have hc0 := (blk_cell h 0).trans rfl
    have hc2 := (blk_cell h 2).trans rfl
    clear h
    go_enter Try.func46, Try.ntmps46
    go_wp2
    go_ret
    exact ⟨by simp [matchesV], rfl⟩

def impl_MatchValue.f (a0_0 : Int) (a0_1 : ByteArray) (a0_2 : ByteArray) (a1 : ByteArray) : Option (Bool) :=
  if a0_0 = 0 ∨ a0_0 = 1 then some (matchesV ⟨a0_0, a0_1, a0_2⟩ a1) else none
set_option maxHeartbeats 400000 in
theorem impl_MatchValue.calls (a0_0 : Int) (a0_1 : ByteArray) (a0_2 : ByteArray) (a1 : ByteArray) (r : Bool) (w : World) (h : impl_MatchValue.f a0_0 a0_1 a0_2 a1 = some r) :
    Calls Try.prog 17 #[.agg #[.int .i64 a0_0, .string a0_1, .string a0_2], .string a1] w fun e w' => e = .returned (.bool r) ∧ Below w.heap.size w w' := by
  unfold impl_MatchValue.f at h
  split at h
  case isFalse => cases h
  rename_i hh
  obtain rfl := Option.some.inj h
  clear h
  have H := Aside0.mk hh
  clear hh
  have hu30 := Try.underlying30
  go_enter Try.func17, Try.ntmps17
  go_wp2_with fail
  refine (inner_calls _ _ _ _).mono ?_
  rintro e w1 ⟨g, rfl, hg, hgh, hb1⟩
  have HB := Aside0.mk (below_step (below_alloc (Below.refl _ _) _) hb1)
  clear hg hb1
  go_wp2_with fail
  refine (matchesV_calls g ⟨a0_0, a0_1, a0_2⟩ _ _ hgh H.out).mono ?_
  rintro e w2 ⟨rfl, rfl⟩
  go_wp2
  go_ret
  exact ⟨rfl, HB.out⟩

def lessM (x y : S30) : Bool := if strGt x.f1 y.f1 = true then false else if Op.bytesLess x.f1.toList y.f1.toList = true then true else if strGt x.f2 y.f2 = true then false else if Op.bytesLess x.f2.toList y.f2.toList = true then true else decide (x.f0 < y.f0)
set_option maxRecDepth 100000 in
set_option maxHeartbeats 1600000 in
theorem lessM_calls (A0 : Option Addr) (c0 : Nat) (l0 : List S30) (i j : Int) (w : World) (hr0 : Kd.C (ptrK 108 k30) w A0 l0.length l0) (hi0 : 0 ≤ i) (hi : i < (l0.length : Int)) (hj0 : 0 ≤ j) (hj : j < (l0.length : Int)) :
    Calls Try.prog 53 #[.slice A0 l0.length c0, .int .i64 i, .int .i64 j] w fun e w' => e = .returned (.bool (lessM (rd_T30 l0 i) (rd_T30 l0 j))) ∧ Drawn0 w w' := by
  obtain ⟨ad, b, c, rfl, hp, hb, hk⟩ := at_ptr hr0 z30 i hi0 hi
  obtain ⟨ad', b', c', e, hp', hb', hk'⟩ := at_ptr hr0 z30 j hj0 hj
  cases e
  have HC := Aside0.mk hr0
  clear hr0
  change k30.K w (rd_T30 l0 i) c at hk
  change k30.K w (rd_T30 l0 j) c' at hk'
  generalize rd_T30 l0 i = p at *
  generalize rd_T30 l0 j = q at *
  obtain rfl := k30_open hk
  obtain rfl := k30_open hk'
  clear hk hk'
  have t0 := (blk_cell hb 0).trans rfl
  have x0 := (blk_cell hb 1).trans rfl
  have x1 := (blk_cell hb 2).trans rfl
  have t1 := (blk_cell hb' 0).trans rfl
  have y0 := (blk_cell hb' 1).trans rfl
  have y1 := (blk_cell hb' 2).trans rfl
  clear hb hb'
  have q1 := eq_true hi0
  have q2 := eq_true hi
  have q3 := eq_true hj0
  have q4 := eq_true hj
  cases h1 : Op.bytesLess p.f1.toList q.f1.toList
  · cases h2 : (p.f1.toList == q.f1.toList)
    · go_enter Try.func53, Try.ntmps53
      go_wp2
      iterate 5 (try (go_quiet (fail); go_wp2))
      go_ret
      exact ⟨by simp [lessM, strGt, h1, h2], by repeat (first | exact Drawn0.refl _ | apply Drawn0.step)⟩
    · cases h3 : Op.bytesLess p.f2.toList q.f2.toList
      · cases h4 : (p.f2.toList == q.f2.toList)
        all_goals
          go_enter Try.func53, Try.ntmps53
          go_wp2
          iterate 5 (try (go_quiet (fail); go_wp2))
          go_ret
          exact ⟨by simp [lessM, strGt, h1, h2, h3, h4], by repeat (first | exact Drawn0.refl _ | apply Drawn0.step)⟩
      · go_enter Try.func53, Try.ntmps53
        go_wp2
        iterate 5 (try (go_quiet (fail); go_wp2))
        go_ret
        exact ⟨by simp [lessM, strGt, h1, h2, h3], by repeat (first | exact Drawn0.refl _ | apply Drawn0.step)⟩
  · go_enter Try.func53, Try.ntmps53
    go_wp2
    iterate 5 (try (go_quiet (fail); go_wp2))
    go_ret
    exact ⟨by simp [lessM, strGt, h1], by repeat (first | exact Drawn0.refl _ | apply Drawn0.step)⟩

def impl_Before.f (l0 : List (S30)) (a1 : Int) (a2 : Int) : Option (Bool) :=
  if l0.length ≤ 10000000000 ∧ 0 ≤ a1 ∧ a1 < (l0.length : Int) ∧ 0 ≤ a2 ∧ a2 < (l0.length : Int) then some (lessM (rd_T30 l0 a1) (rd_T30 l0 a2)) else none
set_option maxHeartbeats 400000 in
theorem impl_Before.calls (A0 : Option Addr) (c0 : Nat) (l0 : List (S30)) (a1 : Int) (a2 : Int) (r : Bool) (w : World) (hr0 : Kd.C k30 w A0 l0.length l0) (hc0 : l0.length ≤ c0) (h : impl_Before.f l0 a1 a2 = some r) :
    Calls Try.prog 26 #[.slice A0 l0.length c0, .int .i64 a1, .int .i64 a2] w fun e w' => e = .returned (.bool r) ∧ Below w.heap.size w w' := by
  unfold impl_Before.f at h
  split at h
  case isFalse => cases h
  rename_i hh
  obtain ⟨hlen, h1, h2, h3, h4⟩ := hh
  obtain rfl := Option.some.inj h
  clear h
  go_enter Try.func26, Try.ntmps26
  go_wp2_with fail
  refine (inners_calls _ _ _ _ hr0 hc0 hlen).mono ?_
  rintro e w1 ⟨v, rfl, hv, hb⟩
  obtain ⟨A, c, rfl, hc, hC⟩ := Kd.R_reads hv
  have HD := Aside0.mk hC
  have HB := Aside0.mk hb
  clear hv hC hb
  go_wp2_with fail
  refine (lessM_calls _ _ _ _ _ _ HD.out h1 h2 h3 h4).mono ?_
  rintro e w2 ⟨rfl, hd⟩
  have HE := Aside0.mk (below_step HB.out hd.below)
  clear hd
  go_wp2
  go_ret
  exact ⟨rfl, HE.out⟩
end Go.Proofs.Ytbcijcmmpbkkbaa.Q
