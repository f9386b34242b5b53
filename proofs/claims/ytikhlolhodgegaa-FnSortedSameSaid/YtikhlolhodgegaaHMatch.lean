/- The matchers of the program as matchers of the library: what impl.inner and impl.inners return; comparing and matching them. No condition beyond the lengths named. -/
import Derived.Test.YtikhlolhodgegaaHKinds
import Derived.WalkLawsBesides
set_option linter.unusedVariables false
set_option linter.unusedSimpArgs false
namespace Go.Proofs.Ytikhlolhodgegaa.Q
open Go.RowKit Go.Proofs.YtikhlolhodgegaaW.PrintWords Go.Proofs.YtikhlolhodgegaaW.PrintLast Go.Proofs.YtikhlolhodgegaaW.PrintMore
attribute [local go_sem] max2_int min2_int max_two min_two max_three min_three max_four min_four

set_option maxHeartbeats 400000 in
theorem inner_calls (a0 : Int) (a1 a2 : ByteArray) (w : World) :
    Calls Try.prog 88 #[.agg #[.int .i64 a0, .string a1, .string a2]] w fun e w' => ∃ g, e = .returned (.pointer (some ⟨g, 0, none⟩)) ∧ w.heap.size ≤ g ∧ w'.heap[g]? = some (.cells #[.int .i64 a0, .string a1, .string a2] 138 (0, 0)) ∧ Below w.heap.size w w' := by
  have hu30 := Try.underlying52
  have hu108 := Try.underlying138
  go_enter Try.func88, Try.ntmps88
  go_wp2
  go_ret
  exact ⟨w.heap.size + 1, rfl, by omega, by simpa using blk_new (w.alloc (.cells #[.int .i64 a0, .string a1, .string a2] 52)) (.cells #[.int .i64 a0, .string a1, .string a2] 138 (0, 0)), below_alloc (below_alloc (Below.refl _ _) _) _⟩

theorem take_step52 (l : List S52) (x : Int) (h0 : 0 ≤ x) (h1 : x < (l.length : Int)) : l.take (x + 1).toNat = l.take x.toNat ++ [rd_T52 l x] := by
  obtain ⟨n, rfl⟩ := Int.eq_ofNat_of_zero_le h0
  have e : ((n : Int) + 1).toNat = n + 1 := by omega
  rw [e, Int.toNat_natCast, List.take_succ_eq_append_getElem (by omega)]
  simp [rd_T52, List.getD_eq_getElem?_getD, List.getElem?_eq_getElem (show n < l.length by omega)]
theorem info126 : (Try.prog.info? 126).map (fun i => (i.zero, i.size, i.bytes)) = some (some (.pointer none), 1, 8) := by kernel_rfl

set_option maxRecDepth 100000 in
set_option maxHeartbeats 800000 in
theorem inners_calls (A0 : Option Addr) (c0 : Nat) (l0 : List S52) (w : World) (hr0 : Kd.C k52 w A0 l0.length l0) (_hc0 : l0.length ≤ c0) (hlen : l0.length ≤ 10000000000) :
    Calls Try.prog 73 #[.slice A0 l0.length c0] w fun e w' => ∃ v, e = .returned v ∧ Kd.R (ptrK 138 k52) 126 w' w.heap.size (fun _ => True) v l0 ∧ Below w.heap.size w w' := by
  have hu30 := Try.underlying52
  have HR0 := Aside0.mk hr0
  clear hr0
  have HB := Aside0.mk (Below.refl w.heap.size w)
  go_enter Try.func73, Try.ntmps73
  go_wp2
  go_loopw [3, 8] (fun v3 v8 w' => ∃ x : Int, 0 ≤ x ∧ x ≤ (l0.length : Int) ∧ v8 = .int .i64 x ∧ Aside0 (Kd.R (ptrK 138 k52) 126 w' w.heap.size (fun _ => True) v3 (l0.take x.toNat)) ∧ Aside0 (Below w.heap.size w w')) (fun _ v8 _ => ((l0.length : Int) - intOf v8).toNat)
  case atStart => exact ⟨0, by omega, by omega, rfl, ⟨by simpa using Kd.R_nil _ _ _ _ _⟩, HB⟩
  case round =>
    obtain ⟨x, hx, hxl, rfl, HO, HB⟩ := hrel
    by_cases hlt : x < (l0.length : Int)
    · obtain ⟨ad, e1, hx0, hx1, hx2⟩ := at_T52 HR0.out x hx hlt
      cases e1
      replace hx0 := (HB.out.cell (World.block_lt_of_cell? w _ hx0)).trans hx0
      replace hx1 := (HB.out.cell (World.block_lt_of_cell? w _ hx1)).trans hx1
      replace hx2 := (HB.out.cell (World.block_lt_of_cell? w _ hx2)).trans hx2
      have hp := eq_true hx
      have hq := eq_true hlt
      go_wp2_with fail
      refine (inner_calls _ _ _ _).mono ?_
      rintro e w1 ⟨g, rfl, hg, hgh, hb1⟩
      have HO1 := Aside0.mk (Kd.R_below (Kd.R_alloc HO.out _) hb1)
      have HB1 := Aside0.mk (below_step (below_alloc HB.out _) hb1)
      have GG := Aside0.mk hgh
      have hg' : w.heap.size ≤ g := by have := HB.out.size; simp at hg; omega
      have GE := Aside0.mk hg'
      clear HO HB hgh hg hg' hb1
      go_wp2_with (first | (at_builtin; refine Kd.R_append (ptrK 138 k52) (w0 := w) w.heap.size rfl (.tmp 12) (.tmp 15) 94 126 (.pointer none) 8 rfl Try.underlying94 info126 rfl (by decide) (by omega) u3 (l0.take x.toNat) (rd_T52 l0 x) [.pointer (some ⟨g, 0, none⟩)] (fun _ => True) (fun k => k = g) rfl (by first | (go_simp; done) | (go_simp; rfl)) ?aP ?aK (fun _ _ => trivial) HO1.out HB1.out ?aS ?aL ?_; (case aP => exact ⟨g, _, rfl, rfl, GE.out, GG.out, k52_mkM _ _ _ _⟩); (case aK => rintro k rfl; exact ⟨trivial, Kd.R_ne HO1.out GG.out (by decide)⟩); (case aS => exact HB1.out.size); (case aL => rw [List.length_take]; omega); intro v1 w2 ho hb hg2 hat; have HO2 := Aside0.mk ho; have HB2 := Aside0.mk hb; clear ho hb hg2 hat HO1 HB1))
      go_roundw
      case rel => exact ⟨x + 1, by omega, by omega, rfl, ⟨by rw [take_step52 l0 x hx hlt]; exact HO2.out⟩, HB2⟩
      case measure => simp [intOf]; omega
    · have hxe : x = (l0.length : Int) := by omega
      subst hxe
      go_wp2
      go_ret
      exact ⟨_, rfl, by simpa using HO.out, HB.out⟩
/-- What a matcher of type 0 or 1 says of a value. -/
def matchesV (m : S52) (v : ByteArray) : Bool := if m.f0 = 0 then v.toList == m.f2.toList else !(v.toList == m.f2.toList)
set_option maxHeartbeats 400000 in
theorem matchesV_calls (g : Nat) (m : S52) (s : ByteArray) (w : World) (h : w.heap[g]? = some (.cells #[.int .i64 m.f0, .string m.f1, .string m.f2] 138 (0, 0))) (h0 : m.f0 = 0 ∨ m.f0 = 1) :
    Calls Try.prog 92 #[.pointer (some ⟨g, 0, none⟩), .string s] w fun e w' => e = .returned (.bool (matchesV m s)) ∧ w = w' := by
  obtain ⟨t, n, v⟩ := m
  rcases h0 with h0 | h0
  all_goals
    simp only at h0 h
    subst h0
    have hc0 := (blk_cell h 0).trans rfl
    have hc2 := (blk_cell h 2).trans rfl
    clear h
    go_enter Try.func92, Try.ntmps92
    go_wp2
    go_ret
    exact ⟨by simp [matchesV], rfl⟩


def lessM (x y : S52) : Bool := if strGt x.f1 y.f1 = true then false else if Op.bytesLess x.f1.toList y.f1.toList = true then true else if strGt x.f2 y.f2 = true then false else if Op.bytesLess x.f2.toList y.f2.toList = true then true else decide (x.f0 < y.f0)
set_option maxRecDepth 100000 in
set_option maxHeartbeats 1600000 in
theorem lessM_calls (A0 : Option Addr) (c0 : Nat) (l0 : List S52) (i j : Int) (w : World) (hr0 : Kd.C (ptrK 138 k52) w A0 l0.length l0) (hi0 : 0 ≤ i) (hi : i < (l0.length : Int)) (hj0 : 0 ≤ j) (hj : j < (l0.length : Int)) :
    Calls Try.prog 162 #[.slice A0 l0.length c0, .int .i64 i, .int .i64 j] w fun e w' => e = .returned (.bool (lessM (rd_T52 l0 i) (rd_T52 l0 j))) ∧ Drawn0 w w' := by
  obtain ⟨ad, b, c, rfl, hp, hb, hk⟩ := at_ptr hr0 z52 i hi0 hi
  obtain ⟨ad', b', c', e, hp', hb', hk'⟩ := at_ptr hr0 z52 j hj0 hj
  cases e
  have HC := Aside0.mk hr0
  clear hr0
  change k52.K w (rd_T52 l0 i) c at hk
  change k52.K w (rd_T52 l0 j) c' at hk'
  generalize rd_T52 l0 i = p at *
  generalize rd_T52 l0 j = q at *
  obtain rfl := k52_open hk
  obtain rfl := k52_open hk'
  clear hk hk'
  have t0 := (blk_cell hb 0).trans rfl
  have x0 := (blk_cell hb 1).trans rfl
  have x1 := (blk_cell hb 2).trans rfl
  have t1 := (blk_cell hb' 0).trans rfl
  have y0 := (blk_cell hb' 1).trans rfl
  have y1 := (blk_cell hb' 2).trans rfl
  clear hb hb'
  have q1 := eq_true hi0
  have q2 := eq_true hi
  have q3 := eq_true hj0
  have q4 := eq_true hj
  cases h1 : Op.bytesLess p.f1.toList q.f1.toList
  · cases h2 : (p.f1.toList == q.f1.toList)
    · go_enter Try.func162, Try.ntmps162
      go_wp2
      iterate 5 (try (go_quiet (fail); go_wp2))
      go_ret
      exact ⟨by simp [lessM, strGt, h1, h2], by repeat (first | exact Drawn0.refl _ | apply Drawn0.step)⟩
    · cases h3 : Op.bytesLess p.f2.toList q.f2.toList
      · cases h4 : (p.f2.toList == q.f2.toList)
        all_goals
          go_enter Try.func162, Try.ntmps162
          go_wp2
          iterate 5 (try (go_quiet (fail); go_wp2))
          go_ret
          exact ⟨by simp [lessM, strGt, h1, h2, h3, h4], by repeat (first | exact Drawn0.refl _ | apply Drawn0.step)⟩
      · go_enter Try.func162, Try.ntmps162
        go_wp2
        iterate 5 (try (go_quiet (fail); go_wp2))
        go_ret
        exact ⟨by simp [lessM, strGt, h1, h2, h3], by repeat (first | exact Drawn0.refl _ | apply Drawn0.step)⟩
  · go_enter Try.func162, Try.ntmps162
    go_wp2
    iterate 5 (try (go_quiet (fail); go_wp2))
    go_ret
    exact ⟨by simp [lessM, strGt, h1], by repeat (first | exact Drawn0.refl _ | apply Drawn0.step)⟩

end Go.Proofs.Ytikhlolhodgegaa.Q
