/- impl.Times and impl.TimeTexts at minutes of a day. Condition: from 0 to 1440 minutes. -/
import Derived.Test.YtmmcibeeojfplaaDoorHTimes
import Derived.Lib.Builder
import Derived.Lib.BufferOwn
import Derived.Deep.QuietTactic
import Derived.BigQuiet
import Derived.RegionTactic
import Derived.BigRegion
set_option linter.unusedVariables false
set_option linter.unusedSimpArgs false
namespace Go.Proofs.YtmmcibeeojfplaaDoor.Q
open Go.RowKit Go.Lib Go.Proofs.YtmmcibeeojfplaaDoorW.PrintWords Go.Proofs.YtmmcibeeojfplaaDoorW.PrintLast Go.Proofs.YtmmcibeeojfplaaDoorW.PrintMore
attribute [local go_sem] max2_int min2_int max_two min_two max_three min_three max_four min_four
theorem cells2 {W : World} {k t : Nat} {a b : Value} (h : W.heap[k]? = some (.cells #[a, b] t (0, 0))) : W.cell? ⟨k, 0, none⟩ = some a ∧ W.cell? ⟨k, 1, none⟩ = some b ∧ ∀ j, W.frozen? ⟨k, j, none⟩ = false :=
  ⟨by rw [Lib.cell_of_heap h]; rfl, by rw [Lib.cell_of_heap h]; rfl, fun j => by simp [World.frozen?, h]⟩
theorem cells1 {W : World} {k t : Nat} {a : Value} (h : W.heap[k]? = some (.cells #[a] t (0, 0))) : W.cell? ⟨k, 0, none⟩ = some a ∧ ∀ j, W.frozen? ⟨k, j, none⟩ = false :=
  ⟨by rw [Lib.cell_of_heap h]; rfl, fun j => by simp [World.frozen?, h]⟩
theorem set2 {W : World} {k t : Nat} {a b : Value} (h : W.heap[k]? = some (.cells #[a, b] t (0, 0))) (x y : Value) : ((W.setCell ⟨k, 0, none⟩ x).setCell ⟨k, 1, none⟩ y).heap[k]? = some (.cells #[x, y] t (0, 0)) := by
  simp [World.setCell, Array.getElem?_modify, h]
theorem grown_new2 {w a b : World} {g y : Nat} (h : w.grownBy a (some g)) (h2 : a.grownBy b (some y)) (hy : w.heap.size ≤ y) : w.grownBy b (some g) :=
  ⟨h2.os.trans h.os, h2.tape.trans h.tape, h2.output.trans h.output, Nat.le_trans h.size h2.size, fun i hi hr => (h2.block i (Nat.lt_of_lt_of_le hi h.size) (by intro e; injection e; omega)).trans (h.block i hi hr)⟩
set_option maxRecDepth 100000 in
set_option maxHeartbeats 2000000 in
theorem clos_calls (y b1 b2 : Nat) (s t p q : ByteArray) (w : World) (hy : w.heap[y]? = some (.cells #[.string p, .string q] 131 (0, 0))) (h1 : w.heap[b1]? = some (.cells #[.string s] 9 (0, 0))) (h2 : w.heap[b2]? = some (.cells #[.string t] 9 (0, 0))) :
    Calls Tryd.prog 98 #[.iface 132 (.pointer (some ⟨y, 0, none⟩)), .pointer (some ⟨b1, 0, none⟩), .pointer (some ⟨b2, 0, none⟩)] w fun e w' => e = .returned .nilIface ∧ w'.heap[y]? = some (.cells #[.string s, .string t] 131 (0, 0)) ∧ w.grownBy w' (some y) := by
  obtain ⟨c0, c1, f0⟩ := cells2 hy
  obtain ⟨d1, -⟩ := cells1 h1
  obtain ⟨d2, -⟩ := cells1 h2
  have HY := Aside0.mk hy
  have hu := Tryd.underlying131
  have hta : ∀ (w : World) (p : Option Addr), (Instr.typeAssert (.iface 132 (.pointer p)) 20 132 false).run Tryd.prog w = .ok (.pointer p) w := fun _ _ => by kernel_rfl
  clear hy h1 h2
  go_enter Tryd.func98, Tryd.ntmps98
  go_wp2
  go_region
  all_goals
    go_wp2
    go_ret
    exact ⟨rfl, set2 HY.out _ _, by first | exact grownBy_below (grownBy_setB (grownBy_setB (World.grownBy.refl w (some y)) _ _) _ _) (below_drew (Below.refl _ _)) | exact grownBy_setB (grownBy_setB (grownBy_below (World.grownBy.refl w (some y)) (below_drew (Below.refl _ _))) _ _) _ _⟩
set_option maxRecDepth 100000 in
set_option maxHeartbeats 4000000 in
theorem unmarshal_calls (n m : Nat) (hn : n < m) (hm : m ≤ 1440) (b1 b2 g : Nat) (w : World) (h1 : w.heap[b1]? = some (.cells #[.string (timeS n)] 9 (0, 0))) (h2 : w.heap[b2]? = some (.cells #[.string (timeS m)] 9 (0, 0))) (hg : w.heap[g]? = some (.cells #[.int .i64 0, .int .i64 0] 84 (0, 0))) :
    Calls Tryd.prog 97 #[.pointer (some ⟨g, 0, none⟩), .func (.func 98) #[] #[.pointer (some ⟨b1, 0, none⟩), .pointer (some ⟨b2, 0, none⟩)]] w fun e w' => e = .returned .nilIface ∧ w'.heap[g]? = some (.cells #[.int .i64 n, .int .i64 m] 84 (0, 0)) ∧ w.grownBy w' (some g) := by
  have hb : ∀ k o, w.heap[k]? = some o → (w.alloc (.cells #[.string ⟨#[]⟩, .string ⟨#[]⟩] 131)).heap[k]? = some o := fun k o h => ((below_alloc (Below.refl w.heap.size w) _).block k (Array.getElem?_eq_some_iff.1 h).1).trans h
  have HC := Aside0.mk (clos_calls w.heap.size b1 b2 (timeS n) (timeS m) ⟨#[]⟩ ⟨#[]⟩ (w.alloc (.cells #[.string ⟨#[]⟩, .string ⟨#[]⟩] 131)) (heap_alloc_new w _) (hb _ _ h1) (hb _ _ h2))
  have HG := Aside0.mk (hb _ _ hg)
  have hlt : g < w.heap.size := (Array.getElem?_eq_some_iff.1 hg).1
  have HGR := Aside0.mk (World.grownBy_alloc w (.cells #[.string ⟨#[]⟩, .string ⟨#[]⟩] 131) (some g))
  have e1 : ((timeS n).toList == ([] : List UInt8)) = false := beq_eq_false_iff_ne.2 (by rw [ByteArray.toList_eq]; exact fun e => by cases e)
  have e2 : ((timeS m).toList == ([] : List UInt8)) = false := beq_eq_false_iff_ne.2 (by rw [ByteArray.toList_eq]; exact fun e => by cases e)
  have HP1 := Aside0.mk (parseTime_calls n (by omega))
  have HP2 := Aside0.mk (parseTime_calls m hm)
  have hi : (n : Int) < (m : Int) := by omega
  clear h1 h2 hg
  generalize timeS n = s at *
  generalize timeS m = t at *
  go_enter Tryd.func97, Tryd.ntmps97
  go_wp2_with fail
  refine HC.out.mono ?_
  rintro e w1 ⟨rfl, hy1, hg1⟩
  obtain ⟨c0, c1, -⟩ := cells2 hy1
  have HG1 := Aside0.mk ((hg1.block g (Array.getElem?_eq_some_iff.1 HG.out).1 (fun e => by injection e with e; omega)).trans HG.out)
  have hsz1 := hg1.size
  have HGR1 := Aside0.mk (hg1)
  clear hy1 hg1
  go_wp2_with fail
  refine (HP1.out _).mono ?_
  rintro e w2 ⟨rfl, hb2⟩
  have d1 := (hb2.cell (World.block_lt_of_cell? _ _ c1)).trans c1
  have HG2 := Aside0.mk ((hb2.block g (Array.getElem?_eq_some_iff.1 HG1.out).1).trans HG1.out)
  have HB2 := Aside0.mk hb2
  clear hb2 c0 c1
  go_wp2_with fail
  refine (HP2.out _).mono ?_
  rintro e w3 ⟨rfl, hb3⟩
  have HG3 := Aside0.mk ((hb3.block g (Array.getElem?_eq_some_iff.1 HG2.out).1).trans HG2.out)
  have HB3 := Aside0.mk hb3
  obtain ⟨k0, k1, kf⟩ := cells2 HG3.out
  clear hb3 d1
  go_wp2
  go_ret
  have hG := grown_new2 HGR.out HGR1.out (Nat.le_refl _)
  have hG3 := grownBy_below (grownBy_below hG HB2.out) HB3.out
  exact ⟨rfl, set2 HG3.out _ _, grownBy_setB (grownBy_setB hG3 _ _) _ _⟩
theorem heapA (w : World) (o : Obj) (k : Nat) (h : k < w.heap.size) : (w.alloc o).heap[k]? = w.heap[k]? := (below_alloc (Below.refl w.heap.size w) o).block k h
set_option maxRecDepth 100000 in
set_option maxHeartbeats 4000000 in
theorem zzTimes_calls (n m : Nat) (hn : n < m) (hm : m ≤ 1440) (w : World) :
    Calls Tryd.prog 58 #[.string (timeS n), .string (timeS m)] w fun e w' => e = .returned (.tuple #[.agg #[.int .i64 n, .int .i64 m], .nilIface]) ∧ Below w.heap.size w w' := by
  have hmf : ∀ (fn : Fn) (first cap : Array Value) (w : World), (Instr.makeFunc fn first cap).run Tryd.prog w = .ok (.func fn first cap) w := fun _ _ _ _ => rfl
  have hu := Tryd.underlying84
  generalize hW : (((w.alloc (.cells #[.string (timeS n)] 9)).alloc (.cells #[.string (timeS m)] 9)).alloc (.cells #[.int .i64 0, .int .i64 0] 84)).alloc (.cells #[.int .i64 0, .int .i64 0] 84) = W
  have HW := Aside0.mk hW
  have hb : Below w.heap.size w W := by rw [← hW]; exact below_alloc (below_alloc (below_alloc (below_alloc (Below.refl _ _) _) _) _) _
  have s1 : (w.alloc (.cells #[.string (timeS n)] 9)).heap.size = w.heap.size + 1 := by simp
  have s2 : ((w.alloc (.cells #[.string (timeS n)] 9)).alloc (.cells #[.string (timeS m)] 9)).heap.size = w.heap.size + 1 + 1 := by simp
  have s3 : (((w.alloc (.cells #[.string (timeS n)] 9)).alloc (.cells #[.string (timeS m)] 9)).alloc (.cells #[.int .i64 0, .int .i64 0] 84)).heap.size = w.heap.size + 1 + 1 + 1 := by simp
  have k1 : W.heap[w.heap.size]? = some (.cells #[.string (timeS n)] 9 (0, 0)) := by
    rw [← hW, heapA _ _ _ (by rw [s3]; omega), heapA _ _ _ (by rw [s2]; omega), heapA _ _ _ (by rw [s1]; omega)]
    exact heap_alloc_new w _
  have k2 : W.heap[w.heap.size + 1]? = some (.cells #[.string (timeS m)] 9 (0, 0)) := by
    rw [← hW, heapA _ _ _ (by rw [s3]; omega), heapA _ _ _ (by rw [s2]; omega), ← s1]
    exact heap_alloc_new _ _
  have k3 : W.heap[w.heap.size + 1 + 1]? = some (.cells #[.int .i64 0, .int .i64 0] 84 (0, 0)) := by
    rw [← hW, heapA _ _ _ (by rw [s3]; omega), ← s2]
    exact heap_alloc_new _ _
  have k4 : W.heap[w.heap.size + 1 + 1 + 1]? = some (.cells #[.int .i64 0, .int .i64 0] 84 (0, 0)) := by
    rw [← hW, ← s3]
    exact heap_alloc_new _ _
  have HU := Aside0.mk (unmarshal_calls n m hn hm w.heap.size (w.heap.size + 1) (w.heap.size + 1 + 1 + 1) W k1 k2 k4)
  have HK3 := Aside0.mk k3
  have HB := Aside0.mk hb
  clear k1 k2 k3 k4 s1 s2 s3 hb
  generalize timeS n = s at *
  generalize timeS m = t at *
  go_enter Tryd.func58, Tryd.ntmps58
  go_wp2_with fail
  refine HU.out.mono ?_
  rintro e w1 ⟨rfl, hg1, hG1⟩
  have HK1 := Aside0.mk ((hG1.block (w.heap.size + 1 + 1) (Array.getElem?_eq_some_iff.1 HK3.out).1 (fun e => by injection e with e; omega)).trans HK3.out)
  obtain ⟨c0, c1, -⟩ := cells2 hg1
  obtain ⟨d0, d1, df⟩ := cells2 HK1.out
  have HB1 := Aside0.mk (Below.grown HB.out hG1 HB.out.size (fun j hj => by cases hj; omega))
  clear hg1 hG1 hW
  go_wp2
  have hs := set2 HK1.out (.int .i64 (n : Int)) (.int .i64 (m : Int))
  obtain ⟨r0, r1, -⟩ := cells2 hs
  have hbf := (HB1.out.setCell (p := ⟨w.heap.size + 1 + 1, 0, none⟩) (by show w.heap.size ≤ w.heap.size + 1 + 1; omega) (.int .i64 (n : Int))).setCell (p := ⟨w.heap.size + 1 + 1, 1, none⟩) (by show w.heap.size ≤ w.heap.size + 1 + 1; omega) (.int .i64 (m : Int))
  exact bodyPost_ret (v := .tuple #[.agg #[.int .i64 n, .int .i64 m], .nilIface]) (by simp [results, Tryd.results58, go_sem, r0, r1]) rfl ⟨rfl, hbf⟩
/-- The minute of the day that a text written by 'timeS' stands for. -/
def minOf (s : ByteArray) : Nat := 60 * (10 * ((s.get! 0).toNat - 48) + ((s.get! 1).toNat - 48)) + (10 * ((s.get! 3).toNat - 48) + ((s.get! 4).toNat - 48))
theorem minOf_all : ∀ n : Fin 1441, minOf (timeS n.val) = n.val := by decide +kernel
def impl_Times.f (a0 a1 : ByteArray) : Option (Int × Int × Bool) := if minOf a0 < minOf a1 ∧ minOf a1 ≤ 1440 ∧ a0 = timeS (minOf a0) ∧ a1 = timeS (minOf a1) then some (minOf a0, minOf a1, true) else none
set_option maxRecDepth 100000 in
set_option maxHeartbeats 2000000 in
theorem impl_Times.calls (a0 a1 : ByteArray) (r1 r2 : Int) (r3 : Bool) (w : World) (h : impl_Times.f a0 a1 = some (r1, r2, r3)) :
    Calls Tryd.prog 30 #[.string a0, .string a1] w fun e w' => e = .returned (.tuple #[.int .i64 r1, .int .i64 r2, .bool r3]) ∧ Below w.heap.size w w' := by
  unfold impl_Times.f at h
  by_cases hc : minOf a0 < minOf a1 ∧ minOf a1 ≤ 1440 ∧ a0 = timeS (minOf a0) ∧ a1 = timeS (minOf a1)
  · rw [if_pos hc] at h
    obtain ⟨h1, h2, h3, h4⟩ := hc
    generalize minOf a0 = n at *
    generalize minOf a1 = m at *
    subst h3 h4
    have hu := Tryd.underlying84
    simp only [Option.some.injEq, Prod.mk.injEq] at h
    obtain ⟨rfl, rfl, rfl⟩ := h
    have HK := Aside0.mk (zzTimes_calls n m h1 h2 w)
    generalize timeS n = s at *
    generalize timeS m = t at *
    go_enter Tryd.func30, Tryd.ntmps30
    go_wp2_with fail
    refine HK.out.mono ?_
    rintro e w1 ⟨rfl, hb⟩
    have HB := Aside0.mk hb
    clear hb
    go_wp2
    go_quiet (fail)
    try go_wp2
    go_ret3
    exact ⟨rfl, by repeat (first | exact HB.out | apply below_drew | apply pw_below_drewN | apply below_alloc)⟩
  · rw [if_neg hc] at h
    cases h
theorem timeS_cat (n : Nat) : twoS (n / 60) ++ ⟨#[58]⟩ ++ twoS (n % 60) = timeS n := by
  rw [← bOf_data (twoS (n / 60) ++ ⟨#[58]⟩ ++ twoS (n % 60)), ← bOf_data (timeS n)]
  congr 1
set_option maxRecDepth 100000 in
set_option maxHeartbeats 4000000 in
theorem marshal_calls (n m : Nat) (hn : n ≤ 1440) (hm : m ≤ 1440) (w : World) :
    Calls Tryd.prog 99 #[.agg #[.int .i64 n, .int .i64 m]] w fun e w' => e = .returned (.tuple #[.iface 131 (.agg #[.string (timeS n), .string (timeS m)]), .nilIface]) ∧ Below w.heap.size w w' := by
  have hu1 := Tryd.underlying84
  have hu2 := Tryd.underlying131
  have q1 : n / 60 < 100 := by omega
  have q2 : n % 60 < 100 := by omega
  have q3 : m / 60 < 100 := by omega
  have q4 : m % 60 < 100 := by omega
  have T1 : Aside0 (∀ w, Calls Tryd.prog 120 #[.int .i64 ((n : Int) / 60)] w fun e w' => e = .returned (.string (twoS (n / 60))) ∧ w = w') := ⟨fun w => twoDigits_calls (n / 60) q1 w⟩
  have T2 : Aside0 (∀ w, Calls Tryd.prog 120 #[.int .i64 ((n : Int) % 60)] w fun e w' => e = .returned (.string (twoS (n % 60))) ∧ w = w') := ⟨fun w => twoDigits_calls (n % 60) q2 w⟩
  have T3 : Aside0 (∀ w, Calls Tryd.prog 120 #[.int .i64 ((m : Int) / 60)] w fun e w' => e = .returned (.string (twoS (m / 60))) ∧ w = w') := ⟨fun w => twoDigits_calls (m / 60) q3 w⟩
  have T4 : Aside0 (∀ w, Calls Tryd.prog 120 #[.int .i64 ((m : Int) % 60)] w fun e w' => e = .returned (.string (twoS (m % 60))) ∧ w = w') := ⟨fun w => twoDigits_calls (m % 60) q4 w⟩
  have HT := Aside0.mk (And.intro (timeS_cat n) (timeS_cat m))
  have z1 : (twoS (n / 60)).size ≤ 2 := Nat.le_refl 2
  have z2 : (twoS (n % 60)).size ≤ 2 := Nat.le_refl 2
  have z3 : (twoS (m / 60)).size ≤ 2 := Nat.le_refl 2
  have z4 : (twoS (m % 60)).size ≤ 2 := Nat.le_refl 2
  rw [← HT.out.1, ← HT.out.2]
  clear HT q1 q2 q3 q4
  generalize twoS (n / 60) = a at *
  generalize twoS (n % 60) = b at *
  generalize twoS (m / 60) = c at *
  generalize twoS (m % 60) = d at *
  have y1 : (a ++ ⟨#[58]⟩).size ≤ 3 := by rw [ByteArray.size_append]; show a.size + 1 ≤ 3; omega
  have y2 : (c ++ ⟨#[58]⟩).size ≤ 3 := by rw [ByteArray.size_append]; show c.size + 1 ≤ 3; omega
  go_enter Tryd.func99, Tryd.ntmps99
  go_wp2_with fail
  refine (T1.out _).mono ?_
  rintro e w1 ⟨rfl, rfl⟩
  go_wp2_with fail
  refine (T2.out _).mono ?_
  rintro e w1 ⟨rfl, rfl⟩
  go_wp2_with fail
  refine (T3.out _).mono ?_
  rintro e w1 ⟨rfl, rfl⟩
  go_wp2_with fail
  refine (T4.out _).mono ?_
  rintro e w1 ⟨rfl, rfl⟩
  go_wp2
  go_ret2
  exact ⟨rfl, by repeat (first | exact Below.refl _ _ | apply below_drew | apply pw_below_drewN | apply below_alloc)⟩
set_option maxRecDepth 100000 in
set_option maxHeartbeats 4000000 in
theorem zzTimeTexts_calls (n m : Nat) (hn : n ≤ 1440) (hm : m ≤ 1440) (w : World) :
    Calls Tryd.prog 59 #[.agg #[.int .i64 n, .int .i64 m]] w fun e w' => e = .returned (.tuple #[.string (timeS n), .string (timeS m)]) ∧ Below w.heap.size w w' := by
  have hu1 := Tryd.underlying84
  have hu2 := Tryd.underlying131
  have HM := Aside0.mk (marshal_calls n m hn hm)
  have hta : ∀ (w : World) (a b : ByteArray), (Instr.typeAssert (.iface 131 (.agg #[.string a, .string b])) 20 131 false).run Tryd.prog w = .ok (.agg #[.string a, .string b]) w := fun _ _ _ => by kernel_rfl
  generalize timeS n = s at *
  generalize timeS m = t at *
  have HB := Aside0.mk (below_alloc (Below.refl w.heap.size w) (.cells #[.int .i64 n, .int .i64 m] 84))
  go_enter Tryd.func59, Tryd.ntmps59
  go_wp2_with fail
  refine (HM.out _).mono ?_
  rintro e w1 ⟨rfl, hb⟩
  have HB1 := Aside0.mk (below_step HB.out hb)
  clear hb
  go_wp2
  go_quiet (fail)
  try go_wp2
  go_ret2
  exact ⟨rfl, by repeat (first | exact HB1.out | apply below_drew | apply pw_below_drewN | apply below_alloc)⟩
def impl_TimeTexts.f (a0 a1 : Int) : Option (ByteArray × ByteArray) := if 0 ≤ a0 ∧ a0 ≤ 1440 ∧ 0 ≤ a1 ∧ a1 ≤ 1440 then some (timeS a0.toNat, timeS a1.toNat) else none
set_option maxHeartbeats 1000000 in
theorem impl_TimeTexts.calls (a0 a1 : Int) (r1 r2 : ByteArray) (w : World) (h : impl_TimeTexts.f a0 a1 = some (r1, r2)) :
    Calls Tryd.prog 31 #[.int .i64 a0, .int .i64 a1] w fun e w' => e = .returned (.tuple #[.string r1, .string r2]) ∧ Below w.heap.size w w' := by
  unfold impl_TimeTexts.f at h
  by_cases hc : 0 ≤ a0 ∧ a0 ≤ 1440 ∧ 0 ≤ a1 ∧ a1 ≤ 1440
  · rw [if_pos hc] at h
    obtain ⟨h1, h2, h3, h4⟩ := hc
    obtain ⟨n, rfl⟩ := Int.eq_ofNat_of_zero_le h1
    obtain ⟨m, rfl⟩ := Int.eq_ofNat_of_zero_le h3
    simp only [Int.toNat_natCast, Option.some.injEq, Prod.mk.injEq] at h
    obtain ⟨rfl, rfl⟩ := h
    have hu1 := Tryd.underlying84
    have HM := Aside0.mk (zzTimeTexts_calls n m (by omega) (by omega) w)
    generalize timeS n = s at *
    generalize timeS m = t at *
    go_enter Tryd.func31, Tryd.ntmps31
    go_wp2_with fail
    refine HM.out.mono ?_
    rintro e w1 ⟨rfl, hb⟩
    have HB1 := Aside0.mk hb
    clear hb
    go_wp2
    go_ret2
    exact ⟨rfl, HB1.out⟩
  · rw [if_neg hc] at h
    cases h
end Go.Proofs.YtmmcibeeojfplaaDoor.Q
