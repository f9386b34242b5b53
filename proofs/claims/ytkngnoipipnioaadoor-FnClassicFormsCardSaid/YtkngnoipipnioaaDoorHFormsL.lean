/- The law FnClassicForms by hand. Condition: the sizes that the law lets in; the library's tables of UTF-8 as it lays them. -/
import Derived.Test.YtkngnoipipnioaaDoorHForms
import Derived.Test.YtkngnoipipnioaaDoorQEq0
import Derived.Test.YtkngnoipipnioaaDoorQlawsoldName
import Derived.Test.YtkngnoipipnioaaDoorQlawsplainValue
set_option linter.unusedVariables false
set_option linter.unusedSimpArgs false
namespace Go.Proofs.YtkngnoipipnioaaDoor.Q
open Go.RowKit Go.Lib Go.Proofs.YtkngnoipipnioaaDoorW.PrintWords Go.Proofs.YtkngnoipipnioaaDoorW.PrintLast Go.Proofs.YtkngnoipipnioaaDoorW.PrintMore
attribute [local go_sem high] eqA27
attribute [local go_sem] max2_int min2_int max_two min_two max_three min_three max_four min_four
def opS (b : Bool) : ByteArray := if b then ⟨#[33, 61]⟩ else ⟨#[61]⟩
def quoT : ByteArray := ⟨#[34]⟩
/-- The two texts that the law reads. -/
def form1 (n v : ByteArray) (l : List Int) (b : Bool) : ByteArray := gapS l 0 ++ n ++ gapS l 1 ++ opS b ++ gapS l 2 ++ v ++ gapS l 3
def form2 (n v : ByteArray) (l : List Int) (b : Bool) : ByteArray := gapS l 3 ++ n ++ gapS l 2 ++ opS b ++ gapS l 1 ++ quoT ++ v ++ quoT ++ gapS l 0
def kindB (b : Bool) : Int := if b then 1 else 0
theorem gap_size (l : List Int) (i : Nat) : (gapS l i).size ≤ 2 := by
  unfold gapS gap5
  repeat' split
  all_goals decide
theorem gapW_calls (w0 W : World) (gb : Nat) (A2 : Option Addr) (c2 : Nat) (l2 : List Int) (i : Nat) (g : ByteArray) (hg : gapS l2 i = g) (hi : i ≤ 3) (hB : Below w0.heap.size w0 W) (hc : w0.cell? ⟨gb, 0, none⟩ = some (.slice A2 l2.length c2)) (hr2 : Kd.C (Kd.int .u8) w0 A2 l2.length l2) (hc2 : l2.length ≤ c2) (hl2 : l2.length ≤ 2147483647) (hu8 : ∀ x ∈ l2, 0 ≤ x ∧ x ≤ 255) :
    Calls Tryd.prog 8 #[.int .i64 (i : Int), .pointer (some ⟨gb, 0, none⟩)] W fun e w' => e = .returned (.string g) ∧ Aside0 (Below w0.heap.size w0 w') := by
  refine (gap_calls gb A2 c2 l2 i hi W ((hB.cell (World.block_lt_of_cell? _ _ hc)).trans hc) (Kd.C_below hr2 hB) hc2 hl2 hu8).mono ?_
  rintro e w' ⟨rfl, hb⟩
  exact ⟨by rw [hg], ⟨below_step hB hb⟩⟩
theorem forms_start (w : World) (A2 : Option Addr) (c2 : Nat) (l2 : List Int) (kd : Int) (n v : ByteArray) (d : Nat) (hr : Kd.C (Kd.int .u8) w A2 l2.length l2) :
    (((w.alloc (.cells #[.slice A2 l2.length c2] 22)).drewN d).alloc (.cells #[.int .i64 kd, .string n, .string v] 27)).cell? ⟨w.heap.size, 0, none⟩ = some (.slice A2 l2.length c2) ∧
    Kd.C (Kd.int .u8) (((w.alloc (.cells #[.slice A2 l2.length c2] 22)).drewN d).alloc (.cells #[.int .i64 kd, .string n, .string v] 27)) A2 l2.length l2 ∧
    Below w.heap.size w (((w.alloc (.cells #[.slice A2 l2.length c2] 22)).drewN d).alloc (.cells #[.int .i64 kd, .string n, .string v] 27)) ∧
    (((w.alloc (.cells #[.slice A2 l2.length c2] 22)).drewN d).alloc (.cells #[.int .i64 kd, .string n, .string v] 27)).cell? ⟨w.heap.size + 1, 0, none⟩ = some (.int .i64 kd) ∧
    (((w.alloc (.cells #[.slice A2 l2.length c2] 22)).drewN d).alloc (.cells #[.int .i64 kd, .string n, .string v] 27)).cell? ⟨w.heap.size + 1, 1, none⟩ = some (.string n) ∧
    (((w.alloc (.cells #[.slice A2 l2.length c2] 22)).drewN d).alloc (.cells #[.int .i64 kd, .string n, .string v] 27)).cell? ⟨w.heap.size + 1, 2, none⟩ = some (.string v) := by
  have hz : ((w.alloc (.cells #[.slice A2 l2.length c2] 22)).drewN d).heap.size = w.heap.size + 1 := by simp
  have hm := heap_alloc_new ((w.alloc (.cells #[.slice A2 l2.length c2] 22)).drewN d) (.cells #[.int .i64 kd, .string n, .string v] 27)
  rw [hz] at hm
  have hB : Below w.heap.size w (((w.alloc (.cells #[.slice A2 l2.length c2] 22)).drewN d).alloc (.cells #[.int .i64 kd, .string n, .string v] 27)) := below_alloc (pw_below_drewN (below_alloc (Below.refl _ _) _) d) _
  refine ⟨?_, Kd.C_below hr hB, hB, Lib.cell_of_heap hm 0, Lib.cell_of_heap hm 1, Lib.cell_of_heap hm 2⟩
  have hb2 : Below (w.alloc (.cells #[.slice A2 l2.length c2] 22)).heap.size (w.alloc (.cells #[.slice A2 l2.length c2] 22)) (((w.alloc (.cells #[.slice A2 l2.length c2] 22)).drewN d).alloc (.cells #[.int .i64 kd, .string n, .string v] 27)) := below_alloc (pw_below_drewN (Below.refl _ _) d) _
  have h0 : (w.alloc (.cells #[.slice A2 l2.length c2] 22)).cell? ⟨w.heap.size, 0, none⟩ = some (.slice A2 l2.length c2) := Lib.cell_of_heap (heap_alloc_new w _) 0
  exact (hb2.cell (World.block_lt_of_cell? _ _ h0)).trans h0
/-- The first answer in its block, and what was known before. -/
theorem forms_next (w W0 w3 : World) (A2 : Option Addr) (c2 : Nat) (l2 : List Int) (kd : Int) (n v : ByteArray) (hbx : W0.cell? ⟨w.heap.size, 0, none⟩ = some (.slice A2 l2.length c2)) (hrx : Kd.C (Kd.int .u8) W0 A2 l2.length l2) (hbw : Below w.heap.size w W0)
    (hm : W0.cell? ⟨w.heap.size + 1, 0, none⟩ = some (.int .i64 kd) ∧ W0.cell? ⟨w.heap.size + 1, 1, none⟩ = some (.string n) ∧ W0.cell? ⟨w.heap.size + 1, 2, none⟩ = some (.string v)) (hB : Below W0.heap.size W0 w3) : ∃ X, X = w3.heap.size ∧
    (w3.alloc (.cells #[.int .i64 kd, .string n, .string v] 27)).cell? ⟨w.heap.size, 0, none⟩ = some (.slice A2 l2.length c2) ∧
    Kd.C (Kd.int .u8) (w3.alloc (.cells #[.int .i64 kd, .string n, .string v] 27)) A2 l2.length l2 ∧
    Below w.heap.size w (w3.alloc (.cells #[.int .i64 kd, .string n, .string v] 27)) ∧
    ((w3.alloc (.cells #[.int .i64 kd, .string n, .string v] 27)).cell? ⟨w.heap.size + 1, 0, none⟩ = some (.int .i64 kd) ∧ (w3.alloc (.cells #[.int .i64 kd, .string n, .string v] 27)).cell? ⟨w.heap.size + 1, 1, none⟩ = some (.string n) ∧ (w3.alloc (.cells #[.int .i64 kd, .string n, .string v] 27)).cell? ⟨w.heap.size + 1, 2, none⟩ = some (.string v)) ∧
    ((w3.alloc (.cells #[.int .i64 kd, .string n, .string v] 27)).cell? ⟨X, 0, none⟩ = some (.int .i64 kd) ∧ (w3.alloc (.cells #[.int .i64 kd, .string n, .string v] 27)).cell? ⟨X, 1, none⟩ = some (.string n) ∧ (w3.alloc (.cells #[.int .i64 kd, .string n, .string v] 27)).cell? ⟨X, 2, none⟩ = some (.string v)) := by
  have hB2 : Below W0.heap.size W0 (w3.alloc (.cells #[.int .i64 kd, .string n, .string v] 27)) := below_alloc hB _
  have k : ∀ a x, W0.cell? a = some x → (w3.alloc (.cells #[.int .i64 kd, .string n, .string v] 27)).cell? a = some x := fun a x h => (hB2.cell (World.block_lt_of_cell? _ _ h)).trans h
  have hn := heap_alloc_new w3 (.cells #[.int .i64 kd, .string n, .string v] 27)
  exact ⟨_, rfl, k _ _ hbx, Kd.C_below hrx hB2, below_step hbw hB2, ⟨k _ _ hm.1, k _ _ hm.2.1, k _ _ hm.2.2⟩, Lib.cell_of_heap hn 0, Lib.cell_of_heap hn 1, Lib.cell_of_heap hn 2⟩
set_option maxRecDepth 100000 in
set_option maxHeartbeats 8000000 in
theorem forms_calls (a0 a1 n v : ByteArray) (A2 : Option Addr) (c2 : Nat) (l2 : List Int) (a3 : Bool) (k1 k2 : Nat) (w : World) (tb : TBu w) (hr2 : Kd.C (Kd.int .u8) w A2 l2.length l2) (hc2 : l2.length ≤ c2) (hu8 : ∀ x ∈ l2, 0 ≤ x ∧ x ≤ 255) (hl2 : l2.length ≤ 2147483647) (h0 : a0.size ≤ 3000) (h1 : a1.size ≤ 3000)
    (hn : laws_oldName.f k1 a0 = some n) (hv : laws_plainValue.f k2 a1 = some v) (hns : n.size ≤ 3100) (hvs : v.size ≤ 3100) (hf1 : clsB (form1 n v l2 a3) = some (kindB a3, n, v)) (hf2 : clsB (form2 n v l2 a3) = some (kindB a3, n, v)) :
    Calls Tryd.prog 3 #[.string a0, .string a1, .slice A2 l2.length c2, .bool a3] w fun e w' => e = .returned (.bool true) ∧ Below w.heap.size w w' := by
  have HT := Aside0.mk tb
  have HR := Aside0.mk hr2
  have HU := Aside0.mk hu8
  have HC2 := Aside0.mk hc2
  have HN := Aside0.mk hn
  have HV := Aside0.mk hv
  have HF1 := Aside0.mk hf1
  have HF2 := Aside0.mk hf2
  have HZ := Aside0.mk (And.intro hns hvs)
  have hmf : ∀ (fn : Fn) (first cap : Array Value) (w : World), (Instr.makeFunc fn first cap).run Tryd.prog w = .ok (.func fn first cap) w := fun _ _ _ _ => rfl
  have hu0 := Tryd.underlying27
  have q0 : decide (2147483647 < (a0.size : Int)) = false := decide_eq_false (by omega)
  have q0' : decide (2147483647 < a0.size) = false := decide_eq_false (by omega)
  have q1 : decide (2147483647 < (a1.size : Int)) = false := decide_eq_false (by omega)
  have q1' : decide (2147483647 < a1.size) = false := decide_eq_false (by omega)
  have q2 : decide (2147483647 < (l2.length : Int)) = false := decide_eq_false (by omega)
  have q2' : decide (2147483647 < l2.length) = false := decide_eq_false (by omega)
  have q3 : decide (3000 < (a0.size : Int)) = false := decide_eq_false (by omega)
  have q3' : decide (3000 < a0.size) = false := decide_eq_false (by omega)
  have q4 : decide (3000 < (a1.size : Int)) = false := decide_eq_false (by omega)
  have q4' : decide (3000 < a1.size) = false := decide_eq_false (by omega)
  clear tb hr2 hc2 hu8 hn hv hf1 hf2 hns hvs
  have HG0 : Aside0 (∃ g, gapS l2 0 = g) := ⟨_, rfl⟩
  have HG1 : Aside0 (∃ g, gapS l2 1 = g) := ⟨_, rfl⟩
  have HG2 : Aside0 (∃ g, gapS l2 2 = g) := ⟨_, rfl⟩
  have HG3 : Aside0 (∃ g, gapS l2 3 = g) := ⟨_, rfl⟩
  have z0 := gap_size l2 0
  have z1 := gap_size l2 1
  have z2 := gap_size l2 2
  have z3 := gap_size l2 3
  unfold form1 at HF1
  unfold form2 at HF2
  obtain ⟨g0, hg0⟩ := HG0.out
  obtain ⟨g1, hg1⟩ := HG1.out
  obtain ⟨g2, hg2⟩ := HG2.out
  obtain ⟨g3, hg3⟩ := HG3.out
  rw [hg0] at z0 HF1 HF2
  rw [hg1] at z1 HF1 HF2
  rw [hg2] at z2 HF1 HF2
  rw [hg3] at z3 HF1 HF2
  replace HG0 := Aside0.mk hg0
  replace HG1 := Aside0.mk hg1
  replace HG2 := Aside0.mk hg2
  replace HG3 := Aside0.mk hg3
  clear hg0 hg1 hg2 hg3
  obtain ⟨zn, zv⟩ := HZ.out
  cases a3
  · replace HF1 : Aside0 (clsB (g0 ++ n ++ g1 ++ ⟨#[61]⟩ ++ g2 ++ v ++ g3) = some (0, n, v)) := HF1
    replace HF2 : Aside0 (clsB (g3 ++ n ++ g2 ++ ⟨#[61]⟩ ++ g1 ++ ⟨#[34]⟩ ++ v ++ ⟨#[34]⟩ ++ g0) = some (0, n, v)) := HF2
    have HS1 : Aside0 ((g0 ++ n ++ g1 ++ ⟨#[61]⟩ ++ g2 ++ v ++ g3).size ≤ 100000) := ⟨by simp only [ByteArray.size_append]; have : (⟨#[61]⟩ : ByteArray).size = 1 := rfl; omega⟩
    have HS2 : Aside0 ((g3 ++ n ++ g2 ++ ⟨#[61]⟩ ++ g1 ++ ⟨#[34]⟩ ++ v ++ ⟨#[34]⟩ ++ g0).size ≤ 100000) := ⟨by simp only [ByteArray.size_append]; have : (⟨#[61]⟩ : ByteArray).size = 1 := rfl; have h34 : (⟨#[34]⟩ : ByteArray).size = 1 := rfl; omega⟩
    have u2 : (9223372036854775807 < g0.size + n.size) = False := eq_false (by omega)
    have u3 : (9223372036854775807 < g0.size + n.size + g1.size) = False := eq_false (by omega)
    have u4 : (9223372036854775807 < g0.size + n.size + g1.size + 1) = False := eq_false (by omega)
    have u5 : (9223372036854775807 < g0.size + n.size + g1.size + 1 + g2.size) = False := eq_false (by omega)
    have u6 : (9223372036854775807 < g0.size + n.size + g1.size + 1 + g2.size + v.size) = False := eq_false (by omega)
    have u7 : (9223372036854775807 < g0.size + n.size + g1.size + 1 + g2.size + v.size + g3.size) = False := eq_false (by omega)
    have v2 : (9223372036854775807 < g3.size + n.size) = False := eq_false (by omega)
    have v3 : (9223372036854775807 < g3.size + n.size + g2.size) = False := eq_false (by omega)
    have v4 : (9223372036854775807 < g3.size + n.size + g2.size + 1) = False := eq_false (by omega)
    have v5 : (9223372036854775807 < g3.size + n.size + g2.size + 1 + g1.size) = False := eq_false (by omega)
    have v6 : (9223372036854775807 < g3.size + n.size + g2.size + 1 + g1.size + 1) = False := eq_false (by omega)
    have v7 : (9223372036854775807 < g3.size + n.size + g2.size + 1 + g1.size + 1 + v.size) = False := eq_false (by omega)
    have v8 : (9223372036854775807 < g3.size + n.size + g2.size + 1 + g1.size + 1 + v.size + 1) = False := eq_false (by omega)
    have v9 : (9223372036854775807 < g3.size + n.size + g2.size + 1 + g1.size + 1 + v.size + 1 + g0.size) = False := eq_false (by omega)
    clear zn zv z0 z1 z2 z3
    go_enter Tryd.func3, Tryd.ntmps3
    go_wp2_with (first | (go_at_call 6; refine (laws_oldName.calls k1 a0 n _ HN.out).mono ?_; rintro e w1 ⟨rfl, ⟨d1, rfl⟩⟩) | (go_at_call 7; refine (laws_plainValue.calls k2 a1 v _ HV.out).mono ?_; rintro e w2 ⟨rfl, ⟨d2, rfl⟩⟩))
    have HW0 := Aside0.mk (forms_start w A2 c2 l2 0 n v (d1 + d2) HR.out)
    generalize (((w.alloc (.cells #[.slice A2 l2.length c2] 22)).drewN (d1 + d2)).alloc (.cells #[.int .i64 0, .string n, .string v] 27)) = W0 at HW0 ⊢
    have HBX := Aside0.mk HW0.out.1
    have HRX := Aside0.mk HW0.out.2.1
    have HBW := Aside0.mk HW0.out.2.2.1
    obtain ⟨mc0, mc1, mc2⟩ := HW0.out.2.2.2
    have HM := Aside0.mk (And.intro mc0 (And.intro mc1 mc2))
    clear mc0 mc1 mc2 HW0
    refine (gapW_calls W0 _ w.heap.size A2 c2 l2 0 g0 HG0.out (by omega) (by repeat (first | (with_reducible exact HB.out) | (with_reducible exact Below.refl _ _) | apply pw_below_drewN | apply below_drew | apply below_alloc)) HBX.out HRX.out HC2.out hl2 HU.out).mono ?_
    rintro e w3 ⟨rfl, HB⟩
    go_wp2_with fail
    refine (gapW_calls W0 _ w.heap.size A2 c2 l2 1 g1 HG1.out (by omega) (by repeat (first | (with_reducible exact HB.out) | (with_reducible exact Below.refl _ _) | apply pw_below_drewN | apply below_drew | apply below_alloc)) HBX.out HRX.out HC2.out hl2 HU.out).mono ?_
    rintro e w3 ⟨rfl, HB⟩
    go_wp2_with fail
    refine (gapW_calls W0 _ w.heap.size A2 c2 l2 2 g2 HG2.out (by omega) (by repeat (first | (with_reducible exact HB.out) | (with_reducible exact Below.refl _ _) | apply pw_below_drewN | apply below_drew | apply below_alloc)) HBX.out HRX.out HC2.out hl2 HU.out).mono ?_
    rintro e w3 ⟨rfl, HB⟩
    go_wp2_with fail
    refine (gapW_calls W0 _ w.heap.size A2 c2 l2 3 g3 HG3.out (by omega) (by repeat (first | (with_reducible exact HB.out) | (with_reducible exact Below.refl _ _) | apply pw_below_drewN | apply below_drew | apply below_alloc)) HBX.out HRX.out HC2.out hl2 HU.out).mono ?_
    rintro e w3 ⟨rfl, HB⟩
    go_wp2_with fail
    refine (classicM_calls _ _ (TBu.below HT.out (below_step HBW.out (by repeat (first | (with_reducible exact HB.out) | (with_reducible exact Below.refl _ _) | apply pw_below_drewN | apply below_drew | apply below_alloc)))) HS1.out (some (_, n, v)) HF1.out).mono ?_
    rintro e w3 ⟨rfl, hb4⟩
    replace HB := Aside0.mk (below_step HB.out hb4)
    clear hb4
    unfold clsVal
    go_wp2_with fail
    have hw3 : w3.heap.size = w3.heap.size := rfl
    clear hw3
    have HN1 := Aside0.mk (forms_next w W0 _ A2 c2 l2 0 n v HBX.out HRX.out HBW.out HM.out HB.out)
    generalize (w3.alloc (.cells #[.int .i64 0, .string n, .string v] 27)) = W1 at HN1 ⊢
    obtain ⟨X, hXe, hX⟩ := HN1.out
    rw [← hXe]
    clear hXe
    have HBX1 := Aside0.mk hX.1
    have HRX1 := Aside0.mk hX.2.1
    have HBW1 := Aside0.mk hX.2.2.1
    have HM1 := Aside0.mk hX.2.2.2.1
    have HX1 := Aside0.mk hX.2.2.2.2
    clear hX HN1 HB
    refine (gapW_calls W1 _ w.heap.size A2 c2 l2 3 g3 HG3.out (by omega) (by repeat (first | (with_reducible exact HB.out) | (with_reducible exact Below.refl _ _) | apply pw_below_drewN | apply below_drew | apply below_alloc)) HBX1.out HRX1.out HC2.out hl2 HU.out).mono ?_
    rintro e w3 ⟨rfl, HB⟩
    go_wp2_with fail
    refine (gapW_calls W1 _ w.heap.size A2 c2 l2 2 g2 HG2.out (by omega) (by repeat (first | (with_reducible exact HB.out) | (with_reducible exact Below.refl _ _) | apply pw_below_drewN | apply below_drew | apply below_alloc)) HBX1.out HRX1.out HC2.out hl2 HU.out).mono ?_
    rintro e w3 ⟨rfl, HB⟩
    go_wp2_with fail
    refine (gapW_calls W1 _ w.heap.size A2 c2 l2 1 g1 HG1.out (by omega) (by repeat (first | (with_reducible exact HB.out) | (with_reducible exact Below.refl _ _) | apply pw_below_drewN | apply below_drew | apply below_alloc)) HBX1.out HRX1.out HC2.out hl2 HU.out).mono ?_
    rintro e w3 ⟨rfl, HB⟩
    go_wp2_with fail
    refine (gapW_calls W1 _ w.heap.size A2 c2 l2 0 g0 HG0.out (by omega) (by repeat (first | (with_reducible exact HB.out) | (with_reducible exact Below.refl _ _) | apply pw_below_drewN | apply below_drew | apply below_alloc)) HBX1.out HRX1.out HC2.out hl2 HU.out).mono ?_
    rintro e w3 ⟨rfl, HB⟩
    go_wp2_with fail
    refine (classicM_calls _ _ (TBu.below HT.out (below_step HBW1.out (by repeat (first | (with_reducible exact HB.out) | (with_reducible exact Below.refl _ _) | apply pw_below_drewN | apply below_drew | apply below_alloc)))) HS2.out (some (_, n, v)) HF2.out).mono ?_
    rintro e w3 ⟨rfl, hb4⟩
    replace HB := Aside0.mk (below_step HB.out hb4)
    clear hb4
    unfold clsVal
    have hBY : Below W1.heap.size W1 (w3.alloc (.cells #[.int .i64 0, .string n, .string v] 27)) := below_alloc HB.out _
    have my0 := (hBY.cell (World.block_lt_of_cell? _ _ HM1.out.1)).trans HM1.out.1
    have my1 := (hBY.cell (World.block_lt_of_cell? _ _ HM1.out.2.1)).trans HM1.out.2.1
    have my2 := (hBY.cell (World.block_lt_of_cell? _ _ HM1.out.2.2)).trans HM1.out.2.2
    have xy0 := (hBY.cell (World.block_lt_of_cell? _ _ HX1.out.1)).trans HX1.out.1
    have xy1 := (hBY.cell (World.block_lt_of_cell? _ _ HX1.out.2.1)).trans HX1.out.2.1
    have xy2 := (hBY.cell (World.block_lt_of_cell? _ _ HX1.out.2.2)).trans HX1.out.2.2
    have HBZ := Aside0.mk (below_step HBW1.out hBY)
    clear hBY
    go_wp2
    go_ret
    exact ⟨by simp, HBZ.out⟩
  · replace HF1 : Aside0 (clsB (g0 ++ n ++ g1 ++ ⟨#[33, 61]⟩ ++ g2 ++ v ++ g3) = some (1, n, v)) := HF1
    replace HF2 : Aside0 (clsB (g3 ++ n ++ g2 ++ ⟨#[33, 61]⟩ ++ g1 ++ ⟨#[34]⟩ ++ v ++ ⟨#[34]⟩ ++ g0) = some (1, n, v)) := HF2
    have HS1 : Aside0 ((g0 ++ n ++ g1 ++ ⟨#[33, 61]⟩ ++ g2 ++ v ++ g3).size ≤ 100000) := ⟨by simp only [ByteArray.size_append]; have : (⟨#[33, 61]⟩ : ByteArray).size = 2 := rfl; omega⟩
    have HS2 : Aside0 ((g3 ++ n ++ g2 ++ ⟨#[33, 61]⟩ ++ g1 ++ ⟨#[34]⟩ ++ v ++ ⟨#[34]⟩ ++ g0).size ≤ 100000) := ⟨by simp only [ByteArray.size_append]; have : (⟨#[33, 61]⟩ : ByteArray).size = 2 := rfl; have h34 : (⟨#[34]⟩ : ByteArray).size = 1 := rfl; omega⟩
    have u2 : (9223372036854775807 < g0.size + n.size) = False := eq_false (by omega)
    have u3 : (9223372036854775807 < g0.size + n.size + g1.size) = False := eq_false (by omega)
    have u4 : (9223372036854775807 < g0.size + n.size + g1.size + 2) = False := eq_false (by omega)
    have u5 : (9223372036854775807 < g0.size + n.size + g1.size + 2 + g2.size) = False := eq_false (by omega)
    have u6 : (9223372036854775807 < g0.size + n.size + g1.size + 2 + g2.size + v.size) = False := eq_false (by omega)
    have u7 : (9223372036854775807 < g0.size + n.size + g1.size + 2 + g2.size + v.size + g3.size) = False := eq_false (by omega)
    have v2 : (9223372036854775807 < g3.size + n.size) = False := eq_false (by omega)
    have v3 : (9223372036854775807 < g3.size + n.size + g2.size) = False := eq_false (by omega)
    have v4 : (9223372036854775807 < g3.size + n.size + g2.size + 2) = False := eq_false (by omega)
    have v5 : (9223372036854775807 < g3.size + n.size + g2.size + 2 + g1.size) = False := eq_false (by omega)
    have v6 : (9223372036854775807 < g3.size + n.size + g2.size + 2 + g1.size + 1) = False := eq_false (by omega)
    have v7 : (9223372036854775807 < g3.size + n.size + g2.size + 2 + g1.size + 1 + v.size) = False := eq_false (by omega)
    have v8 : (9223372036854775807 < g3.size + n.size + g2.size + 2 + g1.size + 1 + v.size + 1) = False := eq_false (by omega)
    have v9 : (9223372036854775807 < g3.size + n.size + g2.size + 2 + g1.size + 1 + v.size + 1 + g0.size) = False := eq_false (by omega)
    clear zn zv z0 z1 z2 z3
    go_enter Tryd.func3, Tryd.ntmps3
    go_wp2_with (first | (go_at_call 6; refine (laws_oldName.calls k1 a0 n _ HN.out).mono ?_; rintro e w1 ⟨rfl, ⟨d1, rfl⟩⟩) | (go_at_call 7; refine (laws_plainValue.calls k2 a1 v _ HV.out).mono ?_; rintro e w2 ⟨rfl, ⟨d2, rfl⟩⟩))
    have HW0 := Aside0.mk (forms_start w A2 c2 l2 1 n v (d1 + d2) HR.out)
    generalize (((w.alloc (.cells #[.slice A2 l2.length c2] 22)).drewN (d1 + d2)).alloc (.cells #[.int .i64 1, .string n, .string v] 27)) = W0 at HW0 ⊢
    have HBX := Aside0.mk HW0.out.1
    have HRX := Aside0.mk HW0.out.2.1
    have HBW := Aside0.mk HW0.out.2.2.1
    obtain ⟨mc0, mc1, mc2⟩ := HW0.out.2.2.2
    have HM := Aside0.mk (And.intro mc0 (And.intro mc1 mc2))
    clear mc0 mc1 mc2 HW0
    refine (gapW_calls W0 _ w.heap.size A2 c2 l2 0 g0 HG0.out (by omega) (by repeat (first | (with_reducible exact HB.out) | (with_reducible exact Below.refl _ _) | apply pw_below_drewN | apply below_drew | apply below_alloc)) HBX.out HRX.out HC2.out hl2 HU.out).mono ?_
    rintro e w3 ⟨rfl, HB⟩
    go_wp2_with fail
    refine (gapW_calls W0 _ w.heap.size A2 c2 l2 1 g1 HG1.out (by omega) (by repeat (first | (with_reducible exact HB.out) | (with_reducible exact Below.refl _ _) | apply pw_below_drewN | apply below_drew | apply below_alloc)) HBX.out HRX.out HC2.out hl2 HU.out).mono ?_
    rintro e w3 ⟨rfl, HB⟩
    go_wp2_with fail
    refine (gapW_calls W0 _ w.heap.size A2 c2 l2 2 g2 HG2.out (by omega) (by repeat (first | (with_reducible exact HB.out) | (with_reducible exact Below.refl _ _) | apply pw_below_drewN | apply below_drew | apply below_alloc)) HBX.out HRX.out HC2.out hl2 HU.out).mono ?_
    rintro e w3 ⟨rfl, HB⟩
    go_wp2_with fail
    refine (gapW_calls W0 _ w.heap.size A2 c2 l2 3 g3 HG3.out (by omega) (by repeat (first | (with_reducible exact HB.out) | (with_reducible exact Below.refl _ _) | apply pw_below_drewN | apply below_drew | apply below_alloc)) HBX.out HRX.out HC2.out hl2 HU.out).mono ?_
    rintro e w3 ⟨rfl, HB⟩
    go_wp2_with fail
    refine (classicM_calls _ _ (TBu.below HT.out (below_step HBW.out (by repeat (first | (with_reducible exact HB.out) | (with_reducible exact Below.refl _ _) | apply pw_below_drewN | apply below_drew | apply below_alloc)))) HS1.out (some (_, n, v)) HF1.out).mono ?_
    rintro e w3 ⟨rfl, hb4⟩
    replace HB := Aside0.mk (below_step HB.out hb4)
    clear hb4
    unfold clsVal
    go_wp2_with fail
    have hw3 : w3.heap.size = w3.heap.size := rfl
    clear hw3
    have HN1 := Aside0.mk (forms_next w W0 _ A2 c2 l2 1 n v HBX.out HRX.out HBW.out HM.out HB.out)
    generalize (w3.alloc (.cells #[.int .i64 1, .string n, .string v] 27)) = W1 at HN1 ⊢
    obtain ⟨X, hXe, hX⟩ := HN1.out
    rw [← hXe]
    clear hXe
    have HBX1 := Aside0.mk hX.1
    have HRX1 := Aside0.mk hX.2.1
    have HBW1 := Aside0.mk hX.2.2.1
    have HM1 := Aside0.mk hX.2.2.2.1
    have HX1 := Aside0.mk hX.2.2.2.2
    clear hX HN1 HB
    refine (gapW_calls W1 _ w.heap.size A2 c2 l2 3 g3 HG3.out (by omega) (by repeat (first | (with_reducible exact HB.out) | (with_reducible exact Below.refl _ _) | apply pw_below_drewN | apply below_drew | apply below_alloc)) HBX1.out HRX1.out HC2.out hl2 HU.out).mono ?_
    rintro e w3 ⟨rfl, HB⟩
    go_wp2_with fail
    refine (gapW_calls W1 _ w.heap.size A2 c2 l2 2 g2 HG2.out (by omega) (by repeat (first | (with_reducible exact HB.out) | (with_reducible exact Below.refl _ _) | apply pw_below_drewN | apply below_drew | apply below_alloc)) HBX1.out HRX1.out HC2.out hl2 HU.out).mono ?_
    rintro e w3 ⟨rfl, HB⟩
    go_wp2_with fail
    refine (gapW_calls W1 _ w.heap.size A2 c2 l2 1 g1 HG1.out (by omega) (by repeat (first | (with_reducible exact HB.out) | (with_reducible exact Below.refl _ _) | apply pw_below_drewN | apply below_drew | apply below_alloc)) HBX1.out HRX1.out HC2.out hl2 HU.out).mono ?_
    rintro e w3 ⟨rfl, HB⟩
    go_wp2_with fail
    refine (gapW_calls W1 _ w.heap.size A2 c2 l2 0 g0 HG0.out (by omega) (by repeat (first | (with_reducible exact HB.out) | (with_reducible exact Below.refl _ _) | apply pw_below_drewN | apply below_drew | apply below_alloc)) HBX1.out HRX1.out HC2.out hl2 HU.out).mono ?_
    rintro e w3 ⟨rfl, HB⟩
    go_wp2_with fail
    refine (classicM_calls _ _ (TBu.below HT.out (below_step HBW1.out (by repeat (first | (with_reducible exact HB.out) | (with_reducible exact Below.refl _ _) | apply pw_below_drewN | apply below_drew | apply below_alloc)))) HS2.out (some (_, n, v)) HF2.out).mono ?_
    rintro e w3 ⟨rfl, hb4⟩
    replace HB := Aside0.mk (below_step HB.out hb4)
    clear hb4
    unfold clsVal
    have hBY : Below W1.heap.size W1 (w3.alloc (.cells #[.int .i64 1, .string n, .string v] 27)) := below_alloc HB.out _
    have my0 := (hBY.cell (World.block_lt_of_cell? _ _ HM1.out.1)).trans HM1.out.1
    have my1 := (hBY.cell (World.block_lt_of_cell? _ _ HM1.out.2.1)).trans HM1.out.2.1
    have my2 := (hBY.cell (World.block_lt_of_cell? _ _ HM1.out.2.2)).trans HM1.out.2.2
    have xy0 := (hBY.cell (World.block_lt_of_cell? _ _ HX1.out.1)).trans HX1.out.1
    have xy1 := (hBY.cell (World.block_lt_of_cell? _ _ HX1.out.2.1)).trans HX1.out.2.1
    have xy2 := (hBY.cell (World.block_lt_of_cell? _ _ HX1.out.2.2)).trans HX1.out.2.2
    have HBZ := Aside0.mk (below_step HBW1.out hBY)
    clear hBY
    go_wp2
    go_ret
    exact ⟨by simp, HBZ.out⟩
end Go.Proofs.YtkngnoipipnioaaDoor.Q
