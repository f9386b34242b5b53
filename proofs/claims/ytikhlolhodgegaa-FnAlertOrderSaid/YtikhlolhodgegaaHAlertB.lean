/- The order of alerts in plain words, and what impl.AlertBefore returns. No condition beyond the lengths named. -/
import Derived.Test.YtikhlolhodgegaaHAlert
import Derived.Test.YtikhlolhodgegaaUCmp
set_option linter.unusedVariables false
set_option linter.unusedSimpArgs false
namespace Go.Proofs.Ytikhlolhodgegaa.Q
open Go.RowKit Go.Proofs.YtikhlolhodgegaaW.PrintWords Go.Proofs.YtikhlolhodgegaaW.PrintLast Go.Proofs.YtikhlolhodgegaaW.PrintMore
attribute [local go_sem] max2_int min2_int max_two min_two max_three min_three max_four min_four
def keyV (s : ByteArray) (X : List S59) : Option (List UInt8) := (X.find? (atN s.data.toList)).map (fun q => q.f1.toList)
def cmpA (X Y : List S59) : Option Bool := lex (fun X Y => cmpO (keyV jobB X) (keyV jobB Y)) (lex (fun X Y => cmpO (keyV instB X) (keyV instB Y)) cmpSet) X Y
theorem Cmp.alert : Cmp cmpA := Cmp.lex (Cmp.on Cmp.opt (keyV jobB)) (Cmp.lex (Cmp.on Cmp.opt (keyV instB)) Cmp.set)
def alertP (X Y : List S59) : Bool := (cmpA X Y).getD false
theorem cK_is (a b : List S26) (s : ByteArray) : cK s (mset a) (mset b) = cmpO (keyV s (setGo (a.map conv) [])) (keyV s (setGo (b.map conv) [])) := by
  have e : byB s.data.toList = s := ba_eq s
  have h1 := has_is a s.data.toList
  have h2 := has_is b s.data.toList
  rw [e] at h1 h2
  unfold cK keyV
  rw [h1, h2]
  cases f1 : (setGo (a.map conv) []).find? (atN s.data.toList) with
  | none =>
    cases f2 : (setGo (b.map conv) []).find? (atN s.data.toList) with
    | none => rfl
    | some q => rfl
  | some p =>
    cases f2 : (setGo (b.map conv) []).find? (atN s.data.toList) with
    | none => rfl
    | some q =>
      have v1 := val_at a _ p f1
      have v2 := val_at b _ q f2
      rw [e] at v1 v2
      rw [v1, v2]
      show stepV p.f1 q.f1 = cmpB p.f1.toList q.f1.toList
      unfold stepV cmpB
      rw [bless_eqS]
theorem alV_is (a b : List S26) (k1 k2 : List (List UInt8)) (h1 : k1.Perm (strKeys (mset a))) (h2 : k2.Perm (strKeys (mset b))) : alV (mset a) (mset b) (srt (k1 ++ k2)) = alertP (setGo (a.map conv) []) (setGo (b.map conv) []) := by
  unfold alV alertP cmpA lex
  rw [cK_is, cK_is, befV_is a b k1 k2 h1 h2, befP_cmp]
  dsimp only
  cases cmpO (keyV jobB (setGo (a.map conv) [])) (keyV jobB (setGo (b.map conv) [])) with
  | some r => rfl
  | none =>
    cases cmpO (keyV instB (setGo (a.map conv) [])) (keyV instB (setGo (b.map conv) [])) with
    | some r => rfl
    | none => rfl
theorem set_heap_same {w : World} {b o t : Nat} {cs : Array Value} {fr : Nat × Nat} (v : Value) (h : w.heap[b]? = some (.cells cs t fr)) : (w.setCell ⟨b, o, none⟩ v).heap[b]? = some (.cells (cs.setIfInBounds o v) t fr) := by simp [World.setCell, Array.getElem?_modify, h]
def zAlert : Array Value := #[.map none, .map none, .int .u64 0, .int .i64 0, .pointer none, .int .u64 0, .int .i64 0, .pointer none, .string ⟨#[]⟩, .int .u64 0, .int .i64 0, .pointer none, .bool false]
theorem alert_sz (w : World) (o p : Obj) : (((w.alloc o).alloc o).alloc p).heap.size = w.heap.size + 1 + 1 + 1 := by simp
theorem alert_b0 (w : World) (o p : Obj) : (((w.alloc o).alloc o).alloc p).heap[w.heap.size]? = some o :=
  (Lib.alloc_old _ _ _ (by simp; omega)).trans ((Lib.alloc_old _ _ _ (by simp)).trans (heap_alloc_new w _))
theorem alert_b1 (w : World) (o p : Obj) : (((w.alloc o).alloc o).alloc p).heap[w.heap.size + 1]? = some o := by
  refine (Lib.alloc_old _ _ _ (by simp)).trans ?_
  have := heap_alloc_new (w.alloc o) o
  rwa [show (w.alloc o).heap.size = w.heap.size + 1 by simp] at this
theorem alert_b2 (w : World) (o p : Obj) : (((w.alloc o).alloc o).alloc p).heap[w.heap.size + 1 + 1]? = some p := by
  have := heap_alloc_new ((w.alloc o).alloc o) p
  rwa [show ((w.alloc o).alloc o).heap.size = w.heap.size + 1 + 1 by simp] at this
/-- The three blocks in a world, and that a set of labels made later lies elsewhere. -/
def ABlocks (h : Nat) (w1 : World) : Prop := w1.heap[h]? = some (.cells zAlert 76 (0, 0)) ∧ w1.heap[h + 1]? = some (.cells zAlert 76 (0, 0)) ∧ w1.heap[h + 1 + 1]? = some (.cells #[.pointer (some ⟨h, 0, none⟩), .pointer (some ⟨h + 1, 0, none⟩)] 69 (0, 0))
theorem alert_first {h b1 : Nat} {W w1 : World} (hk : ABlocks h W) (hs : W.heap.size = h + 1 + 1 + 1) (hB : Below W.heap.size W w1) (hb : W.heap.size ≤ b1) : ABlocks h w1 ∧ h + 1 + 1 < w1.heap.size ∧ h + 1 + 1 < b1 :=
  ⟨⟨(hB.block h (by omega)).trans hk.1, (hB.block (h + 1) (by omega)).trans hk.2.1, (hB.block (h + 1 + 1) (by omega)).trans hk.2.2⟩, by have := hB.size; omega, by omega⟩
theorem alert_second {h b1 b2 : Nat} {w1 w2 : World} (hk : ABlocks h w1 ∧ h + 1 + 1 < w1.heap.size ∧ h + 1 + 1 < b1) (hB : Below w1.heap.size w1 w2) (hb : w1.heap.size ≤ b2) : ABlocks h w2 ∧ h + 1 + 1 < b1 ∧ h + 1 + 1 < b2 :=
  ⟨⟨(hB.block h (by omega)).trans hk.1.1, (hB.block (h + 1) (by omega)).trans hk.1.2.1, (hB.block (h + 1 + 1) (by omega)).trans hk.1.2.2⟩, hk.2.2, by omega⟩
theorem alert_ptrs {h : Nat} {w : World} (hk : ABlocks h w) : w.cell? ⟨h + 1 + 1, 0, none⟩ = some (.pointer (some ⟨h, 0, none⟩)) ∧ w.cell? ⟨h + 1 + 1, 1, none⟩ = some (.pointer (some ⟨h + 1, 0, none⟩)) :=
  ⟨by rw [Lib.cell_of_heap hk.2.2]; rfl, by rw [Lib.cell_of_heap hk.2.2]; rfl⟩
theorem alert_cells {h b1 b2 : Nat} {w2 : World} (hk : ABlocks h w2 ∧ h + 1 + 1 < b1 ∧ h + 1 + 1 < b2) (v : Value) : w2.cell? ⟨h, 0, none⟩ = some (.map none) ∧ w2.frozen? ⟨h, 0, none⟩ = false ∧ w2.cell? ⟨h + 1, 0, none⟩ = some (.map none) ∧ w2.frozen? ⟨h + 1, 0, none⟩ = false ∧ (w2.setCell ⟨h, 0, none⟩ v).cell? ⟨h + 1, 0, none⟩ = some (.map none) ∧ (w2.setCell ⟨h, 0, none⟩ v).frozen? ⟨h + 1, 0, none⟩ = false := by
  obtain ⟨⟨k0, k1, k2⟩, _, _⟩ := hk
  have s1 : (w2.setCell ⟨h, 0, none⟩ v).heap[h + 1]? = some (.cells zAlert 76 (0, 0)) := (Below.heap_setCell w2 ⟨h, 0, none⟩ v (h + 1) (by show h + 1 ≠ h; omega)).trans k1
  exact ⟨by rw [Lib.cell_of_heap k0]; rfl, by simp [World.frozen?, k0], by rw [Lib.cell_of_heap k1]; rfl, by simp [World.frozen?, k1], by rw [Lib.cell_of_heap s1]; rfl, by simp [World.frozen?, s1]⟩
theorem alert_last {h b1 b2 n1 n2 : Nat} {D1 D2 : DataW Unit} {w2 : World} (hk : ABlocks h w2 ∧ h + 1 + 1 < b1 ∧ h + 1 + 1 < b2) (o1 : OwnsSet w2 b1 n1 D1) (o2 : OwnsSet w2 b2 n2 D2) (W : World) (hW : W = (w2.setCell ⟨h, 0, none⟩ (.map (some b1))).setCell ⟨h + 1, 0, none⟩ (.map (some b2))) :
    (W.cell? ⟨h + 1 + 1, 0, none⟩ = some (.pointer (some ⟨h, 0, none⟩)) ∧ W.cell? ⟨h + 1 + 1, 1, none⟩ = some (.pointer (some ⟨h + 1, 0, none⟩)) ∧ W.cell? ⟨h, 0, none⟩ = some (.map (some b1)) ∧ W.cell? ⟨h + 1, 0, none⟩ = some (.map (some b2))) ∧ OwnsSet W b1 n1 D1 ∧ OwnsSet W b2 n2 D2 := by
  subst hW
  obtain ⟨⟨k0, k1, k2⟩, l1, l2⟩ := hk
  have p2 : ((w2.setCell ⟨h, 0, none⟩ (.map (some b1))).setCell ⟨h + 1, 0, none⟩ (.map (some b2))).heap[h + 1 + 1]? = _ := ((Below.heap_setCell _ ⟨h + 1, 0, none⟩ _ (h + 1 + 1) (by show h + 1 + 1 ≠ h + 1; omega)).trans (Below.heap_setCell w2 ⟨h, 0, none⟩ _ (h + 1 + 1) (by show h + 1 + 1 ≠ h; omega))).trans k2
  have p0 : ((w2.setCell ⟨h, 0, none⟩ (.map (some b1))).setCell ⟨h + 1, 0, none⟩ (.map (some b2))).heap[h]? = _ := (Below.heap_setCell _ ⟨h + 1, 0, none⟩ _ h (by show h ≠ h + 1; omega)).trans (set_heap_same (.map (some b1)) k0)
  have q1 : (w2.setCell ⟨h, 0, none⟩ (.map (some b1))).heap[h + 1]? = _ := (Below.heap_setCell w2 ⟨h, 0, none⟩ _ (h + 1) (by show h + 1 ≠ h; omega)).trans k1
  have p1 := set_heap_same (o := 0) (.map (some b2)) q1
  refine ⟨⟨by rw [Lib.cell_of_heap p2]; rfl, by rw [Lib.cell_of_heap p2]; rfl, by rw [Lib.cell_of_heap p0]; rfl, by rw [Lib.cell_of_heap p1]; rfl⟩, ?_, ?_⟩
  · exact World.ownsMap.setCell (World.ownsMap.setCell o1 (a := ⟨h, 0, none⟩) (by show b1 ≠ h; omega) _) (a := ⟨h + 1, 0, none⟩) (by show b1 ≠ h + 1; omega) _
  · exact World.ownsMap.setCell (World.ownsMap.setCell o2 (a := ⟨h, 0, none⟩) (by show b2 ≠ h; omega) _) (a := ⟨h + 1, 0, none⟩) (by show b2 ≠ h + 1; omega) _
def impl_AlertBefore.f (l0 : List (S26)) (l1 : List (S26)) : Option (Bool) := if l0.length ≤ 300000000 ∧ l1.length ≤ 300000000 ∧ shortPairs l0 ∧ shortPairs l1 then some (alertP (setGo (l0.map conv) []) (setGo (l1.map conv) [])) else none
set_option maxRecDepth 100000 in
set_option maxHeartbeats 800000 in
theorem impl_AlertBefore.calls (A0 : Option Addr) (c0 : Nat) (l0 : List (S26)) (A1 : Option Addr) (c1 : Nat) (l1 : List (S26)) (r : Bool) (w : World) (hr0 : Kd.C k26 w A0 l0.length l0) (hc0 : l0.length ≤ c0) (hr1 : Kd.C k26 w A1 l1.length l1) (hc1 : l1.length ≤ c1) (h : impl_AlertBefore.f l0 l1 = some r) :
    Calls Try.prog 25 #[.slice A0 l0.length c0, .slice A1 l1.length c1] w fun e w' => e = .returned (.bool r) ∧ Below w.heap.size w w' := by
  unfold impl_AlertBefore.f at h
  split at h
  case isFalse => cases h
  rename_i hh
  obtain ⟨hl0, hl1, hs0, hs1⟩ := hh
  obtain rfl := Option.some.inj h
  clear h
  have HR0 := Aside0.mk hr0
  have HR1 := Aside0.mk hr1
  have HS0 := Aside0.mk hs0
  have HS1 := Aside0.mk hs1
  clear hr0 hr1 hs0 hs1
  go_enter Try.func25, Try.ntmps25
  go_wp2_with fail
  generalize hW : ((w.alloc (.cells #[.map none, .map none, .int .u64 0, .int .i64 0, .pointer none, .int .u64 0, .int .i64 0, .pointer none, .string ⟨#[]⟩, .int .u64 0, .int .i64 0, .pointer none, .bool false] 76)).alloc (.cells #[.map none, .map none, .int .u64 0, .int .i64 0, .pointer none, .int .u64 0, .int .i64 0, .pointer none, .string ⟨#[]⟩, .int .u64 0, .int .i64 0, .pointer none, .bool false] 76)).alloc (.cells #[.pointer (some ⟨w.heap.size, 0, none⟩), .pointer (some ⟨w.heap.size + 1, 0, none⟩)] 69) = W0
  have hsz : W0.heap.size = w.heap.size + 1 + 1 + 1 := by rw [← hW]; exact alert_sz _ _ _
  have HBW : Aside0 (Below w.heap.size w W0) := ⟨by rw [← hW]; exact below_alloc (below_alloc (below_alloc (Below.refl _ _) _) _) _⟩
  have hb0 : W0.heap[w.heap.size]? = some (.cells zAlert 76 (0, 0)) := by rw [← hW]; exact alert_b0 _ _ _
  have hb1 : W0.heap[w.heap.size + 1]? = some (.cells zAlert 76 (0, 0)) := by rw [← hW]; exact alert_b1 _ _ _
  have hb2 : W0.heap[w.heap.size + 1 + 1]? = some (.cells #[.pointer (some ⟨w.heap.size, 0, none⟩), .pointer (some ⟨w.heap.size + 1, 0, none⟩)] 69 (0, 0)) := by rw [← hW]; exact alert_b2 _ _ _
  have hp0 : W0.cell? ⟨w.heap.size + 1 + 1, 0, none⟩ = some (.pointer (some ⟨w.heap.size, 0, none⟩)) := by rw [Lib.cell_of_heap hb2]; rfl
  have hp1 : W0.cell? ⟨w.heap.size + 1 + 1, 1, none⟩ = some (.pointer (some ⟨w.heap.size + 1, 0, none⟩)) := by rw [Lib.cell_of_heap hb2]; rfl
  have HBK := Aside0.mk (And.intro hb0 (And.intro hb1 hb2))
  have HSZ := Aside0.mk hsz
  clear hW hsz hb0 hb1 hb2
  have HC0 : Aside0 (Kd.C k26 W0.drew A0 l0.length l0) := ⟨Kd.C_below HR0.out (below_step HBW.out (Drawn0.below ⟨1, rfl⟩))⟩
  have HC1 : Aside0 (Kd.C k26 W0.drew A1 l1.length l1) := ⟨Kd.C_below HR1.out (below_step HBW.out (Drawn0.below ⟨1, rfl⟩))⟩
  have HBD : Aside0 (Below w.heap.size w W0.drew) := ⟨below_step HBW.out (Drawn0.below ⟨1, rfl⟩)⟩
  have HBK' : Aside0 (W0.drew.heap[w.heap.size]? = some (.cells zAlert 76 (0, 0)) ∧ W0.drew.heap[w.heap.size + 1]? = some (.cells zAlert 76 (0, 0)) ∧ W0.drew.heap[w.heap.size + 1 + 1]? = some (.cells #[.pointer (some ⟨w.heap.size, 0, none⟩), .pointer (some ⟨w.heap.size + 1, 0, none⟩)] 69 (0, 0))) := HBK
  have HSZ' : Aside0 (W0.drew.heap.size = w.heap.size + 1 + 1 + 1) := HSZ
  clear HR0 HR1 HBW HBK HSZ
  generalize (Value.agg #[.map none, .map none, .int .u64 0, .int .i64 0, .pointer none, .int .u64 0, .int .i64 0, .pointer none, .string ⟨#[]⟩, .int .u64 0, .int .i64 0, .pointer none, .bool false]) = Z
  go_region_with (first
    | (go_at_call 56; refine (labelSet_calls A0 c0 l0 _ HC0.out hc0 (by omega) HS0.out).mono ?_; rintro e w1 ⟨b1, rfl, hg1, ho1, hB1⟩; have HO1 := Aside0.mk ho1; have HQ := Aside0.mk (alert_first HBK'.out HSZ'.out hB1 hg1); have HR1 := Aside0.mk (Kd.C_below HC1.out hB1); have HB1 := Aside0.mk (below_step HBD.out hB1); obtain ⟨hy0, hy1⟩ := alert_ptrs HQ.out.1; clear hg1 ho1 hB1 HC0 HC1 HBD HBK' HSZ')
    | (go_at_call 56; refine (labelSet_calls A1 c1 l1 _ HR1.out hc1 (by omega) HS1.out).mono ?_; rintro e w2 ⟨b2, rfl, hg2, ho2, hB2⟩; have HO2 := Aside0.mk ho2; have HO1' := Aside0.mk (own_R_below HO1.out hB2); have HB2 := Aside0.mk (below_step HB1.out hB2); have HQ2 := Aside0.mk (alert_second HQ.out hB2 hg2); obtain ⟨hx0, hf0, hx2, hf2, hx1, hf1⟩ := alert_cells HQ2.out (Value.map (some b1)); obtain ⟨hz0, hz1⟩ := alert_ptrs HQ2.out.1; clear hg2 ho2 hB2 HR1 HB1 HQ HO1))
  all_goals
    go_wp2_with fail
    obtain ⟨⟨g0, g1, g2, g3⟩, go1, go2⟩ := alert_last HQ2.out HO1'.out HO2.out _ rfl
    have HBZ := Aside0.mk ((HB2.out.setCell (p := ⟨w.heap.size, 0, none⟩) (Nat.le_refl _) (.map (some b1))).setCell (p := ⟨w.heap.size + 1, 0, none⟩) (Nat.le_succ _) (.map (some b2)))
    refine (alertLess_calls _ _ _ _ _ _ _ _ _ _ g0 g1 g2 g3 go1 go2 (by have := size_mset l0; omega) (by have := size_mset l1; omega)).mono ?_
    rintro e w3 ⟨k1, k2, rfl, hk1, hk2, hB3⟩
    have HB3 := Aside0.mk (below_step HBZ.out hB3)
    have HE := Aside0.mk (alV_is l0 l1 k1 k2 hk1 hk2)
    clear hk1 hk2 hB3 g0 g1 g2 g3 go1 go2
    go_wp2
    go_ret
    exact ⟨by rw [← HE.out]; rfl, HB3.out⟩
end Go.Proofs.Ytikhlolhodgegaa.Q
