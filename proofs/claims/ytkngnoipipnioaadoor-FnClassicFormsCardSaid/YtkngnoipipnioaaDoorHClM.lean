/- impl.ClassicMatcher: what the old reader takes of a text. Condition: a text of at most 100000 bytes; the library's tables of UTF-8 as it lays them. -/
import Derived.Test.YtkngnoipipnioaaDoorHClass
import Derived.Test.YtkngnoipipnioaaDoorUCls
import Derived.Outline
set_option linter.unusedVariables false
set_option linter.unusedSimpArgs false
namespace Go.Proofs.YtkngnoipipnioaaDoor.Q
open Go.RowKit Go.Lib Go.Proofs.YtkngnoipipnioaaDoorW.PrintWords Go.Proofs.YtkngnoipipnioaaDoorW.PrintLast Go.Proofs.YtkngnoipipnioaaDoorW.PrintMore
attribute [local go_sem] max2_int min2_int max_two min_two max_three min_three max_four min_four
set_option maxRecDepth 100000 in
set_option maxHeartbeats 1000000 in
theorem outerM_calls (g : Nat) (k : Int) (n x : ByteArray) (w : World) (h : w.heap[g]? = some (.cells #[.int .i64 k, .string n, .string x] 75 (0, 0))) :
    Calls Tryd.prog 19 #[.pointer (some ⟨g, 0, none⟩)] w fun e w' => e = .returned (.agg #[.int .i64 k, .string n, .string x]) ∧ Below w.heap.size w w' := by
  have hu := Tryd.underlying27
  have hup := Tryd.underlying75
  have hlt : g < w.heap.size := (Array.getElem?_eq_some_iff.1 h).1
  have c0 : w.cell? ⟨g, 0, none⟩ = some (.int .i64 k) := Lib.cell_of_heap h 0
  have c1 : w.cell? ⟨g, 1, none⟩ = some (.string n) := Lib.cell_of_heap h 1
  have c2 : w.cell? ⟨g, 2, none⟩ = some (.string x) := Lib.cell_of_heap h 2
  go_enter Tryd.func19, Tryd.ntmps19
  go_wp2
  go_region_held3 (fun w' => w'.cell? ⟨g, 0, none⟩ = some (.int .i64 k) ∧ w'.cell? ⟨g, 1, none⟩ = some (.string n) ∧ w'.cell? ⟨g, 2, none⟩ = some (.string x)) (first | go_keep) (first | fail)
  go_wp2
  exact bodyPost_ret (v := .agg #[.int .i64 k, .string n, .string x]) (by simp [results, Tryd.results19, go_sem]) rfl ⟨rfl, by repeat (first | exact Below.refl _ _ | apply below_alloc | apply below_drew | apply pw_below_drewN)⟩
set_option maxRecDepth 100000 in
set_option maxHeartbeats 1000000 in
theorem parseM0_calls (s : ByteArray) (k : Nat) (w : World) (hp : labels_zzMatcherParts.f k s = some []) :
    Calls Tryd.prog 18 #[.string s] w (MatchOut w none) := by
  have HP := Aside0.mk hp
  clear hp
  go_enter Tryd.func18, Tryd.ntmps18
  go_wp2_with (first | (go_at_call 32; refine (labels_zzMatcherParts.calls k s _ _ HP.out).mono ?_; rintro e w1 ⟨v, rfl, hR, hb⟩; obtain ⟨a4, c4, e4⟩ := Kd.R_slice hR; subst e4; have HB1 := Aside0.mk hb; clear hR hb) | (go_at_call 33; refine (errNew_calls _ _).mono ?_; rintro e w9 ⟨g9, rfl, hb9⟩; have HB9 := Aside0.mk (below_step HB1.out hb9); clear hb9))
  go_ret2
  exact ⟨_, _, rfl, HB9.out, ⟨_, rfl⟩⟩
theorem typeOf_is (op : List UInt8) : labels_zzTypeOf.f (mk op) = some (opKind op) := by
  unfold labels_zzTypeOf.f opKind
  rw [mk_list]
  split
  · rfl
  split
  · rfl
  split <;> rfl
theorem rawV_is (v : List UInt8) : rawV (mk v) = (mk (rawL v).1, (rawL v).2) := by
  unfold rawV rawL
  rw [mk_data]
  split
  · rw [mk_from]
  · rfl
def clsB (s : ByteArray) : Option (Int × ByteArray × ByteArray) := (clsP s.data.toList).map fun x => (x.1, mk x.2.1, mk x.2.2)
theorem partsP_len (l nm op v : List UInt8) (h : partsP l = some (nm, op, v)) : v.length ≤ l.length := by
  unfold partsP at h
  simp only at h
  split at h
  · cases h
  split at h
  · cases h
  have e := (Prod.mk.inj (Prod.mk.inj (Option.some.inj h)).2).2
  have h1 : ∀ z : List UInt8, (trimL z).length ≤ z.length := fun z => by obtain ⟨t, e, _⟩ := trimL_split z; have := congrArg List.length e; rw [List.length_append] at this; omega
  have h2 : ∀ z : List UInt8, (trim z).length ≤ z.length := fun z => by unfold trim; rw [trimR_take, List.length_take]; have := h1 z; omega
  rw [← e]
  refine Nat.le_trans (h2 _) ?_
  rw [List.length_drop]
  refine Nat.le_trans (Nat.sub_le _ _) (Nat.le_trans (h1 _) ?_)
  rw [List.length_drop]
  exact Nat.le_trans (Nat.sub_le _ _) (h1 _)
theorem rawL_len (v : List UInt8) : (rawL v).1.length ≤ v.length := by
  unfold rawL
  split
  · simp
  · exact Nat.le_refl _
theorem parseAny_calls (s : ByteArray) (w : World) (tb : TBu w) (hs : s.size ≤ 100000) : Calls Tryd.prog 18 #[.string s] w (MatchOut w (clsB s)) := by
  have hl : s.data.toList.length ≤ 100000 := by rw [Array.length_toList]; exact hs
  obtain ⟨k, hk⟩ := (parts_is s.data.toList hl).has
  rw [mk_eta] at hk
  unfold partsR at hk
  unfold clsB clsP
  cases hp : partsP s.data.toList with
  | none =>
    rw [hp] at hk
    exact parseM0_calls s k w hk
  | some q =>
    obtain ⟨nm, op, v⟩ := q
    rw [hp] at hk
    simp only at hk
    rw [mk_eta] at hk
    have hv := partsP_len _ _ _ _ hp
    have hr := rawL_len v
    have := parseM_calls s s (mk nm) (mk op) (mk v) k w tb hk (by rw [mk_size]; omega) (opKind op) (typeOf_is op) (mk (rawL v).1) (rawL v).2 (rawV_is v) (by rw [mk_size]; omega) (fun e => by
      unfold rawL at e ⊢
      split
      · rename_i h; rw [if_pos h] at e; cases e
      · rfl)
    rw [mk_data] at this
    simp only
    by_cases hval : validD (rawL v).1 = true
    · rw [if_pos hval] at this ⊢
      cases hf : valF false (rawL v).2 (rawL v).1 [] with
      | none => rw [hf] at this; exact this
      | some x => rw [hf] at this; exact this
    · rw [if_neg hval] at this ⊢
      exact this
theorem cells_inM {w : World} {k : Nat} {cs : Array Value} {t : Nat} (h : w.heap[k]? = some (.cells cs t (0, 0))) : (∀ j, w.cell? ⟨k, j, none⟩ = cs[j]?) ∧ ∀ j, w.frozen? ⟨k, j, none⟩ = false :=
  ⟨fun j => Lib.cell_of_heap h j, fun j => by simp [World.frozen?, h]⟩
def clsVal : Option (Int × ByteArray × ByteArray) → Value
  | none => .tuple #[.agg #[.int .i64 0, .string ⟨#[]⟩, .string ⟨#[]⟩], .bool false]
  | some (t, n, v) => .tuple #[.agg #[.int .i64 t, .string n, .string v], .bool true]
set_option maxRecDepth 100000 in
set_option maxHeartbeats 1000000 in
theorem classicM_calls (s : ByteArray) (w : World) (tb : TBu w) (hs : s.size ≤ 100000) (o : Option (Int × ByteArray × ByteArray)) (ho : clsB s = o) :
    Calls Tryd.prog 9 #[.string s] w fun e w' => e = .returned (clsVal o) ∧ Below w.heap.size w w' := by
  have hu := Tryd.underlying27
  have HT := Aside0.mk tb
  have HS := Aside0.mk hs
  have HO := Aside0.mk ho
  clear tb hs ho
  cases o with
  | none =>
    go_enter Tryd.func9, Tryd.ntmps9
    go_wp2_with fail
    refine (parseAny_calls s _ (TBu.below HT.out (below_alloc (Below.refl _ _) _)) HS.out).mono ?_
    rw [HO.out]
    rintro e w1 ⟨p, v, rfl, hb, ⟨g1, rfl⟩⟩
    have HB := Aside0.mk hb
    have hz := hb.size
    simp at hz
    obtain ⟨hcell, hfree⟩ := cells_inM ((hb.block w.heap.size (by simp)).trans (heap_alloc_new w _))
    have q0 : w1.cell? ⟨w.heap.size, 0, none⟩ = some (.int .i64 0) := hcell 0
    have q1 : w1.cell? ⟨w.heap.size, 1, none⟩ = some (.string ⟨#[]⟩) := hcell 1
    have q2 : w1.cell? ⟨w.heap.size, 2, none⟩ = some (.string ⟨#[]⟩) := hcell 2
    clear hb hcell
    go_wp2
    exact bodyPost_ret (v := clsVal none) (by simp [results, Tryd.results9, go_sem, clsVal, q0, q1, q2]) rfl ⟨rfl, by repeat (first | (refine below_set ?_ (Nat.le_refl _)) | exact below_step (below_alloc (Below.refl _ _) _) HB.out)⟩
  | some q =>
    obtain ⟨t, n, x⟩ := q
    go_enter Tryd.func9, Tryd.ntmps9
    go_wp2_with fail
    refine (parseAny_calls s _ (TBu.below HT.out (below_alloc (Below.refl _ _) _)) HS.out).mono ?_
    rw [HO.out]
    rintro e w1 ⟨p, v, rfl, hb, rfl, g, rfl, hg⟩
    have HB := Aside0.mk hb
    have HG := Aside0.mk hg
    have hz := hb.size
    simp at hz
    obtain ⟨hcell, hfree⟩ := cells_inM ((hb.block w.heap.size (by simp)).trans (heap_alloc_new w _))
    have q0 : w1.cell? ⟨w.heap.size, 0, none⟩ = some (.int .i64 0) := hcell 0
    have q1 : w1.cell? ⟨w.heap.size, 1, none⟩ = some (.string ⟨#[]⟩) := hcell 1
    have q2 : w1.cell? ⟨w.heap.size, 2, none⟩ = some (.string ⟨#[]⟩) := hcell 2
    clear hb hg hcell
    go_wp2_with fail
    refine (outerM_calls g t n x _ HG.out).mono ?_
    rintro e w2 ⟨rfl, hb2⟩
    have p0 : w2.cell? ⟨w.heap.size, 0, none⟩ = some (.int .i64 0) := (hb2.cell (World.block_lt_of_cell? _ _ q0)).trans q0
    have p1 : w2.cell? ⟨w.heap.size, 1, none⟩ = some (.string ⟨#[]⟩) := (hb2.cell (World.block_lt_of_cell? _ _ q1)).trans q1
    have p2 : w2.cell? ⟨w.heap.size, 2, none⟩ = some (.string ⟨#[]⟩) := (hb2.cell (World.block_lt_of_cell? _ _ q2)).trans q2
    have pf : ∀ j, w2.frozen? ⟨w.heap.size, j, none⟩ = false := fun j => (hb2.frozen (p := ⟨w.heap.size, j, none⟩) (World.block_lt_of_cell? _ ⟨w.heap.size, 0, none⟩ q0)).trans (hfree j)
    have HB2 := Aside0.mk hb2
    have hz2 := hb2.size
    clear hb2 q0 q1 q2 hfree
    go_wp2
    exact bodyPost_ret (v := clsVal (some (t, n, x))) (by simp [results, Tryd.results9, go_sem, clsVal, p0, p1, p2]) rfl ⟨rfl, by repeat (first | (refine below_set ?_ (Nat.le_refl _)) | exact below_step (below_step (below_alloc (Below.refl _ _) _) HB.out) HB2.out)⟩
def impl_ClassicMatcher.f (a0 : ByteArray) : Option (Int × ByteArray × ByteArray × Bool) := if a0.size ≤ 100000 then some (match clsB a0 with
  | none => (0, ⟨#[]⟩, ⟨#[]⟩, false)
  | some (t, n, v) => (t, n, v, true)) else none
theorem impl_ClassicMatcher.calls (a0 : ByteArray) (r1 : Int) (r2 : ByteArray) (r3 : ByteArray) (r4 : Bool) (w : World) (tb : TBu w) (h : impl_ClassicMatcher.f a0 = some (r1, r2, r3, r4)) :
    Calls Tryd.prog 9 #[.string a0] w fun e w' => e = .returned (.tuple #[.agg #[.int .i64 r1, .string r2, .string r3], .bool r4]) ∧ Below w.heap.size w w' := by
  unfold impl_ClassicMatcher.f at h
  split at h
  case isFalse => cases h
  case isTrue hs =>
  have := classicM_calls a0 w tb hs _ rfl
  have h2 := Option.some.inj h
  cases ho : clsB a0 with
  | none =>
    rw [ho] at h2 this
    obtain ⟨rfl, e2⟩ := Prod.mk.inj h2
    obtain ⟨rfl, e3⟩ := Prod.mk.inj e2
    obtain ⟨rfl, rfl⟩ := Prod.mk.inj e3
    exact this
  | some q =>
    obtain ⟨t, n, v⟩ := q
    rw [ho] at h2 this
    obtain ⟨rfl, e2⟩ := Prod.mk.inj h2
    obtain ⟨rfl, e3⟩ := Prod.mk.inj e2
    obtain ⟨rfl, rfl⟩ := Prod.mk.inj e3
    exact this
end Go.Proofs.YtkngnoipipnioaaDoor.Q
