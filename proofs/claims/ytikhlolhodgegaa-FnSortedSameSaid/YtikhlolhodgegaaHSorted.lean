/- impl.Sorted: matchers, sorted: sort.Sort at a row of pointers of the call's own; matchers handed back as data. Condition: at most 10000000 matchers. -/
import Derived.Test.YtikhlolhodgegaaHMatch
import Derived.Test.YtikhlolhodgegaaUOrd
import Derived.Test.YtikhlolhodgegaaHSSort
import Derived.Deep.QuietTactic
import Derived.RegionTactic
import Derived.Deep.RegionHeld3
import Derived.Lib.BufferOwn
set_option linter.unusedVariables false
set_option linter.unusedSimpArgs false
namespace Go.Proofs.Ytikhlolhodgegaa.Q
open Go.RowKit Go.Sort Go.Proofs.YtikhlolhodgegaaW.PrintWords Go.Proofs.YtikhlolhodgegaaW.PrintLast Go.Proofs.YtikhlolhodgegaaW.PrintMore
attribute [local go_sem] max2_int min2_int max_two min_two max_three min_three max_four min_four
def leM (x y : S52) : Bool := !lessM y x
theorem lessM_f {x y : S52} : lessM x y = false ↔ ¬ ltM x y := by
  rw [← lessM_iff]; simp
theorem leM_trans (a b c : S52) (h1 : leM a b = true) (h2 : leM b c = true) : leM a c = true := by
  unfold leM at *
  rw [Bool.not_eq_true', lessM_f] at *
  intro h
  rcases ltM_tri a b with k | k | k
  · exact h2 (ltM_trans h k)
  · obtain ⟨e0, e1, e2⟩ := k
    refine h2 ?_
    unfold ltM at h ⊢
    rw [← e0, ← e1, ← e2]
    exact h
  · exact h1 k
theorem leM_total (a b : S52) : (leM a b || leM b a) = true := by
  unfold leM
  rcases ltM_tri a b with k | k | k
  · have : lessM b a = false := lessM_f.2 (fun h => ltM_irr _ (ltM_trans h k))
    simp [this]
  · obtain ⟨e0, e1, e2⟩ := k
    have : lessM b a = false := lessM_f.2 (fun h => by unfold ltM at h; rw [e0, e1, e2] at h; simp [bl_irr] at h)
    simp [this]
  · have : lessM a b = false := lessM_f.2 (fun h => ltM_irr _ (ltM_trans h k))
    simp [this]
theorem toList_inj {a b : ByteArray} (h : a.toList = b.toList) : a = b := by
  rw [ByteArray.toList_eq, ByteArray.toList_eq] at h
  exact ByteArray.ext (Array.ext' h)
theorem leM_anti (a b : S52) (h1 : leM a b = true) (h2 : leM b a = true) : a = b := by
  unfold leM at *
  rw [Bool.not_eq_true', lessM_f] at *
  rcases ltM_tri a b with k | k | k
  · exact absurd k h2
  · obtain ⟨e0, e1, e2⟩ := k
    obtain ⟨a0, a1, a2⟩ := a
    obtain ⟨b0, b1, b2⟩ := b
    have := toList_inj e1
    have := toList_inj e2
    simp_all
  · exact absurd k h1
/-- The matchers, sorted. -/
def srtM (l : List S52) : List S52 := l.mergeSort leM
theorem srtM_perm {l l' : List S52} (h : l.Perm l') : srtM l = srtM l' :=
  List.Perm.eq_of_pairwise (le := fun a b => leM a b = true) (fun a b _ _ h1 h2 => leM_anti a b h1 h2) (List.pairwise_mergeSort leM_trans leM_total l) (List.pairwise_mergeSort leM_trans leM_total l') (((List.mergeSort_perm l leM).trans h).trans (List.mergeSort_perm l' leM).symm)
theorem srtM_is {l m : List S52} (hp : m.Perm l) (hs : m.Pairwise (fun a b => leM a b = true)) : m = srtM l :=
  List.Perm.eq_of_pairwise (le := fun a b => leM a b = true) (fun a b _ _ h1 h2 => leM_anti a b h1 h2) hs (List.pairwise_mergeSort leM_trans leM_total l) (hp.trans (List.mergeSort_perm l leM).symm)
theorem srtM_len (l : List S52) : (srtM l).length = l.length := (List.mergeSort_perm l leM).length_eq
theorem srtM_idem (l : List S52) : srtM (srtM l) = srtM l := srtM_perm (List.mergeSort_perm l leM)
/-- Places of a list, ordered by what stands there. -/
def ltF (xs : List S52) (i j : Fin xs.length) : Bool := lessM xs[i] xs[j]
theorem swoF (xs : List S52) : SWO (ltF xs) := ⟨fun x => lessM_f.2 (ltM_irr _), fun x y z h1 h2 => (lessM_iff _ _).2 (ltM_trans ((lessM_iff _ _).1 h1) ((lessM_iff _ _).1 h2)), fun x y z h1 h2 => by
  have e1 : leM xs[y] xs[x] = true := by unfold leM; rw [Bool.not_eq_true']; exact h1
  have e2 : leM xs[z] xs[y] = true := by unfold leM; rw [Bool.not_eq_true']; exact h2
  have := leM_trans _ _ _ e2 e1
  unfold leM at this
  rw [Bool.not_eq_true'] at this
  exact this⟩
theorem m_len_reached (p : Option Addr) (n c : Nat) : Reaches Try.prog 94 (.slice p n c) "Len" 161 := ⟨fun _ => by kernel_rfl, enters_of Try.func161 (by kernel_rfl) rfl⟩
theorem m_less_reached (p : Option Addr) (n c : Nat) : Reaches Try.prog 94 (.slice p n c) "Less" 162 := ⟨fun _ => by kernel_rfl, enters_of Try.func162 (by kernel_rfl) rfl⟩
theorem m_swap_reached (p : Option Addr) (n c : Nat) : Reaches Try.prog 94 (.slice p n c) "Swap" 164 := ⟨fun _ => by kernel_rfl, enters_of Try.func164 (by kernel_rfl) rfl⟩
set_option maxHeartbeats 2000000 in
theorem m_Len (p : Option Addr) (n c : Nat) (W : World) : LenM Try.prog 161 (.slice p n c) n W := by
  unfold LenM
  go_enter Try.func161, Try.ntmps161
  go_wp2
  go_ret
  exact ⟨rfl, 0, rfl⟩
set_option maxHeartbeats 2000000 in
theorem m_Swap (blk off c size : Nat) (W : World) (x y : Nat) (i j : Nat) (hi : i < size) (hj : j < size) (_hsz : size < 4611686018427387904)
    (ci : W.cell? ⟨blk, off + i, none⟩ = some (.pointer (some ⟨x, 0, none⟩))) (cj : W.cell? ⟨blk, off + j, none⟩ = some (.pointer (some ⟨y, 0, none⟩))) (fi : W.frozen? ⟨blk, off + i, none⟩ = false) (fj : W.frozen? ⟨blk, off + j, none⟩ = false) :
    Calls Try.prog 164 #[.slice (some ⟨blk, off, none⟩) size c, .int .i64 i, .int .i64 j] W fun e w' => e = .returned (.tuple #[]) ∧ ∃ q, w' = ((W.setCell ⟨blk, off + i, none⟩ (.pointer (some ⟨y, 0, none⟩))).setCell ⟨blk, off + j, none⟩ (.pointer (some ⟨x, 0, none⟩))).drewN q := by
  obtain ⟨v', hy'⟩ := cell?_setCell_some (w := W) (p := ⟨blk, off + i, none⟩) (x := .pointer (some ⟨y, 0, none⟩)) (q := ⟨blk, off + j, none⟩) cj
  go_enter Try.func164, Try.ntmps164
  go_wp2
  go_region
  all_goals (try go_wp2)
  all_goals go_end0
  all_goals exact ⟨rfl, 1, rfl⟩
/-- A row of pointers to matchers that lie elsewhere. -/
structure PtrRow (w : World) (g : Nat) (xs : List S52) (B : Fin xs.length → Nat) : Prop where
  cell : ∀ k : Fin xs.length, w.cell? ⟨g, 0 + k.val, none⟩ = some (.pointer (some ⟨B k, 0, none⟩)) ∧ w.frozen? ⟨g, 0 + k.val, none⟩ = false
  ne : ∀ k, B k ≠ g
  blk : ∀ k, w.heap[B k]? = some (.cells #[.int .i64 xs[k].f0, .string xs[k].f1, .string xs[k].f2] 138 (0, 0))
def encB {n : Nat} (B : Fin n → Nat) (k : Fin n) : Value := .pointer (some ⟨B k, 0, none⟩)
theorem grownBy_any {α : Type} [Inhabited α] {enc : α → Value} {w : World} {g n : Nat} {os : Array Obj} (d : Array α) : w.grownBy (grow (putRow enc (Sort.ahead w n) g 0 d) os) (some g) := by
  refine ⟨rfl, rfl, rfl, by simp, fun k hk hne => ?_⟩
  rw [heap_grow_old _ _ (by simpa using hk)]
  have : g ≠ k := fun e => hne (by rw [e])
  simp [putRow, mapBlock, Sort.ahead, Array.getElem?_modify, this]
theorem fin_at {n : Nat} {α : Type} (l : List (Fin n)) (f : Fin n → α) (j : Nat) (hj : j < l.length) : (l.map f)[j]? = some (f (l[j])) := by
  rw [List.getElem?_map, List.getElem?_eq_getElem hj]; rfl
section
variable {w : World} {g : Nat} {xs : List S52} {B : Fin xs.length → Nat}
theorem PtrRow.reads [Inhabited (Fin xs.length)] (h : PtrRow w g xs B) (hg : g < w.heap.size) (hl : xs.length ≤ 10000000000) (m : Nat) (os : Array Obj) (dk : Array (Fin xs.length)) (hs : dk.size = xs.length) (H0 : Holds (encB B) (sortWorld (encB B) w g 0 m dk os) g 0 dk) :
    Kd.C (ptrK 138 k52) (sortWorld (encB B) w g 0 m dk os) (some ⟨g, 0, none⟩) (dk.toList.map (fun k => xs[k])).length (dk.toList.map (fun k => xs[k])) := by
  have hlen : (dk.toList.map (fun k => xs[k])).length = xs.length := by simp [hs]
  refine ⟨rfl, by omega, fun _ => ⟨_, rfl, fun j p hj => ?_⟩⟩
  have hjl : j < dk.size := by
    have := (List.getElem?_eq_some_iff.1 hj).1
    omega
  have e : p = xs[dk[j]] := by
    rw [fin_at _ _ j (by simpa using hjl)] at hj
    have := Option.some.inj hj
    rw [← this]
    simp
  subst e
  have hcell := (H0 j hjl).1
  rw [getElem!_pos dk j hjl] at hcell
  have hb : (sortWorld (encB B) w g 0 m dk os).heap[B dk[j]]? = w.heap[B dk[j]]? := by
    have hlt : B dk[j] < w.heap.size := (Array.getElem?_eq_some_iff.1 (h.blk dk[j])).1
    exact (grownBy_any (enc := encB B) (w := w) (g := g) (n := m) (os := os) dk).block _ hlt (fun e => h.ne dk[j] (by injection e))
  refine ⟨[.pointer (some ⟨B dk[j], 0, none⟩)], rfl, ⟨B dk[j], [.int .i64 xs[dk[j]].f0, .string xs[dk[j]].f1, .string xs[dk[j]].f2], rfl, hb.trans (h.blk dk[j]), k52.K_of_M (k52_mkM (sortWorld (encB B) w g 0 m dk os) 0 (fun _ => True) xs[dk[j]])⟩, fun i u hu => ?_⟩
  have hi : i = 0 := by
    have := (List.getElem?_eq_some_iff.1 hu).1
    simp at this
    exact this
  subst hi
  obtain rfl : (.pointer (some ⟨B dk[j], 0, none⟩) : Value) = u := by simpa using hu
  have e1 : j * (ptrK 138 k52).sz + 0 = 0 + j := by show j * 1 + 0 = 0 + j; omega
  rw [e1]
  have e2 : (⟨g, 0, none⟩ : Addr).add (0 + j) = ⟨g, 0 + j, none⟩ := by simp [Addr.add]; exact fun h => h.symm
  rw [e2]
  exact hcell
theorem PtrRow.holds0 [Inhabited (Fin xs.length)] (h : PtrRow w g xs B) : Holds (encB B) w g 0 (List.finRange xs.length).toArray := fun j hj => by
  have hj' : j < xs.length := by simpa using hj
  have e : (List.finRange xs.length).toArray[j]! = ⟨j, hj'⟩ := by
    rw [getElem!_pos _ j hj]
    simp
  rw [e]
  exact h.cell ⟨j, hj'⟩
theorem PtrRow.lessM [Inhabited (Fin xs.length)] (h : PtrRow w g xs B) (hg : g < w.heap.size) (hl : xs.length ≤ 10000000000) (c : Nat) : LessM Try.prog 162 (.slice (some ⟨g, 0, none⟩) xs.length c) (encB B) (ltF xs) g 0 xs.length w := fun m os dk hs i j hi hj => by
  have hH := holds_sortWorld (encB B) w g 0 m (List.finRange xs.length).toArray dk os hg h.holds0 (by simp [hs])
  have hC := h.reads hg hl m os dk hs hH
  have hlen : (dk.toList.map (fun k => xs[k])).length = xs.length := by simp [hs]
  have hX := lessM_calls (some ⟨g, 0, none⟩) c _ (i : Int) (j : Int) _ hC (by omega) (by omega) (by omega) (by omega)
  rw [hlen] at hX
  have rd : ∀ t, t < xs.length → rd_T52 (dk.toList.map (fun k => xs[k])) (t : Int) = (fun k : Fin xs.length => xs[k]) dk[t]! := fun t ht => by
    have ht' : t < dk.toList.length := by simp [hs]; exact ht
    have e : dk[t]! = dk.toList[t]'ht' := by rw [getElem!_pos dk t (by omega)]; simp
    unfold rd_T52
    rw [Int.toNat_natCast, List.getD_eq_getElem?_getD, fin_at _ _ t ht']
    exact (congrArg (fun k : Fin xs.length => xs[k]) e).symm
  rw [rd i hi, rd j hj] at hX
  refine hX.mono ?_
  rintro e w' ⟨rfl, ⟨q, rfl⟩⟩
  exact ⟨rfl, q, rfl⟩
theorem m_SwapM [Inhabited (Fin xs.length)] (c : Nat) (hl : xs.length ≤ 10000000000) : SwapM Try.prog 164 (.slice (some ⟨g, 0, none⟩) xs.length c) (encB B) g 0 xs.length := fun W dk hH hs i j hi hj =>
  m_Swap g 0 c xs.length W (B dk[i]!) (B dk[j]!) i j hi hj (by omega) (hH i (by omega)).1 (hH j (by omega)).1 (hH i (by omega)).2 (hH j (by omega)).2
end
theorem sorted_isM (xs : List S52) [Inhabited (Fin xs.length)] (d' : Array (Fin xs.length)) (hp : PermIn 0 (List.finRange xs.length).toArray.size (List.finRange xs.length).toArray d') (hs : SortedIn (ltF xs) 0 (List.finRange xs.length).toArray.size d') : d'.toList.map (fun k => xs[k]) = srtM xs := by
  have hz : (List.finRange xs.length).toArray.size = xs.length := by simp
  have h1 : d'.size = xs.length := by have := hp.1; simpa using this
  have hperm : d'.toList.Perm (List.finRange xs.length) := by
    have h := hp.2.2
    have e1 : (d'.extract 0 (List.finRange xs.length).toArray.size) = d' := by
      have : (List.finRange xs.length).toArray.size = d'.size := by rw [hz, h1]
      rw [this, Array.extract_size]
    rw [e1, Array.extract_size] at h
    simpa using h
  have hm : (List.finRange xs.length).map (fun k => xs[k]) = xs := by
    apply List.ext_getElem (by simp)
    intro i h1 h2
    simp
  refine srtM_is (by have := hperm.map (fun k => xs[k]); rwa [hm] at this) ?_
  rw [List.pairwise_map, List.pairwise_iff_getElem]
  intro i j hi hj hij
  have hi' : i < d'.size := by simpa using hi
  have hj' : j < d'.size := by simpa using hj
  have := hs i j (Nat.zero_le _) hij (by rw [hz]; omega)
  rw [getElem!_pos d' i hi', getElem!_pos d' j hj'] at this
  unfold leM
  rw [Bool.not_eq_true']
  simpa [ltF] using this
/-- A row of the call's own holds pointers to blocks of their own. -/
theorem ptr_row {w : World} {base : Nat} {v : Value} {xs : List S52} (h : Kd.R (ptrK 138 k52) 126 w base (fun _ => True) v xs) (h2 : 2 ≤ xs.length) :
    ∃ g c B, v = .slice (some ⟨g, 0, none⟩) xs.length c ∧ base ≤ g ∧ g < w.heap.size ∧ xs.length ≤ c ∧ PtrRow w g xs B := by
  obtain ⟨_, inner, ho, hr⟩ := h
  rcases ho.2 with ⟨_, hn⟩ | ⟨g, cap, cur, rfl, hbase, hb, h1, h2', h3, h4⟩
  · omega
  have hex : ∀ k : Fin xs.length, ∃ b, inner[k.val]? = some (.pointer (some ⟨b, 0, none⟩)) ∧ b ≠ g ∧ w.heap[b]? = some (.cells #[.int .i64 xs[k].f0, .string xs[k].f1, .string xs[k].f2] 138 (0, 0)) := fun k => by
    obtain ⟨b, c, e, hok, _, hh, hk⟩ := hr.2 k.val xs[k] (List.getElem?_eq_getElem k.isLt)
    have e1 : k.val * (ptrK 138 k52).sz = k.val := Nat.mul_one _
    rw [e1] at e
    have e2 : (inner.drop k.val).take 1 = [.pointer (some ⟨b, 0, none⟩)] := e
    have e3 : inner[k.val]? = some (.pointer (some ⟨b, 0, none⟩)) := by
      have := congrArg (fun l => l[0]?) e2
      simp only [List.getElem?_take, List.getElem?_drop] at this
      simpa using this
    have hc := k52_open (k52.K_of_M hk)
    subst hc
    exact ⟨b, e3, fun e => hok.2 (by rw [e]; rfl), hh⟩
  have hB := Classical.axiomOfChoice hex
  obtain ⟨B, hB⟩ := hB
  have hgl : g < w.heap.size := (Array.getElem?_eq_some_iff.1 hb).1
  refine ⟨g, cap, B, rfl, hbase, hgl, h1, fun k => ⟨?_, by simp [World.frozen?, hb]⟩, fun k => (hB k).2.1, fun k => (hB k).2.2⟩
  have hk := (hB k).1
  rw [← h4] at hk
  have hk2 : cur[k.val]? = some (.pointer (some ⟨B k, 0, none⟩)) := by
    rw [List.getElem?_take] at hk
    split at hk
    · rwa [Array.getElem?_toList] at hk
    · cases hk
  rw [Nat.zero_add]
  simp only [World.cell?, hb]
  simpa using hk2
theorem sortM_calls (v : Value) (xs : List S52) (base : Nat) (w : World) (hR : Kd.R (ptrK 138 k52) 126 w base (fun _ => True) v xs) (hl : xs.length ≤ 10000000000) :
    Calls Try.prog 74 #[.iface 94 v] w fun e w' => e = .returned (.tuple #[]) ∧ (∃ A c, v = .slice A (srtM xs).length c ∧ (srtM xs).length ≤ c ∧ Kd.C (ptrK 138 k52) w' A (srtM xs).length (srtM xs)) ∧ Below base w w' := by
  by_cases h2 : 2 ≤ xs.length
  · obtain ⟨g, c, B, rfl, hbase, hg, hc, hP⟩ := ptr_row hR h2
    haveI : Inhabited (Fin xs.length) := ⟨⟨0, by omega⟩⟩
    have hsz : (List.finRange xs.length).toArray.size = xs.length := by simp
    have hM := hP.lessM hg hl c
    have hL := m_Len (some ⟨g, 0, none⟩) xs.length c w
    have hS := m_SwapM (B := B) (g := g) c hl
    have hH := hP.holds0
    have hcall := Try.sort_Sort_sorted 94 (.slice (some ⟨g, 0, none⟩) xs.length c) 161 162 164 (m_len_reached _ _ _) (m_less_reached _ _ _) (m_swap_reached _ _ _) (encB B) (ltF xs) (swoF xs) g 0 (List.finRange xs.length).toArray (by rw [hsz]; exact h2) (by rw [hsz]; omega) w (by rw [hsz]; exact hL) (by rw [hsz]; exact hM) (by rw [hsz]; exact hS) hH hg
    refine hcall.mono ?_
    rintro e w' ⟨rfl, d', n, os, hp, hs, rfl⟩
    have hd := sorted_isM xs d' hp hs
    have hsd : d'.size = xs.length := by have := hp.1; rw [hsz] at this; exact this
    have hH2 := holds_sortWorld (encB B) w g 0 n (List.finRange xs.length).toArray d' os hg hH (by rw [hsz]; exact hsd)
    have hC := hP.reads hg hl n os d' hsd hH2
    rw [hd] at hC
    refine ⟨rfl, ⟨_, c, by rw [srtM_len], by rw [srtM_len]; exact hc, hC⟩, ?_⟩
    exact (Below.refl base w).grown (grownBy_any d') (by omega) (fun k hk => by injection hk with e; omega)
  · obtain ⟨A, c, ev, hc, hC⟩ := Kd.R_reads hR
    subst ev
    refine (Try.sort_Sort_tiny (α := List UInt8) 94 _ 161 (m_len_reached _ _ _) xs.length (by omega) w (m_Len _ _ _ _)).mono ?_
    rintro e w' ⟨rfl, q, rfl⟩
    have e : srtM xs = xs := by
      match xs, h2 with
      | [], _ => simp [srtM]
      | [a], _ => simp [srtM]
      | a :: b :: l, h => exact absurd (show 2 ≤ (a :: b :: l).length by simp) h
    rw [e]
    exact ⟨rfl, ⟨A, c, rfl, hc, Kd.C_drewN hC _⟩, pw_below_drewN (Below.refl _ _) _⟩
set_option maxRecDepth 100000 in
set_option maxHeartbeats 1000000 in
theorem outerM_calls (g : Nat) (k : Int) (n x : ByteArray) (w : World) (h : w.heap[g]? = some (.cells #[.int .i64 k, .string n, .string x] 138 (0, 0))) :
    Calls Try.prog 91 #[.pointer (some ⟨g, 0, none⟩)] w fun e w' => e = .returned (.agg #[.int .i64 k, .string n, .string x]) ∧ Below w.heap.size w w' := by
  have hu := Try.underlying52
  have hup := Try.underlying138
  have hlt : g < w.heap.size := (Array.getElem?_eq_some_iff.1 h).1
  have c0 : w.cell? ⟨g, 0, none⟩ = some (.int .i64 k) := Lib.cell_of_heap h 0
  have c1 : w.cell? ⟨g, 1, none⟩ = some (.string n) := Lib.cell_of_heap h 1
  have c2 : w.cell? ⟨g, 2, none⟩ = some (.string x) := Lib.cell_of_heap h 2
  go_enter Try.func91, Try.ntmps91
  go_wp2
  go_region_held3 (fun w' => w'.cell? ⟨g, 0, none⟩ = some (.int .i64 k) ∧ w'.cell? ⟨g, 1, none⟩ = some (.string n) ∧ w'.cell? ⟨g, 2, none⟩ = some (.string x)) (first | go_keep) (first | fail)
  go_wp2
  exact bodyPost_ret (v := .agg #[.int .i64 k, .string n, .string x]) (by simp [results, Try.results91, go_sem]) rfl ⟨rfl, by repeat (first | exact Below.refl _ _ | apply below_alloc | apply below_drew | apply pw_below_drewN)⟩
theorem infoMQ : (Try.prog.info? 52).map (fun i => (i.zero, i.size, i.bytes)) = some (some (.agg #[.int .i64 0, .string ⟨#[]⟩, .string ⟨#[]⟩]), 3, 40) := by kernel_rfl
set_option maxRecDepth 100000 in
set_option maxHeartbeats 2000000 in
theorem outers_calls (A0 : Option Addr) (c0 : Nat) (l0 : List S52) (w : World) (hr0 : Kd.C (ptrK 138 k52) w A0 l0.length l0) (hlen : l0.length ≤ 1000000000) :
    Calls Try.prog 75 #[.slice A0 l0.length c0] w fun e w' => ∃ v, e = .returned v ∧ Kd.R k52 52 w' w.heap.size (fun _ => True) v l0 ∧ Below w.heap.size w w' := by
  have hu := Try.underlying52
  have HR0 := Aside0.mk hr0
  clear hr0
  have HB := Aside0.mk (Below.refl w.heap.size w)
  go_enter Try.func75, Try.ntmps75
  go_wp2
  go_loopw [3, 8] (fun v3 v8 w' => ∃ x : Int, 0 ≤ x ∧ x ≤ (l0.length : Int) ∧ v8 = .int .i64 x ∧ Aside0 (Kd.R k52 52 w' w.heap.size (fun _ => True) v3 (l0.take x.toNat)) ∧ Aside0 (Below w.heap.size w w')) (fun _ v8 _ => ((l0.length : Int) - RowKit.intOf v8).toNat)
  case atStart => exact ⟨0, by omega, by omega, rfl, ⟨by simpa using Kd.R_nil _ _ _ _ _⟩, HB⟩
  case round =>
    obtain ⟨x, hx, hxl, rfl, HO, HB⟩ := hrel
    by_cases hlt : x < (l0.length : Int)
    · obtain ⟨ad, b, c, e1, hp0, hb0, hk0⟩ := at_ptr (Kd.C_below HR0.out HB.out) z52 x hx hlt
      cases e1
      have hc := k52_open hk0
      subst hc
      have HBB : Aside0 (_ = _) := ⟨hb0⟩
      have hst := Aside0.mk (take_step52 l0 x hx hlt)
      have hrd : (l0.getD x.toNat z52) = rd_T52 l0 x := rfl
      rw [hrd] at hb0
      have HB0 := Aside0.mk hb0
      clear hb0 hk0 HBB hrd
      generalize rd_T52 l0 x = m at *
      have hp := eq_true hx
      have hq := eq_true hlt
      go_wp2_with fail
      refine (outerM_calls b m.f0 m.f1 m.f2 _ HB0.out).mono ?_
      rintro e w1 ⟨rfl, hb1⟩
      have HO1 := Aside0.mk (Kd.R_below HO.out hb1)
      have HB1 := Aside0.mk (HB.out.trans (hb1.mono HB.out.size))
      clear HO HB hb1
      go_wp2_with (at_builtin; refine Kd.R_append k52 (w0 := w) w.heap.size rfl (.tmp 12) (.tmp 15) 47 52 (.agg #[.int .i64 0, .string ⟨#[]⟩, .string ⟨#[]⟩]) 40 rfl Try.underlying47 infoMQ rfl (by decide) (by omega) u3 (l0.take x.toNat) m [.int .i64 m.f0, .string m.f1, .string m.f2] (fun _ => True) (fun _ => False) rfl (by first | (go_simp; done) | (go_simp; rfl)) (k52_mkM _ _ _ m) (fun _ hk => hk.elim) (fun _ _ => trivial) HO1.out HB1.out ?aS ?aL ?_; (case aS => exact HB1.out.size); (case aL => rw [List.length_take]; omega); intro v1 w6 ho hb hg6 hat6; have HO6 := Aside0.mk ho; have HB6 := Aside0.mk hb; clear ho hb hg6 hat6)
      go_roundw
      case rel => exact ⟨x + 1, by omega, by omega, rfl, ⟨by rw [hst.out]; exact HO6.out⟩, HB6⟩
      case measure => simp [RowKit.intOf]; omega
    · have hxe : x = (l0.length : Int) := by omega
      subst hxe
      go_wp2
      go_ret
      exact ⟨_, rfl, by simpa using HO.out, HB.out⟩
def impl_Sorted.f (l0 : List (S52)) : Option (List (S52)) := if l0.length ≤ 10000000 then some (srtM l0) else none
set_option maxRecDepth 100000 in
set_option maxHeartbeats 1000000 in
theorem impl_Sorted.calls (A0 : Option Addr) (c0 : Nat) (l0 : List (S52)) (r : List (S52)) (w : World) (hr0 : Kd.C k52 w A0 l0.length l0) (hc0 : l0.length ≤ c0) (h : impl_Sorted.f l0 = some r) :
    Calls Try.prog 44 #[.slice A0 l0.length c0] w fun e w' => ∃ v0_ : Value, e = .returned (v0_) ∧ Kd.R k52 52 w' w.heap.size (fun _ => True) v0_ r ∧ Below w.heap.size w w' := by
  unfold impl_Sorted.f at h
  split at h
  case isFalse => cases h
  rename_i hlen
  obtain rfl := Option.some.inj h
  clear h
  go_enter Try.func44, Try.ntmps44
  go_wp2_with fail
  refine (inners_calls _ _ _ _ hr0 hc0 (by omega)).mono ?_
  rintro e w1 ⟨v, rfl, hv, hb⟩
  have HV := Aside0.mk hv
  have HB := Aside0.mk hb
  clear hv hb hr0
  go_wp2_with fail
  refine (sortM_calls v l0 w.heap.size _ HV.out (by omega)).mono ?_
  rintro e w2 ⟨rfl, ⟨A, c, rfl, hc, hC⟩, hb⟩
  have HC := Aside0.mk hC
  have HB2 := Aside0.mk (HB.out.trans hb)
  clear hC hb HV HB
  go_wp2_with fail
  refine (outers_calls _ _ _ _ HC.out (by rw [srtM_len]; omega)).mono ?_
  rintro e w3 ⟨v3, rfl, hR, hb⟩
  have HB3 := Aside0.mk (below_step HB2.out hb)
  have HR := Aside0.mk (Kd.R_lower hR HB2.out.size)
  clear hR hb
  go_wp2
  go_ret
  exact ⟨_, rfl, HR.out, HB3.out⟩
end Go.Proofs.Ytikhlolhodgegaa.Q
