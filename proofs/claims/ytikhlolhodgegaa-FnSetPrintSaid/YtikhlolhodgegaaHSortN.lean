/- sort.Sort of names of labels: what it does to a row of the call's own. No condition beyond the length named. -/
import Derived.Test.YtikhlolhodgegaaHSet2
import Derived.Test.YtikhlolhodgegaaHSSortI
import Derived.Deep.QuietTactic
import Derived.RegionTactic
set_option linter.unusedVariables false
set_option linter.unusedSimpArgs false
namespace Go.Proofs.Ytikhlolhodgegaa.Q
open Go.RowKit Go.Sort Go.Proofs.YtikhlolhodgegaaW.PrintWords Go.Proofs.YtikhlolhodgegaaW.PrintLast Go.Proofs.YtikhlolhodgegaaW.PrintMore
open Go.Proofs (encStr)
def ltS (x y : List UInt8) : Bool := decide (x < y)
theorem swoS : SWO ltS := ⟨fun x => by simp [ltS, List.lt_irrefl], fun x y z h1 h2 => by simp only [ltS, decide_eq_true_eq] at *; exact List.lt_trans h1 h2, fun x y z h1 h2 => by
  simp only [ltS, decide_eq_false_iff_not] at *
  exact List.not_lt.2 (List.le_trans (List.not_lt.1 h2) (List.not_lt.1 h1))⟩
theorem n_len_reached (p : Option Addr) (n c : Nat) : Reaches Try.prog 112 (.slice p n c) "Len" 168 := ⟨fun _ => by kernel_rfl, enters_of Try.func168 (by kernel_rfl) rfl⟩
theorem n_less_reached (p : Option Addr) (n c : Nat) : Reaches Try.prog 112 (.slice p n c) "Less" 169 := ⟨fun _ => by kernel_rfl, enters_of Try.func169 (by kernel_rfl) rfl⟩
theorem n_swap_reached (p : Option Addr) (n c : Nat) : Reaches Try.prog 112 (.slice p n c) "Swap" 171 := ⟨fun _ => by kernel_rfl, enters_of Try.func171 (by kernel_rfl) rfl⟩
set_option maxHeartbeats 2000000 in
theorem n_Len (p : Option Addr) (n c : Nat) (W : World) : LenM Try.prog 168 (.slice p n c) n W := by
  unfold LenM
  go_enter Try.func168, Try.ntmps168
  go_wp2
  go_ret
  exact ⟨rfl, 0, rfl⟩
set_option maxHeartbeats 2000000 in
theorem n_Less (blk off c size : Nat) (W : World) (G : Nat → List UInt8) (hc : ∀ t, t < size → W.cell? ⟨blk, off + t, none⟩ = some (encStr (G t))) (i j : Nat) (hi : i < size) (hj : j < size) (_hsz : size < 4611686018427387904) :
    Calls Try.prog 169 #[.slice (some ⟨blk, off, none⟩) size c, .int .i64 i, .int .i64 j] W fun e w' => e = .returned (.bool (ltS (G i) (G j))) ∧ ∃ q, w' = W.drewN q := by
  have ci := hc i hi
  have cj := hc j hj
  go_enter Try.func169, Try.ntmps169
  go_wp2
  go_quiet (fail)
  go_wp2
  go_ret
  exact ⟨by rw [ltS, ← bless_eqS]; rfl, nq, rfl⟩
set_option maxHeartbeats 2000000 in
theorem n_Swap (blk off c size : Nat) (W : World) (x y : List UInt8) (i j : Nat) (hi : i < size) (hj : j < size) (_hsz : size < 4611686018427387904)
    (ci : W.cell? ⟨blk, off + i, none⟩ = some (encStr x)) (cj : W.cell? ⟨blk, off + j, none⟩ = some (encStr y)) (fi : W.frozen? ⟨blk, off + i, none⟩ = false) (fj : W.frozen? ⟨blk, off + j, none⟩ = false) :
    Calls Try.prog 171 #[.slice (some ⟨blk, off, none⟩) size c, .int .i64 i, .int .i64 j] W fun e w' => e = .returned (.tuple #[]) ∧ ∃ q, w' = ((W.setCell ⟨blk, off + i, none⟩ (encStr y)).setCell ⟨blk, off + j, none⟩ (encStr x)).drewN q := by
  obtain ⟨v', hy'⟩ := cell?_setCell_some (w := W) (p := ⟨blk, off + i, none⟩) (x := encStr y) (q := ⟨blk, off + j, none⟩) cj
  go_enter Try.func171, Try.ntmps171
  go_wp2
  go_region
  all_goals (try go_wp2)
  all_goals go_end0
  all_goals exact ⟨rfl, 1, rfl⟩
theorem n_LessM (blk off c : Nat) (d : Array (List UInt8)) (w : World) (hH : Holds encStr w blk off d) (hblk : blk < w.heap.size) (hsz : d.size < 4611686018427387904) :
    LessM Try.prog 169 (.slice (some ⟨blk, off, none⟩) d.size c) encStr ltS blk off d.size w := fun m os dk hs i j hi hj =>
  n_Less blk off c d.size _ (fun t => dk[t]!) (fun t ht => ((holds_sortWorld encStr w blk off m d dk os hblk hH hs) t (by omega)).1) i j hi hj hsz
theorem n_SwapM (blk off c size : Nat) (hsz : size < 4611686018427387904) : SwapM Try.prog 171 (.slice (some ⟨blk, off, none⟩) size c) encStr blk off size := fun W dk hH hs i j hi hj =>
  n_Swap blk off c size W dk[i]! dk[j]! i j hi hj hsz (hH i (by omega)).1 (hH j (by omega)).1 (hH i (by omega)).2 (hH j (by omega)).2
/-- A sorted rearrangement is the sorted list. -/
theorem sorted_is (ss : List (List UInt8)) (d' : Array (List UInt8)) (hp : PermIn 0 ss.toArray.size ss.toArray d') (hs : SortedIn ltS 0 ss.toArray.size d') : d'.toList = srtL ss := by
  have h1 : d'.size = ss.length := by have := hp.1; simpa using this
  have hperm : d'.toList.Perm ss := by
    have h := hp.2.2
    have e1 : (d'.extract 0 ss.toArray.size) = d' := by
      have : ss.toArray.size = d'.size := by simp [h1]
      rw [this, Array.extract_size]
    rw [e1, Array.extract_size] at h
    simpa using h
  have hsrt : d'.toList.Pairwise (· ≤ ·) := by
    rw [List.pairwise_iff_getElem]
    intro i j hi hj hij
    have hi' : i < d'.size := by simpa using hi
    have hj' : j < d'.size := by simpa using hj
    have := hs i j (Nat.zero_le _) hij (by simp; omega)
    rw [getElem!_pos d' i hi', getElem!_pos d' j hj'] at this
    simp only [ltS, decide_eq_false_iff_not] at this
    simpa using List.not_lt.1 this
  have e : srtL d'.toList = srtL ss := mergeSort_of_perm hperm
  rw [← e]
  unfold srtL
  exact (List.mergeSort_of_pairwise (hsrt.imp (fun h => by simpa using h))).symm
theorem srt_tiny (ss : List (List UInt8)) (h : ss.length ≤ 1) : srt ss = ss.map byB := by
  unfold srt srtL
  rw [List.mergeSort_of_pairwise]
  match ss, h with
  | [], _ => exact List.Pairwise.nil
  | [a], _ => simp
theorem sortN_calls (v : Value) (ss : List (List UInt8)) (base : Nat) (w : World) (hR : Kd.R Kd.string 105 w base (fun _ => True) v (ss.map byB)) (hl : ss.length ≤ 10000000000) :
    Calls Try.prog 74 #[.iface 112 v] w fun e w' => e = .returned (.tuple #[]) ∧ Kd.R Kd.string 105 w' base (fun _ => True) v (srt ss) ∧ w.grownBy w' v.ownBlock := by
  obtain ⟨A, c, ev, hc, _⟩ := Kd.R_reads hR
  rw [List.length_map] at ev hc
  by_cases h2 : 2 ≤ ss.length
  · have ho := Kd.own_of_R hR
    rw [encs_byB, List.length_map] at ho
    rcases ho.2 with ⟨_, hn⟩ | ⟨g, cap, cur, rfl, hbase, hb, h1, h2', h3, h4⟩
    · omega
    · have hH : Holds encStr w g 0 ss.toArray := holds_of_block hb (by simpa using h4)
      have hgl : g < w.heap.size := (Array.getElem?_eq_some_iff.1 hb).1
      have hsz : ss.toArray.size = ss.length := by simp
      have hM := n_LessM g 0 cap ss.toArray w hH hgl (by omega)
      have hL := n_Len (some ⟨g, 0, none⟩) ss.length cap w
      rw [← hsz] at hL
      have hS := n_SwapM g 0 cap ss.toArray.size (by omega)
      have hcall := Try.sort_Sort_sorted 112 (.slice (some ⟨g, 0, none⟩) ss.toArray.size cap) 168 169 171 (n_len_reached _ _ _) (n_less_reached _ _ _) (n_swap_reached _ _ _) encStr ltS swoS g 0 ss.toArray (by omega) (by omega) w hL hM hS hH hgl
      rw [hsz] at hcall
      refine hcall.mono ?_
      rintro e w' ⟨rfl, d', n, os, hp, hs, rfl⟩
      rw [← hsz] at hp hs
      have hd := sorted_is ss d' hp hs
      have hdd : d' = (srtL ss).toArray := by rw [← hd]
      subst hdd
      have hlen : (srtL ss).length = ss.length := by simp [srtL]
      refine ⟨rfl, ?_, grownBy_sorted _⟩
      refine Kd.R_of_own ?_ (fun _ _ => trivial)
      unfold srt
      rw [encs_byB, List.length_map, hlen]
      exact ownsRow_sorted (n := n) (os := os) (ss := ss) (ts := srtL ss) hlen hbase hb h1 h2' h3
  · subst ev
    refine (Try.sort_Sort_tiny (α := List UInt8) 112 _ 168 (n_len_reached _ _ _) ss.length (by omega) w (n_Len _ _ _ _)).mono ?_
    rintro e w' ⟨rfl, q, rfl⟩
    refine ⟨rfl, ?_, drawn_grown ⟨q, rfl⟩ _⟩
    rw [srt_tiny ss (by omega)]
    exact Kd.R_drewN hR _
end Go.Proofs.Ytikhlolhodgegaa.Q
