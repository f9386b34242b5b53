/- Sorting a row of strings of the call's own: what sort.Strings does to it. No condition beyond the length named. -/
import Derived.Test.YtikhlolhodgegaaHKinds
import Derived.Test.YtikhlolhodgegaaHSSort
import Derived.Sort.OwnSorted
import Derived.Sort.KeysCollected
set_option linter.unusedVariables false
set_option linter.unusedSimpArgs false
namespace Go.Proofs.Ytikhlolhodgegaa.Q
open Go.RowKit Go.Sort Go.Proofs.YtikhlolhodgegaaW.PrintWords Go.Proofs.YtikhlolhodgegaaW.PrintLast Go.Proofs.YtikhlolhodgegaaW.PrintMore
open Go.Proofs (encStr)
def byB (l : List UInt8) : ByteArray := ⟨l.toArray⟩
/-- The strings in ascending order. -/
def srtL (l : List (List UInt8)) : List (List UInt8) := l.mergeSort (fun x y => decide (x ≤ y))
def srt (l : List (List UInt8)) : List ByteArray := (srtL l).map byB
theorem encs_byB (l : List (List UInt8)) : encs Value.string (l.map byB) = l.map encStr := by
  unfold encs
  rw [List.map_map]
  rfl
theorem sort_calls (v : Value) (ss : List (List UInt8)) (base : Nat) (w : World) (hR : Kd.R Kd.string 9 w base (fun _ => True) v (ss.map byB)) (hl : ss.length ≤ 10000000000) :
    Calls Try.prog 84 #[v] w fun e w' => e = .returned (.tuple #[]) ∧ Kd.R Kd.string 9 w' base (fun _ => True) v (srt ss) ∧ w.grownBy w' v.ownBlock := by
  have ho := Kd.own_of_R hR
  rw [encs_byB, List.length_map] at ho
  rcases ho.2 with ⟨rfl, hn⟩ | ⟨g, cap, cur, rfl, hbase, hb, h1, h2, h3, h4⟩
  · obtain rfl : ss = [] := List.eq_nil_of_length_eq_zero hn
    refine (Try.sort_Strings_none none 0 w).mono ?_
    rintro e w' ⟨rfl, rfl⟩
    have e0 : srt [] = [] := by simp [srt, srtL]
    exact ⟨rfl, by rw [e0]; exact hR, World.grownBy.refl _ _⟩
  · have hH : Holds encStr w g 0 ss.toArray := holds_of_block hb (by simpa using h4)
    have hgl : g < w.heap.size := (Array.getElem?_eq_some_iff.1 hb).1
    refine (Try.sort_Strings g 0 cap ss w hH hgl (by omega)).mono ?_
    rintro e w' ⟨rfl, n, os, rfl⟩
    have hlen : (srtL ss).length = ss.length := by simp [srtL]
    have hs := ownsRow_sorted (n := n) (os := os) (ss := ss) (ts := srtL ss) hlen hbase hb h1 h2 h3
    refine ⟨rfl, ?_, grownBy_sorted _⟩
    refine Kd.R_of_own ?_ (fun _ _ => trivial)
    unfold srt
    rw [encs_byB, List.length_map, hlen]
    exact hs
end Go.Proofs.Ytikhlolhodgegaa.Q
