/- What []byte(s) lays and string(b) reads. No condition. -/
import Derived.Test.YtkbaihcamimnjaaDoorHErr
import Derived.Deep.RegionWith
set_option linter.unusedVariables false
set_option linter.unusedSimpArgs false
namespace Go.Proofs.YtkbaihcamimnjaaDoor.Q
open Go.RowKit Go.Proofs.YtkbaihcamimnjaaDoorW.PrintWords Go.Proofs.YtkbaihcamimnjaaDoorW.PrintLast Go.Proofs.YtkbaihcamimnjaaDoorW.PrintMore
def BytesAt (w : World) (g : Nat) (s : ByteArray) : Prop := ∀ j (hj : j < s.data.toList.length), w.cell? ((⟨g, 0, none⟩ : Addr).add j) = some (.int .u8 (s.data.toList[j].toNat : Int))
theorem bytes_at (w : World) (s : ByteArray) (c t : Nat) (fr : Nat × Nat) : BytesAt (w.alloc (.cells (bytesRow s c) t fr)) w.heap.size s := by
  intro j hj
  have hj' : j < s.data.size := by simpa using hj
  have e : (⟨w.heap.size, 0, none⟩ : Addr).add j = ⟨w.heap.size, j, none⟩ := by unfold Addr.add; split <;> simp_all
  rw [e, World.cell?_alloc_mark, bytesRow_at s c j hj']
  simp
theorem size_len (x : ByteArray) : x.size = x.data.toList.length := Array.length_toList.symm
theorem size_cat (x y : ByteArray) : x.size + 1 + y.size = (x ++ ⟨#[58]⟩ ++ y).data.toList.length := by
  rw [← size_len, ByteArray.size_append, ByteArray.size_append]; rfl
def BytesV (w : World) (v : Value) (s : ByteArray) : Prop := ∃ g c n, v = .slice (some ⟨g, 0, none⟩) n c ∧ n = s.data.toList.length ∧ BytesAt w g s
end Go.Proofs.YtkbaihcamimnjaaDoor.Q
