/-
  No cell of these rows narrows 'for every input' (looked for: loops, veiled, ifaces, maps, wideKeys, modest, calm, conditions, laid).
  DERIVED. THE GIVEN ROWS OF THIS SEAT. 11 by the template 'for every input the law returns true; each argument reads behind the call as it read before'; 0 by the template 'total and deterministic' (their statements: YtikhlolhodgegaaTotals.lean).
  GIVEN WITH THE SEED: the statements are not yours to turn. If you find one false, say at which input.
  Laid BY PROGRAM, IN A SANDBOX (cutbox-rows.mjs): the forced cells as the released guide's own fill.sh prints them over the translation 27794b66d50f8717… (all of the seat's roots in one cut). By AI agents, Wed Nov 11 2026. No macro, syntax, notation, axiom, sorry.
-/
import Derived.Test.YtikhlolhodgegaaChecked
import GoSem.Claim
import GoSem.ClaimJoined
import GoSem.ClaimMapViews
import Derived.JoinedTies
import Derived.KernelRfl
namespace Go.Proofs.Ytikhlolhodgegaa
/- THE CELL 'sum', in the pinned program and in every row, IS THE sha256 OF THE DUMP (.gsa) THAT YtikhlolhodgegaaProg.lean LOADS. Nothing in Lean hashes anything: it is a label: what it is worth is what the hold of that sum in a sandbox is worth. -/
noncomputable def Try.pinned : Pinned := { name := "ytikhlolhodgegaa", sum := "27794b66d50f871774027718cf72a165a78c0f9608d51c0d923d9f6479bb5e40", checked := Try.checked }
namespace Rows
def none {H : Type} : Left H := { results := [], args := [] }

/-- 'laws.FnSetMerge': WHATEVER THE INPUT: true; the input reads as it did. -/
def fnSetMergeSpec : ChangeSpec := { name := "fnSetMerge", fn := fun _ => fun
  | [d1, d2] => { results := [.lit (.bool true)], args := [d1, d2] }
  | _ => none }
def fnSetMergeRow : OpenClaim := { program := "ytikhlolhodgegaa", sum := "27794b66d50f871774027718cf72a165a78c0f9608d51c0d923d9f6479bb5e40", func := "pub-clamour/laws.FnSetMerge", spec := "fnSetMerge", recurses := true, apart := false }
def FnSetMergeSaid : Prop := fnSetMergeRow.holds Try.pinned (OpenSpec.ofChange fnSetMergeSpec)

/-- ITS FALSE NEIGHBOUR: 'it returns false'. Refute it at one input. -/
def fnSetMergeWrong : ChangeSpec := { name := "fnSetMerge", fn := fun _ => fun
  | [d1, d2] => { results := [.lit (.bool false)], args := [d1, d2] }
  | _ => none }
def FnSetMergeWrongFalsely : Prop := fnSetMergeRow.holds Try.pinned (OpenSpec.ofChange fnSetMergeWrong)

/-- 'laws.FnSetMerged': WHATEVER THE INPUT: true; the input reads as it did. -/
def fnSetMergedSpec : ChangeSpec := { name := "fnSetMerged", fn := fun _ => fun
  | [d1, d2] => { results := [.lit (.bool true)], args := [d1, d2] }
  | _ => none }
def fnSetMergedRow : OpenClaim := { program := "ytikhlolhodgegaa", sum := "27794b66d50f871774027718cf72a165a78c0f9608d51c0d923d9f6479bb5e40", func := "pub-clamour/laws.FnSetMerged", spec := "fnSetMerged", recurses := true, apart := false }
def FnSetMergedSaid : Prop := fnSetMergedRow.holds Try.pinned (OpenSpec.ofChange fnSetMergedSpec)

/-- ITS FALSE NEIGHBOUR: 'it returns false'. Refute it at one input. -/
def fnSetMergedWrong : ChangeSpec := { name := "fnSetMerged", fn := fun _ => fun
  | [d1, d2] => { results := [.lit (.bool false)], args := [d1, d2] }
  | _ => none }
def FnSetMergedWrongFalsely : Prop := fnSetMergedRow.holds Try.pinned (OpenSpec.ofChange fnSetMergedWrong)

/-- 'laws.FnSetBefore': WHATEVER THE INPUT: true; the input reads as it did. -/
def fnSetBeforeSpec : ChangeSpec := { name := "fnSetBefore", fn := fun _ => fun
  | [d1, d2] => { results := [.lit (.bool true)], args := [d1, d2] }
  | _ => none }
def fnSetBeforeRow : OpenClaim := { program := "ytikhlolhodgegaa", sum := "27794b66d50f871774027718cf72a165a78c0f9608d51c0d923d9f6479bb5e40", func := "pub-clamour/laws.FnSetBefore", spec := "fnSetBefore", unfollowed := true, recurses := true, apart := false }
def FnSetBeforeSaid : Prop := fnSetBeforeRow.holds Try.pinned (OpenSpec.ofChange fnSetBeforeSpec)

/-- ITS FALSE NEIGHBOUR: 'it returns false'. Refute it at one input. -/
def fnSetBeforeWrong : ChangeSpec := { name := "fnSetBefore", fn := fun _ => fun
  | [d1, d2] => { results := [.lit (.bool false)], args := [d1, d2] }
  | _ => none }
def FnSetBeforeWrongFalsely : Prop := fnSetBeforeRow.holds Try.pinned (OpenSpec.ofChange fnSetBeforeWrong)

/-- 'laws.FnAlertOrder': WHATEVER THE INPUT: true; the input reads as it did. -/
def fnAlertOrderSpec : ChangeSpec := { name := "fnAlertOrder", fn := fun _ => fun
  | [d1, d2, d3] => { results := [.lit (.bool true)], args := [d1, d2, d3] }
  | _ => none }
def fnAlertOrderRow : OpenClaim := { program := "ytikhlolhodgegaa", sum := "27794b66d50f871774027718cf72a165a78c0f9608d51c0d923d9f6479bb5e40", func := "pub-clamour/laws.FnAlertOrder", spec := "fnAlertOrder", unfollowed := true, recurses := true, apart := false }
def FnAlertOrderSaid : Prop := fnAlertOrderRow.holds Try.pinned (OpenSpec.ofChange fnAlertOrderSpec)

/-- ITS FALSE NEIGHBOUR: 'it returns false'. Refute it at one input. -/
def fnAlertOrderWrong : ChangeSpec := { name := "fnAlertOrder", fn := fun _ => fun
  | [d1, d2, d3] => { results := [.lit (.bool false)], args := [d1, d2, d3] }
  | _ => none }
def FnAlertOrderWrongFalsely : Prop := fnAlertOrderRow.holds Try.pinned (OpenSpec.ofChange fnAlertOrderWrong)

/-- 'laws.FnPairsSet': WHATEVER THE INPUT: true; the input reads as it did. -/
def fnPairsSetSpec : ChangeSpec := { name := "fnPairsSet", fn := fun _ => fun
  | [d] => { results := [.lit (.bool true)], args := [d] }
  | _ => none }
def fnPairsSetRow : OpenClaim := { program := "ytikhlolhodgegaa", sum := "27794b66d50f871774027718cf72a165a78c0f9608d51c0d923d9f6479bb5e40", func := "pub-clamour/laws.FnPairsSet", spec := "fnPairsSet", recurses := true, apart := false }
def FnPairsSetSaid : Prop := fnPairsSetRow.holds Try.pinned (OpenSpec.ofChange fnPairsSetSpec)

/-- ITS FALSE NEIGHBOUR: 'it returns false'. Refute it at one input. -/
def fnPairsSetWrong : ChangeSpec := { name := "fnPairsSet", fn := fun _ => fun
  | [d] => { results := [.lit (.bool false)], args := [d] }
  | _ => none }
def FnPairsSetWrongFalsely : Prop := fnPairsSetRow.holds Try.pinned (OpenSpec.ofChange fnPairsSetWrong)

/-- 'laws.FnWithout': WHATEVER THE INPUT: true; the input reads as it did. -/
def fnWithoutSpec : ChangeSpec := { name := "fnWithout", fn := fun _ => fun
  | [d1, d2] => { results := [.lit (.bool true)], args := [d1, d2] }
  | _ => none }
def fnWithoutRow : OpenClaim := { program := "ytikhlolhodgegaa", sum := "27794b66d50f871774027718cf72a165a78c0f9608d51c0d923d9f6479bb5e40", func := "pub-clamour/laws.FnWithout", spec := "fnWithout", recurses := true, apart := false }
def FnWithoutSaid : Prop := fnWithoutRow.holds Try.pinned (OpenSpec.ofChange fnWithoutSpec)

/-- ITS FALSE NEIGHBOUR: 'it returns false'. Refute it at one input. -/
def fnWithoutWrong : ChangeSpec := { name := "fnWithout", fn := fun _ => fun
  | [d1, d2] => { results := [.lit (.bool false)], args := [d1, d2] }
  | _ => none }
def FnWithoutWrongFalsely : Prop := fnWithoutRow.holds Try.pinned (OpenSpec.ofChange fnWithoutWrong)

/-- 'laws.FnNames': WHATEVER THE INPUT: true; the input reads as it did. -/
def fnNamesSpec : ChangeSpec := { name := "fnNames", fn := fun _ => fun
  | [d] => { results := [.lit (.bool true)], args := [d] }
  | _ => none }
def fnNamesRow : OpenClaim := { program := "ytikhlolhodgegaa", sum := "27794b66d50f871774027718cf72a165a78c0f9608d51c0d923d9f6479bb5e40", func := "pub-clamour/laws.FnNames", spec := "fnNames", recurses := true, apart := false }
def FnNamesSaid : Prop := fnNamesRow.holds Try.pinned (OpenSpec.ofChange fnNamesSpec)

/-- ITS FALSE NEIGHBOUR: 'it returns false'. Refute it at one input. -/
def fnNamesWrong : ChangeSpec := { name := "fnNames", fn := fun _ => fun
  | [d] => { results := [.lit (.bool false)], args := [d] }
  | _ => none }
def FnNamesWrongFalsely : Prop := fnNamesRow.holds Try.pinned (OpenSpec.ofChange fnNamesWrong)

/-- 'laws.FnKVText': WHATEVER THE INPUT: true; the input reads as it did. -/
def fnKVTextSpec : ChangeSpec := { name := "fnKVText", fn := fun _ => fun
  | [d] => { results := [.lit (.bool true)], args := [d] }
  | _ => none }
def fnKVTextRow : OpenClaim := { program := "ytikhlolhodgegaa", sum := "27794b66d50f871774027718cf72a165a78c0f9608d51c0d923d9f6479bb5e40", func := "pub-clamour/laws.FnKVText", spec := "fnKVText", inPlace := ["internal/abi.NoEscape"], recurses := true, apart := false }
def FnKVTextSaid : Prop := fnKVTextRow.holds Try.pinned (OpenSpec.ofChange fnKVTextSpec)

/-- ITS FALSE NEIGHBOUR: 'it returns false'. Refute it at one input. -/
def fnKVTextWrong : ChangeSpec := { name := "fnKVText", fn := fun _ => fun
  | [d] => { results := [.lit (.bool false)], args := [d] }
  | _ => none }
def FnKVTextWrongFalsely : Prop := fnKVTextRow.holds Try.pinned (OpenSpec.ofChange fnKVTextWrong)

/-- 'laws.FnSortedSame': WHATEVER THE INPUT: true; the input reads as it did. -/
def fnSortedSameSpec : ChangeSpec := { name := "fnSortedSame", fn := fun _ => fun
  | [d1, d2, d3] => { results := [.lit (.bool true)], args := [d1, d2, d3] }
  | _ => none }
def fnSortedSameRow : OpenClaim := { program := "ytikhlolhodgegaa", sum := "27794b66d50f871774027718cf72a165a78c0f9608d51c0d923d9f6479bb5e40", func := "pub-clamour/laws.FnSortedSame", spec := "fnSortedSame", unfollowed := true, recurses := true, apart := false }
def FnSortedSameSaid : Prop := fnSortedSameRow.holds Try.pinned (OpenSpec.ofChange fnSortedSameSpec)

/-- ITS FALSE NEIGHBOUR: 'it returns false'. Refute it at one input. -/
def fnSortedSameWrong : ChangeSpec := { name := "fnSortedSame", fn := fun _ => fun
  | [d1, d2, d3] => { results := [.lit (.bool false)], args := [d1, d2, d3] }
  | _ => none }
def FnSortedSameWrongFalsely : Prop := fnSortedSameRow.holds Try.pinned (OpenSpec.ofChange fnSortedSameWrong)

/-- 'laws.FnSetPrint': WHATEVER THE INPUT: true; the input reads as it did. -/
def fnSetPrintSpec : ChangeSpec := { name := "fnSetPrint", fn := fun _ => fun
  | [d] => { results := [.lit (.bool true)], args := [d] }
  | _ => none }
def fnSetPrintRow : OpenClaim := { program := "ytikhlolhodgegaa", sum := "27794b66d50f871774027718cf72a165a78c0f9608d51c0d923d9f6479bb5e40", func := "pub-clamour/laws.FnSetPrint", spec := "fnSetPrint", unfollowed := true, recurses := true, apart := false }
def FnSetPrintSaid : Prop := fnSetPrintRow.holds Try.pinned (OpenSpec.ofChange fnSetPrintSpec)

/-- ITS FALSE NEIGHBOUR: 'it returns false'. Refute it at one input. -/
def fnSetPrintWrong : ChangeSpec := { name := "fnSetPrint", fn := fun _ => fun
  | [d] => { results := [.lit (.bool false)], args := [d] }
  | _ => none }
def FnSetPrintWrongFalsely : Prop := fnSetPrintRow.holds Try.pinned (OpenSpec.ofChange fnSetPrintWrong)

/-- 'laws.FnSignatureWithout': WHATEVER THE INPUT: true; the input reads as it did. -/
def fnSignatureWithoutSpec : ChangeSpec := { name := "fnSignatureWithout", fn := fun _ => fun
  | [d1, d2] => { results := [.lit (.bool true)], args := [d1, d2] }
  | _ => none }
def fnSignatureWithoutRow : OpenClaim := { program := "ytikhlolhodgegaa", sum := "27794b66d50f871774027718cf72a165a78c0f9608d51c0d923d9f6479bb5e40", func := "pub-clamour/laws.FnSignatureWithout", spec := "fnSignatureWithout", unfollowed := true, recurses := true, apart := false }
def FnSignatureWithoutSaid : Prop := fnSignatureWithoutRow.holds Try.pinned (OpenSpec.ofChange fnSignatureWithoutSpec)

/-- ITS FALSE NEIGHBOUR: 'it returns false'. Refute it at one input. -/
def fnSignatureWithoutWrong : ChangeSpec := { name := "fnSignatureWithout", fn := fun _ => fun
  | [d1, d2] => { results := [.lit (.bool false)], args := [d1, d2] }
  | _ => none }
def FnSignatureWithoutWrongFalsely : Prop := fnSignatureWithoutRow.holds Try.pinned (OpenSpec.ofChange fnSignatureWithoutWrong)

/- THE SECOND FORM. 'bulk': how many values and letters a reading holds, each counted each time it is reached (what is shared counts as often as it is met; a slice's spare places count too). A statement '..UptoSaid' is the law's where the arguments, and the package variables that the reading takes, are together of bulk at most 1048576: NARROWER than '..Said'. Prove '..Said' where nothing that the law and all that it calls make is longer than what came in: it says more and counts as full. Else prove '..UptoSaid'. A law counts once. -/
mutual
def uptoBulk {H : Type} : DataW H → Nat
  | .lit (.string bytes) => bytes.length + 1
  | .lit _ => 1
  | .nil => 1
  | .ptr d => uptoBulk d + 1
  | .slice elems spare => uptoBulkAll elems + uptoBulkAll spare + 1
  | .agg parts => uptoBulkAll parts + 1
  | .iface _ d => uptoBulk d + 1
  | .map entries => uptoBulkEntries entries + 1
  | .held _ => 1
def uptoBulkAll {H : Type} : List (DataW H) → Nat
  | [] => 0
  | d :: r => uptoBulk d + uptoBulkAll r
def uptoBulkEntries {H : Type} : List (Lit × DataW H) → Nat
  | [] => 0
  | x :: r => uptoBulkEntry x + uptoBulkEntries r
def uptoBulkEntry {H : Type} : Lit × DataW H → Nat
  | (.string bytes, d) => bytes.length + uptoBulk d + 1
  | (_, d) => uptoBulk d + 1
 end
def uptoSmall : (H : Type) → List (DataW H) → Bool := fun _ ds => decide (uptoBulkAll ds ≤ 1048576)
def OpenSpec.upto (s : _root_.Go.ChangeSpec) : _root_.Go.OpenSpec := { _root_.Go.OpenSpec.ofChange s with cond := some uptoSmall }

/-- 'laws.FnSetMerge', WHERE WHAT IT READS IS OF BULK AT MOST 1048576: true; the input reads as it did. -/
def fnSetMergeUptoRow : OpenClaim := { program := "ytikhlolhodgegaa", sum := "27794b66d50f871774027718cf72a165a78c0f9608d51c0d923d9f6479bb5e40", func := "pub-clamour/laws.FnSetMerge", spec := "fnSetMerge", recurses := true, apart := false, narrowed := true }
def FnSetMergeUptoSaid : Prop := fnSetMergeUptoRow.holds Try.pinned (OpenSpec.upto fnSetMergeSpec)

/-- 'laws.FnSetMerged', WHERE WHAT IT READS IS OF BULK AT MOST 1048576: true; the input reads as it did. -/
def fnSetMergedUptoRow : OpenClaim := { program := "ytikhlolhodgegaa", sum := "27794b66d50f871774027718cf72a165a78c0f9608d51c0d923d9f6479bb5e40", func := "pub-clamour/laws.FnSetMerged", spec := "fnSetMerged", recurses := true, apart := false, narrowed := true }
def FnSetMergedUptoSaid : Prop := fnSetMergedUptoRow.holds Try.pinned (OpenSpec.upto fnSetMergedSpec)

/-- 'laws.FnSetBefore', WHERE WHAT IT READS IS OF BULK AT MOST 1048576: true; the input reads as it did. -/
def fnSetBeforeUptoRow : OpenClaim := { program := "ytikhlolhodgegaa", sum := "27794b66d50f871774027718cf72a165a78c0f9608d51c0d923d9f6479bb5e40", func := "pub-clamour/laws.FnSetBefore", spec := "fnSetBefore", unfollowed := true, recurses := true, apart := false, narrowed := true }
def FnSetBeforeUptoSaid : Prop := fnSetBeforeUptoRow.holds Try.pinned (OpenSpec.upto fnSetBeforeSpec)

/-- 'laws.FnAlertOrder', WHERE WHAT IT READS IS OF BULK AT MOST 1048576: true; the input reads as it did. -/
def fnAlertOrderUptoRow : OpenClaim := { program := "ytikhlolhodgegaa", sum := "27794b66d50f871774027718cf72a165a78c0f9608d51c0d923d9f6479bb5e40", func := "pub-clamour/laws.FnAlertOrder", spec := "fnAlertOrder", unfollowed := true, recurses := true, apart := false, narrowed := true }
def FnAlertOrderUptoSaid : Prop := fnAlertOrderUptoRow.holds Try.pinned (OpenSpec.upto fnAlertOrderSpec)

/-- 'laws.FnPairsSet', WHERE WHAT IT READS IS OF BULK AT MOST 1048576: true; the input reads as it did. -/
def fnPairsSetUptoRow : OpenClaim := { program := "ytikhlolhodgegaa", sum := "27794b66d50f871774027718cf72a165a78c0f9608d51c0d923d9f6479bb5e40", func := "pub-clamour/laws.FnPairsSet", spec := "fnPairsSet", recurses := true, apart := false, narrowed := true }
def FnPairsSetUptoSaid : Prop := fnPairsSetUptoRow.holds Try.pinned (OpenSpec.upto fnPairsSetSpec)

/-- 'laws.FnWithout', WHERE WHAT IT READS IS OF BULK AT MOST 1048576: true; the input reads as it did. -/
def fnWithoutUptoRow : OpenClaim := { program := "ytikhlolhodgegaa", sum := "27794b66d50f871774027718cf72a165a78c0f9608d51c0d923d9f6479bb5e40", func := "pub-clamour/laws.FnWithout", spec := "fnWithout", recurses := true, apart := false, narrowed := true }
def FnWithoutUptoSaid : Prop := fnWithoutUptoRow.holds Try.pinned (OpenSpec.upto fnWithoutSpec)

/-- 'laws.FnNames', WHERE WHAT IT READS IS OF BULK AT MOST 1048576: true; the input reads as it did. -/
def fnNamesUptoRow : OpenClaim := { program := "ytikhlolhodgegaa", sum := "27794b66d50f871774027718cf72a165a78c0f9608d51c0d923d9f6479bb5e40", func := "pub-clamour/laws.FnNames", spec := "fnNames", recurses := true, apart := false, narrowed := true }
def FnNamesUptoSaid : Prop := fnNamesUptoRow.holds Try.pinned (OpenSpec.upto fnNamesSpec)

/-- 'laws.FnKVText', WHERE WHAT IT READS IS OF BULK AT MOST 1048576: true; the input reads as it did. -/
def fnKVTextUptoRow : OpenClaim := { program := "ytikhlolhodgegaa", sum := "27794b66d50f871774027718cf72a165a78c0f9608d51c0d923d9f6479bb5e40", func := "pub-clamour/laws.FnKVText", spec := "fnKVText", inPlace := ["internal/abi.NoEscape"], recurses := true, apart := false, narrowed := true }
def FnKVTextUptoSaid : Prop := fnKVTextUptoRow.holds Try.pinned (OpenSpec.upto fnKVTextSpec)

/-- 'laws.FnSortedSame', WHERE WHAT IT READS IS OF BULK AT MOST 1048576: true; the input reads as it did. -/
def fnSortedSameUptoRow : OpenClaim := { program := "ytikhlolhodgegaa", sum := "27794b66d50f871774027718cf72a165a78c0f9608d51c0d923d9f6479bb5e40", func := "pub-clamour/laws.FnSortedSame", spec := "fnSortedSame", unfollowed := true, recurses := true, apart := false, narrowed := true }
def FnSortedSameUptoSaid : Prop := fnSortedSameUptoRow.holds Try.pinned (OpenSpec.upto fnSortedSameSpec)

/-- 'laws.FnSetPrint', WHERE WHAT IT READS IS OF BULK AT MOST 1048576: true; the input reads as it did. -/
def fnSetPrintUptoRow : OpenClaim := { program := "ytikhlolhodgegaa", sum := "27794b66d50f871774027718cf72a165a78c0f9608d51c0d923d9f6479bb5e40", func := "pub-clamour/laws.FnSetPrint", spec := "fnSetPrint", unfollowed := true, recurses := true, apart := false, narrowed := true }
def FnSetPrintUptoSaid : Prop := fnSetPrintUptoRow.holds Try.pinned (OpenSpec.upto fnSetPrintSpec)

/-- 'laws.FnSignatureWithout', WHERE WHAT IT READS IS OF BULK AT MOST 1048576: true; the input reads as it did. -/
def fnSignatureWithoutUptoRow : OpenClaim := { program := "ytikhlolhodgegaa", sum := "27794b66d50f871774027718cf72a165a78c0f9608d51c0d923d9f6479bb5e40", func := "pub-clamour/laws.FnSignatureWithout", spec := "fnSignatureWithout", unfollowed := true, recurses := true, apart := false, narrowed := true }
def FnSignatureWithoutUptoSaid : Prop := fnSignatureWithoutUptoRow.holds Try.pinned (OpenSpec.upto fnSignatureWithoutSpec)

end Rows
end Go.Proofs.Ytikhlolhodgegaa
