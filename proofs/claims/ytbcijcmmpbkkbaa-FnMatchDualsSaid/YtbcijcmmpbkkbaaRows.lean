/-
  No cell of these rows narrows 'for every input' (looked for: loops, veiled, ifaces, maps, wideKeys, modest, calm, conditions, laid).
  DERIVED. THE GIVEN ROWS OF THIS SEAT. 10 by the template 'for every input the law returns true; each argument reads behind the call as it read before'; 0 by the template 'total and deterministic' (their statements: YtbcijcmmpbkkbaaTotals.lean).
  GIVEN WITH THE SEED: the statements are not yours to turn. If you find one false, say at which input.
  Laid BY PROGRAM, IN A SANDBOX (cutbox-rows.mjs): the forced cells as the released guide's own fill.sh prints them over the translation e96a3ab36226e3a0… (all of the seat's roots in one cut). By AI agents, Wed Nov 11 2026. No macro, syntax, notation, axiom, sorry.
-/
import Derived.Test.YtbcijcmmpbkkbaaChecked
import GoSem.Claim
import GoSem.ClaimJoined
import GoSem.ClaimMapViews
import Derived.JoinedTies
import Derived.KernelRfl
namespace Go.Proofs.Ytbcijcmmpbkkbaa
/- THE CELL 'sum', in the pinned program and in every row, IS THE sha256 OF THE DUMP (.gsa) THAT YtbcijcmmpbkkbaaProg.lean LOADS. Nothing in Lean hashes anything: it is a label: what it is worth is what the hold of that sum in a sandbox is worth. -/
noncomputable def Try.pinned : Pinned := { name := "ytbcijcmmpbkkbaa", sum := "e96a3ab36226e3a0127c4468070b8c78edd9023ab4a66fb2563781c6ef374a3e", checked := Try.checked }
namespace Rows
def none {H : Type} : Left H := { results := [], args := [] }

/-- 'laws.FnPairBefore': WHATEVER THE INPUT: true; the input reads as it did. -/
def fnPairBeforeSpec : ChangeSpec := { name := "fnPairBefore", fn := fun _ => fun
  | [d1, d2, d3] => { results := [.lit (.bool true)], args := [d1, d2, d3] }
  | _ => none }
def fnPairBeforeRow : OpenClaim := { program := "ytbcijcmmpbkkbaa", sum := "e96a3ab36226e3a0127c4468070b8c78edd9023ab4a66fb2563781c6ef374a3e", func := "pub-clamour/laws.FnPairBefore", spec := "fnPairBefore", apart := false }
def FnPairBeforeSaid : Prop := fnPairBeforeRow.holds Try.pinned (OpenSpec.ofChange fnPairBeforeSpec)

/-- ITS FALSE NEIGHBOUR: 'it returns false'. Refute it at one input. -/
def fnPairBeforeWrong : ChangeSpec := { name := "fnPairBefore", fn := fun _ => fun
  | [d1, d2, d3] => { results := [.lit (.bool false)], args := [d1, d2, d3] }
  | _ => none }
def FnPairBeforeWrongFalsely : Prop := fnPairBeforeRow.holds Try.pinned (OpenSpec.ofChange fnPairBeforeWrong)

/-- 'laws.FnMatchValue': WHATEVER THE INPUT: true; the input reads as it did. -/
def fnMatchValueSpec : ChangeSpec := { name := "fnMatchValue", fn := fun _ => fun
  | [d1, d2] => { results := [.lit (.bool true)], args := [d1, d2] }
  | _ => none }
def fnMatchValueRow : OpenClaim := { program := "ytbcijcmmpbkkbaa", sum := "e96a3ab36226e3a0127c4468070b8c78edd9023ab4a66fb2563781c6ef374a3e", func := "pub-clamour/laws.FnMatchValue", spec := "fnMatchValue", apart := false }
def FnMatchValueSaid : Prop := fnMatchValueRow.holds Try.pinned (OpenSpec.ofChange fnMatchValueSpec)

/-- ITS FALSE NEIGHBOUR: 'it returns false'. Refute it at one input. -/
def fnMatchValueWrong : ChangeSpec := { name := "fnMatchValue", fn := fun _ => fun
  | [d1, d2] => { results := [.lit (.bool false)], args := [d1, d2] }
  | _ => none }
def FnMatchValueWrongFalsely : Prop := fnMatchValueRow.holds Try.pinned (OpenSpec.ofChange fnMatchValueWrong)

/-- 'laws.FnLegacy': WHATEVER THE INPUT: true; the input reads as it did. -/
def fnLegacySpec : ChangeSpec := { name := "fnLegacy", fn := fun _ => fun
  | [d] => { results := [.lit (.bool true)], args := [d] }
  | _ => none }
def fnLegacyRow : OpenClaim := { program := "ytbcijcmmpbkkbaa", sum := "e96a3ab36226e3a0127c4468070b8c78edd9023ab4a66fb2563781c6ef374a3e", func := "pub-clamour/laws.FnLegacy", spec := "fnLegacy", apart := false }
def FnLegacySaid : Prop := fnLegacyRow.holds Try.pinned (OpenSpec.ofChange fnLegacySpec)

/-- ITS FALSE NEIGHBOUR: 'it returns false'. Refute it at one input. -/
def fnLegacyWrong : ChangeSpec := { name := "fnLegacy", fn := fun _ => fun
  | [d] => { results := [.lit (.bool false)], args := [d] }
  | _ => none }
def FnLegacyWrongFalsely : Prop := fnLegacyRow.holds Try.pinned (OpenSpec.ofChange fnLegacyWrong)

/-- 'laws.FnWeekdayNone': WHATEVER THE INPUT: true; the input reads as it did. -/
def fnWeekdayNoneSpec : ChangeSpec := { name := "fnWeekdayNone", fn := fun _ => fun
  | [d1, d2] => { results := [.lit (.bool true)], args := [d1, d2] }
  | _ => none }
def fnWeekdayNoneRow : OpenClaim := { program := "ytbcijcmmpbkkbaa", sum := "e96a3ab36226e3a0127c4468070b8c78edd9023ab4a66fb2563781c6ef374a3e", func := "pub-clamour/laws.FnWeekdayNone", spec := "fnWeekdayNone", apart := false }
def FnWeekdayNoneSaid : Prop := fnWeekdayNoneRow.holds Try.pinned (OpenSpec.ofChange fnWeekdayNoneSpec)

/-- ITS FALSE NEIGHBOUR: 'it returns false'. Refute it at one input. -/
def fnWeekdayNoneWrong : ChangeSpec := { name := "fnWeekdayNone", fn := fun _ => fun
  | [d1, d2] => { results := [.lit (.bool false)], args := [d1, d2] }
  | _ => none }
def FnWeekdayNoneWrongFalsely : Prop := fnWeekdayNoneRow.holds Try.pinned (OpenSpec.ofChange fnWeekdayNoneWrong)

/-- 'laws.FnOrder': WHATEVER THE INPUT: true; the input reads as it did. -/
def fnOrderSpec : ChangeSpec := { name := "fnOrder", fn := fun _ => fun
  | [d1, d2, d3] => { results := [.lit (.bool true)], args := [d1, d2, d3] }
  | _ => none }
def fnOrderRow : OpenClaim := { program := "ytbcijcmmpbkkbaa", sum := "e96a3ab36226e3a0127c4468070b8c78edd9023ab4a66fb2563781c6ef374a3e", func := "pub-clamour/laws.FnOrder", spec := "fnOrder", apart := false }
def FnOrderSaid : Prop := fnOrderRow.holds Try.pinned (OpenSpec.ofChange fnOrderSpec)

/-- ITS FALSE NEIGHBOUR: 'it returns false'. Refute it at one input. -/
def fnOrderWrong : ChangeSpec := { name := "fnOrder", fn := fun _ => fun
  | [d1, d2, d3] => { results := [.lit (.bool false)], args := [d1, d2, d3] }
  | _ => none }
def FnOrderWrongFalsely : Prop := fnOrderRow.holds Try.pinned (OpenSpec.ofChange fnOrderWrong)

/-- 'laws.FnSchemes': WHATEVER THE INPUT: true; the input reads as it did. -/
def fnSchemesSpec : ChangeSpec := { name := "fnSchemes", fn := fun _ => fun
  | [d] => { results := [.lit (.bool true)], args := [d] }
  | _ => none }
def fnSchemesRow : OpenClaim := { program := "ytbcijcmmpbkkbaa", sum := "e96a3ab36226e3a0127c4468070b8c78edd9023ab4a66fb2563781c6ef374a3e", func := "pub-clamour/laws.FnSchemes", spec := "fnSchemes", apart := false }
def FnSchemesSaid : Prop := fnSchemesRow.holds Try.pinned (OpenSpec.ofChange fnSchemesSpec)

/-- ITS FALSE NEIGHBOUR: 'it returns false'. Refute it at one input. -/
def fnSchemesWrong : ChangeSpec := { name := "fnSchemes", fn := fun _ => fun
  | [d] => { results := [.lit (.bool false)], args := [d] }
  | _ => none }
def FnSchemesWrongFalsely : Prop := fnSchemesRow.holds Try.pinned (OpenSpec.ofChange fnSchemesWrong)

/-- 'laws.FnFastPrintSays': WHATEVER THE INPUT: true; the input reads as it did. -/
def fnFastPrintSaysSpec : ChangeSpec := { name := "fnFastPrintSays", fn := fun _ => fun
  | [d] => { results := [.lit (.bool true)], args := [d] }
  | _ => none }
def fnFastPrintSaysRow : OpenClaim := { program := "ytbcijcmmpbkkbaa", sum := "e96a3ab36226e3a0127c4468070b8c78edd9023ab4a66fb2563781c6ef374a3e", func := "pub-clamour/laws.FnFastPrintSays", spec := "fnFastPrintSays", apart := false }
def FnFastPrintSaysSaid : Prop := fnFastPrintSaysRow.holds Try.pinned (OpenSpec.ofChange fnFastPrintSaysSpec)

/-- ITS FALSE NEIGHBOUR: 'it returns false'. Refute it at one input. -/
def fnFastPrintSaysWrong : ChangeSpec := { name := "fnFastPrintSays", fn := fun _ => fun
  | [d] => { results := [.lit (.bool false)], args := [d] }
  | _ => none }
def FnFastPrintSaysWrongFalsely : Prop := fnFastPrintSaysRow.holds Try.pinned (OpenSpec.ofChange fnFastPrintSaysWrong)

/-- 'laws.FnMatchEach': WHATEVER THE INPUT: true; the input reads as it did. -/
def fnMatchEachSpec : ChangeSpec := { name := "fnMatchEach", fn := fun _ => fun
  | [d1, d2] => { results := [.lit (.bool true)], args := [d1, d2] }
  | _ => none }
def fnMatchEachRow : OpenClaim := { program := "ytbcijcmmpbkkbaa", sum := "e96a3ab36226e3a0127c4468070b8c78edd9023ab4a66fb2563781c6ef374a3e", func := "pub-clamour/laws.FnMatchEach", spec := "fnMatchEach", apart := false }
def FnMatchEachSaid : Prop := fnMatchEachRow.holds Try.pinned (OpenSpec.ofChange fnMatchEachSpec)

/-- ITS FALSE NEIGHBOUR: 'it returns false'. Refute it at one input. -/
def fnMatchEachWrong : ChangeSpec := { name := "fnMatchEach", fn := fun _ => fun
  | [d1, d2] => { results := [.lit (.bool false)], args := [d1, d2] }
  | _ => none }
def FnMatchEachWrongFalsely : Prop := fnMatchEachRow.holds Try.pinned (OpenSpec.ofChange fnMatchEachWrong)

/-- 'laws.FnMatchDuals': WHATEVER THE INPUT: true; the input reads as it did. -/
def fnMatchDualsSpec : ChangeSpec := { name := "fnMatchDuals", fn := fun _ => fun
  | [d1, d2, d3] => { results := [.lit (.bool true)], args := [d1, d2, d3] }
  | _ => none }
def fnMatchDualsRow : OpenClaim := { program := "ytbcijcmmpbkkbaa", sum := "e96a3ab36226e3a0127c4468070b8c78edd9023ab4a66fb2563781c6ef374a3e", func := "pub-clamour/laws.FnMatchDuals", spec := "fnMatchDuals", apart := false }
def FnMatchDualsSaid : Prop := fnMatchDualsRow.holds Try.pinned (OpenSpec.ofChange fnMatchDualsSpec)

/-- ITS FALSE NEIGHBOUR: 'it returns false'. Refute it at one input. -/
def fnMatchDualsWrong : ChangeSpec := { name := "fnMatchDuals", fn := fun _ => fun
  | [d1, d2, d3] => { results := [.lit (.bool false)], args := [d1, d2, d3] }
  | _ => none }
def FnMatchDualsWrongFalsely : Prop := fnMatchDualsRow.holds Try.pinned (OpenSpec.ofChange fnMatchDualsWrong)

/-- 'laws.FnJoinedParts': WHATEVER THE INPUT: true; the input reads as it did. -/
def fnJoinedPartsSpec : ChangeSpec := { name := "fnJoinedParts", fn := fun _ => fun
  | [d1, d2, d3] => { results := [.lit (.bool true)], args := [d1, d2, d3] }
  | _ => none }
def fnJoinedPartsRow : OpenClaim := { program := "ytbcijcmmpbkkbaa", sum := "e96a3ab36226e3a0127c4468070b8c78edd9023ab4a66fb2563781c6ef374a3e", func := "pub-clamour/laws.FnJoinedParts", spec := "fnJoinedParts", inPlace := ["internal/abi.NoEscape", "internal/bytealg.MakeNoZero"], apart := false }
def FnJoinedPartsSaid : Prop := fnJoinedPartsRow.holds Try.pinned (OpenSpec.ofChange fnJoinedPartsSpec)

/-- ITS FALSE NEIGHBOUR: 'it returns false'. Refute it at one input. -/
def fnJoinedPartsWrong : ChangeSpec := { name := "fnJoinedParts", fn := fun _ => fun
  | [d1, d2, d3] => { results := [.lit (.bool false)], args := [d1, d2, d3] }
  | _ => none }
def FnJoinedPartsWrongFalsely : Prop := fnJoinedPartsRow.holds Try.pinned (OpenSpec.ofChange fnJoinedPartsWrong)

/- THE SECOND FORM. 'bulk': how many values and letters a reading holds, each counted each time it is reached (what is shared counts as often as it is met; a slice's spare places count too). A statement '..UptoSaid' is the law's where the arguments, and the package variables that the reading takes, are together of bulk at most 1048576: NARROWER than '..Said'. Prove '..Said' where nothing that the law and all that it calls make is longer than what came in: it says more and counts as full. Else prove '..UptoSaid'. A law counts once. -/
mutual
def uptoBulk {H : Type} : DataW H → Nat
  | .lit (.string bytes) => bytes.length + 1
  | .lit _ => 1
  | .nil => 1
  | .ptr d => uptoBulk d + 1
  | .slice elems spare => uptoBulkAll elems + uptoBulkAll spare + 1
  | .agg parts => uptoBulkAll parts + 1
  | .iface _ d => uptoBulk d + 1
  | .map entries => uptoBulkEntries entries + 1
  | .held _ => 1
def uptoBulkAll {H : Type} : List (DataW H) → Nat
  | [] => 0
  | d :: r => uptoBulk d + uptoBulkAll r
def uptoBulkEntries {H : Type} : List (Lit × DataW H) → Nat
  | [] => 0
  | x :: r => uptoBulkEntry x + uptoBulkEntries r
def uptoBulkEntry {H : Type} : Lit × DataW H → Nat
  | (.string bytes, d) => bytes.length + uptoBulk d + 1
  | (_, d) => uptoBulk d + 1
 end
def uptoSmall : (H : Type) → List (DataW H) → Bool := fun _ ds => decide (uptoBulkAll ds ≤ 1048576)
def OpenSpec.upto (s : _root_.Go.ChangeSpec) : _root_.Go.OpenSpec := { _root_.Go.OpenSpec.ofChange s with cond := some uptoSmall }

/-- 'laws.FnPairBefore', WHERE WHAT IT READS IS OF BULK AT MOST 1048576: true; the input reads as it did. -/
def fnPairBeforeUptoRow : OpenClaim := { program := "ytbcijcmmpbkkbaa", sum := "e96a3ab36226e3a0127c4468070b8c78edd9023ab4a66fb2563781c6ef374a3e", func := "pub-clamour/laws.FnPairBefore", spec := "fnPairBefore", apart := false, narrowed := true }
def FnPairBeforeUptoSaid : Prop := fnPairBeforeUptoRow.holds Try.pinned (OpenSpec.upto fnPairBeforeSpec)

/-- 'laws.FnMatchValue', WHERE WHAT IT READS IS OF BULK AT MOST 1048576: true; the input reads as it did. -/
def fnMatchValueUptoRow : OpenClaim := { program := "ytbcijcmmpbkkbaa", sum := "e96a3ab36226e3a0127c4468070b8c78edd9023ab4a66fb2563781c6ef374a3e", func := "pub-clamour/laws.FnMatchValue", spec := "fnMatchValue", apart := false, narrowed := true }
def FnMatchValueUptoSaid : Prop := fnMatchValueUptoRow.holds Try.pinned (OpenSpec.upto fnMatchValueSpec)

/-- 'laws.FnLegacy', WHERE WHAT IT READS IS OF BULK AT MOST 1048576: true; the input reads as it did. -/
def fnLegacyUptoRow : OpenClaim := { program := "ytbcijcmmpbkkbaa", sum := "e96a3ab36226e3a0127c4468070b8c78edd9023ab4a66fb2563781c6ef374a3e", func := "pub-clamour/laws.FnLegacy", spec := "fnLegacy", apart := false, narrowed := true }
def FnLegacyUptoSaid : Prop := fnLegacyUptoRow.holds Try.pinned (OpenSpec.upto fnLegacySpec)

/-- 'laws.FnWeekdayNone', WHERE WHAT IT READS IS OF BULK AT MOST 1048576: true; the input reads as it did. -/
def fnWeekdayNoneUptoRow : OpenClaim := { program := "ytbcijcmmpbkkbaa", sum := "e96a3ab36226e3a0127c4468070b8c78edd9023ab4a66fb2563781c6ef374a3e", func := "pub-clamour/laws.FnWeekdayNone", spec := "fnWeekdayNone", apart := false, narrowed := true }
def FnWeekdayNoneUptoSaid : Prop := fnWeekdayNoneUptoRow.holds Try.pinned (OpenSpec.upto fnWeekdayNoneSpec)

/-- 'laws.FnOrder', WHERE WHAT IT READS IS OF BULK AT MOST 1048576: true; the input reads as it did. -/
def fnOrderUptoRow : OpenClaim := { program := "ytbcijcmmpbkkbaa", sum := "e96a3ab36226e3a0127c4468070b8c78edd9023ab4a66fb2563781c6ef374a3e", func := "pub-clamour/laws.FnOrder", spec := "fnOrder", apart := false, narrowed := true }
def FnOrderUptoSaid : Prop := fnOrderUptoRow.holds Try.pinned (OpenSpec.upto fnOrderSpec)

/-- 'laws.FnSchemes', WHERE WHAT IT READS IS OF BULK AT MOST 1048576: true; the input reads as it did. -/
def fnSchemesUptoRow : OpenClaim := { program := "ytbcijcmmpbkkbaa", sum := "e96a3ab36226e3a0127c4468070b8c78edd9023ab4a66fb2563781c6ef374a3e", func := "pub-clamour/laws.FnSchemes", spec := "fnSchemes", apart := false, narrowed := true }
def FnSchemesUptoSaid : Prop := fnSchemesUptoRow.holds Try.pinned (OpenSpec.upto fnSchemesSpec)

/-- 'laws.FnFastPrintSays', WHERE WHAT IT READS IS OF BULK AT MOST 1048576: true; the input reads as it did. -/
def fnFastPrintSaysUptoRow : OpenClaim := { program := "ytbcijcmmpbkkbaa", sum := "e96a3ab36226e3a0127c4468070b8c78edd9023ab4a66fb2563781c6ef374a3e", func := "pub-clamour/laws.FnFastPrintSays", spec := "fnFastPrintSays", apart := false, narrowed := true }
def FnFastPrintSaysUptoSaid : Prop := fnFastPrintSaysUptoRow.holds Try.pinned (OpenSpec.upto fnFastPrintSaysSpec)

/-- 'laws.FnMatchEach', WHERE WHAT IT READS IS OF BULK AT MOST 1048576: true; the input reads as it did. -/
def fnMatchEachUptoRow : OpenClaim := { program := "ytbcijcmmpbkkbaa", sum := "e96a3ab36226e3a0127c4468070b8c78edd9023ab4a66fb2563781c6ef374a3e", func := "pub-clamour/laws.FnMatchEach", spec := "fnMatchEach", apart := false, narrowed := true }
def FnMatchEachUptoSaid : Prop := fnMatchEachUptoRow.holds Try.pinned (OpenSpec.upto fnMatchEachSpec)

/-- 'laws.FnMatchDuals', WHERE WHAT IT READS IS OF BULK AT MOST 1048576: true; the input reads as it did. -/
def fnMatchDualsUptoRow : OpenClaim := { program := "ytbcijcmmpbkkbaa", sum := "e96a3ab36226e3a0127c4468070b8c78edd9023ab4a66fb2563781c6ef374a3e", func := "pub-clamour/laws.FnMatchDuals", spec := "fnMatchDuals", apart := false, narrowed := true }
def FnMatchDualsUptoSaid : Prop := fnMatchDualsUptoRow.holds Try.pinned (OpenSpec.upto fnMatchDualsSpec)

/-- 'laws.FnJoinedParts', WHERE WHAT IT READS IS OF BULK AT MOST 1048576: true; the input reads as it did. -/
def fnJoinedPartsUptoRow : OpenClaim := { program := "ytbcijcmmpbkkbaa", sum := "e96a3ab36226e3a0127c4468070b8c78edd9023ab4a66fb2563781c6ef374a3e", func := "pub-clamour/laws.FnJoinedParts", spec := "fnJoinedParts", inPlace := ["internal/abi.NoEscape", "internal/bytealg.MakeNoZero"], apart := false, narrowed := true }
def FnJoinedPartsUptoSaid : Prop := fnJoinedPartsUptoRow.holds Try.pinned (OpenSpec.upto fnJoinedPartsSpec)

end Rows
end Go.Proofs.Ytbcijcmmpbkkbaa
