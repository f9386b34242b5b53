/-
  No cell of these rows narrows 'for every input' (looked for: loops, veiled, ifaces, maps, wideKeys, modest, calm, conditions, laid).
  DERIVED. THE GIVEN ROWS OF THIS SEAT. 3 by the template 'for every input the law returns true; each argument reads behind the call as it read before'; 0 by the template 'total and deterministic' (their statements: YtkbaihcamimnjaaTotals.lean).
  GIVEN WITH THE SEED: the statements are not yours to turn. If you find one false, say at which input.
  Laid BY PROGRAM, IN A SANDBOX (cutbox-rows.mjs): the forced cells as the released guide's own fill.sh prints them over the translation 0abc83f2d2821241… (all of the seat's roots in one cut). By AI agents, Wed Nov 11 2026. No macro, syntax, notation, axiom, sorry.
-/
import Derived.Test.YtkbaihcamimnjaaChecked
import GoSem.Claim
import GoSem.ClaimJoined
import GoSem.ClaimMapViews
import Derived.JoinedTies
import Derived.KernelRfl
namespace Go.Proofs.Ytkbaihcamimnjaa
/- THE CELL 'sum', in the pinned program and in every row, IS THE sha256 OF THE DUMP (.gsa) THAT YtkbaihcamimnjaaProg.lean LOADS. Nothing in Lean hashes anything: it is a label: what it is worth is what the hold of that sum in a sandbox is worth. -/
noncomputable def Try.pinned : Pinned := { name := "ytkbaihcamimnjaa", sum := "0abc83f2d282124154db0ca01cf85b0ed78cee46d68936e13b3cf614802050ef", checked := Try.checked }
namespace Rows
def none {H : Type} : Left H := { results := [], args := [] }

/-- 'laws.FnUnescapeStays': WHATEVER THE INPUT: true; the input reads as it did. -/
def fnUnescapeStaysSpec : ChangeSpec := { name := "fnUnescapeStays", fn := fun _ => fun
  | [d1, d2] => { results := [.lit (.bool true)], args := [d1, d2] }
  | _ => none }
def fnUnescapeStaysRow : OpenClaim := { program := "ytkbaihcamimnjaa", sum := "0abc83f2d282124154db0ca01cf85b0ed78cee46d68936e13b3cf614802050ef", func := "pub-clamour/laws.FnUnescapeStays", spec := "fnUnescapeStays", inPlace := ["internal/abi.NoEscape"], plainKeys := false, apart := false }
def FnUnescapeStaysSaid : Prop := fnUnescapeStaysRow.holds Try.pinned (OpenSpec.ofChange fnUnescapeStaysSpec)

/-- ITS FALSE NEIGHBOUR: 'it returns false'. Refute it at one input. -/
def fnUnescapeStaysWrong : ChangeSpec := { name := "fnUnescapeStays", fn := fun _ => fun
  | [d1, d2] => { results := [.lit (.bool false)], args := [d1, d2] }
  | _ => none }
def FnUnescapeStaysWrongFalsely : Prop := fnUnescapeStaysRow.holds Try.pinned (OpenSpec.ofChange fnUnescapeStaysWrong)

/-- 'laws.FnGroupScript': WHATEVER THE INPUT: true; the input reads as it did. -/
def fnGroupScriptSpec : ChangeSpec := { name := "fnGroupScript", fn := fun _ => fun
  | [d] => { results := [.lit (.bool true)], args := [d] }
  | _ => none }
def fnGroupScriptRow : OpenClaim := { program := "ytkbaihcamimnjaa", sum := "0abc83f2d282124154db0ca01cf85b0ed78cee46d68936e13b3cf614802050ef", func := "pub-clamour/laws.FnGroupScript", spec := "fnGroupScript", unfollowed := true, recurses := true, plainKeys := false, apart := false }
def FnGroupScriptSaid : Prop := fnGroupScriptRow.holds Try.pinned (OpenSpec.ofChange fnGroupScriptSpec)

/-- ITS FALSE NEIGHBOUR: 'it returns false'. Refute it at one input. -/
def fnGroupScriptWrong : ChangeSpec := { name := "fnGroupScript", fn := fun _ => fun
  | [d] => { results := [.lit (.bool false)], args := [d] }
  | _ => none }
def FnGroupScriptWrongFalsely : Prop := fnGroupScriptRow.holds Try.pinned (OpenSpec.ofChange fnGroupScriptWrong)

/-- 'laws.FnGroupsApart': WHATEVER THE INPUT: true; the input reads as it did. -/
def fnGroupsApartSpec : ChangeSpec := { name := "fnGroupsApart", fn := fun _ => fun
  | [d1, d2, d3] => { results := [.lit (.bool true)], args := [d1, d2, d3] }
  | _ => none }
def fnGroupsApartRow : OpenClaim := { program := "ytkbaihcamimnjaa", sum := "0abc83f2d282124154db0ca01cf85b0ed78cee46d68936e13b3cf614802050ef", func := "pub-clamour/laws.FnGroupsApart", spec := "fnGroupsApart", unfollowed := true, recurses := true, plainKeys := false, apart := false }
def FnGroupsApartSaid : Prop := fnGroupsApartRow.holds Try.pinned (OpenSpec.ofChange fnGroupsApartSpec)

/-- ITS FALSE NEIGHBOUR: 'it returns false'. Refute it at one input. -/
def fnGroupsApartWrong : ChangeSpec := { name := "fnGroupsApart", fn := fun _ => fun
  | [d1, d2, d3] => { results := [.lit (.bool false)], args := [d1, d2, d3] }
  | _ => none }
def FnGroupsApartWrongFalsely : Prop := fnGroupsApartRow.holds Try.pinned (OpenSpec.ofChange fnGroupsApartWrong)

/- THE SECOND FORM. 'bulk': how many values and letters a reading holds, each counted each time it is reached (what is shared counts as often as it is met; a slice's spare places count too). A statement '..UptoSaid' is the law's where the arguments, and the package variables that the reading takes, are together of bulk at most 1048576: NARROWER than '..Said'. Prove '..Said' where nothing that the law and all that it calls make is longer than what came in: it says more and counts as full. Else prove '..UptoSaid'. A law counts once. -/
mutual
def uptoBulk {H : Type} : DataW H → Nat
  | .lit (.string bytes) => bytes.length + 1
  | .lit _ => 1
  | .nil => 1
  | .ptr d => uptoBulk d + 1
  | .slice elems spare => uptoBulkAll elems + uptoBulkAll spare + 1
  | .agg parts => uptoBulkAll parts + 1
  | .iface _ d => uptoBulk d + 1
  | .map entries => uptoBulkEntries entries + 1
  | .held _ => 1
def uptoBulkAll {H : Type} : List (DataW H) → Nat
  | [] => 0
  | d :: r => uptoBulk d + uptoBulkAll r
def uptoBulkEntries {H : Type} : List (Lit × DataW H) → Nat
  | [] => 0
  | x :: r => uptoBulkEntry x + uptoBulkEntries r
def uptoBulkEntry {H : Type} : Lit × DataW H → Nat
  | (.string bytes, d) => bytes.length + uptoBulk d + 1
  | (_, d) => uptoBulk d + 1
 end
def uptoSmall : (H : Type) → List (DataW H) → Bool := fun _ ds => decide (uptoBulkAll ds ≤ 1048576)
def OpenSpec.upto (s : _root_.Go.ChangeSpec) : _root_.Go.OpenSpec := { _root_.Go.OpenSpec.ofChange s with cond := some uptoSmall }

/-- 'laws.FnUnescapeStays', WHERE WHAT IT READS IS OF BULK AT MOST 1048576: true; the input reads as it did. -/
def fnUnescapeStaysUptoRow : OpenClaim := { program := "ytkbaihcamimnjaa", sum := "0abc83f2d282124154db0ca01cf85b0ed78cee46d68936e13b3cf614802050ef", func := "pub-clamour/laws.FnUnescapeStays", spec := "fnUnescapeStays", inPlace := ["internal/abi.NoEscape"], plainKeys := false, apart := false, narrowed := true }
def FnUnescapeStaysUptoSaid : Prop := fnUnescapeStaysUptoRow.holds Try.pinned (OpenSpec.upto fnUnescapeStaysSpec)

/-- 'laws.FnGroupScript', WHERE WHAT IT READS IS OF BULK AT MOST 1048576: true; the input reads as it did. -/
def fnGroupScriptUptoRow : OpenClaim := { program := "ytkbaihcamimnjaa", sum := "0abc83f2d282124154db0ca01cf85b0ed78cee46d68936e13b3cf614802050ef", func := "pub-clamour/laws.FnGroupScript", spec := "fnGroupScript", unfollowed := true, recurses := true, plainKeys := false, apart := false, narrowed := true }
def FnGroupScriptUptoSaid : Prop := fnGroupScriptUptoRow.holds Try.pinned (OpenSpec.upto fnGroupScriptSpec)

/-- 'laws.FnGroupsApart', WHERE WHAT IT READS IS OF BULK AT MOST 1048576: true; the input reads as it did. -/
def fnGroupsApartUptoRow : OpenClaim := { program := "ytkbaihcamimnjaa", sum := "0abc83f2d282124154db0ca01cf85b0ed78cee46d68936e13b3cf614802050ef", func := "pub-clamour/laws.FnGroupsApart", spec := "fnGroupsApart", unfollowed := true, recurses := true, plainKeys := false, apart := false, narrowed := true }
def FnGroupsApartUptoSaid : Prop := fnGroupsApartUptoRow.holds Try.pinned (OpenSpec.upto fnGroupsApartSpec)

end Rows
end Go.Proofs.Ytkbaihcamimnjaa
