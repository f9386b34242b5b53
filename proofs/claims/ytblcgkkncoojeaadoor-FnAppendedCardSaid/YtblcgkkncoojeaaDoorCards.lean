/-
  DERIVED. GIVEN WITH THE SEED: THE CARDS: each row of YtblcgkkncoojeaaDoorRows.lean that lists a variable, with what it lists TIED to the program's text (the seventh form; the later family's looks); each row that meets fmt, with fmt's text TOLD by the authors' own Lean function (tested against real Go, not proved from fmt's source: count such statements apart). THE CARD IS WHAT COUNTS. Prove the row's statement (the work); the ties are given (YtblcgkkncoojeaaDoorTie.lean); close each card by the builder's one call (the guide's Derived/Test/ToyasCard.lean, 'card_holds'). Laid BY PROGRAM, IN A SANDBOX (cutbox-door.mjs). By AI agents, Wed Nov 11 2026. No macro, syntax, notation, axiom, sorry.
-/
import Derived.Test.YtblcgkkncoojeaaDoorRows
import GoSem.ClaimSeven
namespace Go.Proofs.YtblcgkkncoojeaaDoor
namespace Rows

/-- THE TIED CARD OF 'laws.FnAppended'. -/
def fnAppendedCard : Claim7 := { stood := { row := fnAppendedRow, standIns := [], harness := (true, "44a1f3f45b73af72bbedf197320f3169d90258199a08ad1116f15244d31a1b35"), looks := true }, kinds := [], alts := [], laidByText := true, laidKinds := [.data, .sentinel, .listed, .sentinel, .sentinel, .sentinel, .sentinel, .sentinel, .sentinel, .sentinel, .sentinel, .sentinel, .sentinel, .pinned], laidTests := true, laidLooks := .later }
def FnAppendedCardSaid : Prop := Claim7.holds Tryd.pinned (.plain (OpenSpec.ofChange fnAppendedSpec)) fnAppendedCard

/-- THE TIED CARD OF 'laws.FnBraces'. -/
def fnBracesCard : Claim7 := { stood := { row := fnBracesRow, standIns := [], harness := (true, "44a1f3f45b73af72bbedf197320f3169d90258199a08ad1116f15244d31a1b35"), looks := true }, kinds := [], alts := [], laidByText := true, laidKinds := [.data, .sentinel, .listed, .sentinel, .sentinel, .sentinel, .sentinel, .sentinel, .sentinel, .sentinel, .sentinel, .sentinel, .sentinel, .pinned], laidTests := true, laidLooks := .later }
def FnBracesCardSaid : Prop := Claim7.holds Tryd.pinned (.plain (OpenSpec.ofChange fnBracesSpec)) fnBracesCard

/-- THE TIED CARD OF 'laws.FnParseOne'. -/
def fnParseOneCard : Claim7 := { stood := { row := fnParseOneRow, standIns := [], harness := (true, "44a1f3f45b73af72bbedf197320f3169d90258199a08ad1116f15244d31a1b35"), looks := true }, kinds := [], alts := [], laidByText := true, laidKinds := [.data, .sentinel, .listed, .sentinel, .sentinel, .sentinel, .sentinel, .sentinel, .sentinel, .sentinel, .sentinel, .sentinel, .sentinel, .pinned], laidTests := true, laidLooks := .later }
def FnParseOneCardSaid : Prop := Claim7.holds Tryd.pinned (.plain (OpenSpec.ofChange fnParseOneSpec)) fnParseOneCard

/-- THE SECOND FORM's CARD OF 'laws.FnAppended'. -/
def fnAppendedUptoCard : Claim7 := { stood := { row := fnAppendedUptoRow, standIns := [], harness := (true, "44a1f3f45b73af72bbedf197320f3169d90258199a08ad1116f15244d31a1b35"), looks := true }, kinds := [], alts := [], laidByText := true, laidKinds := [.data, .sentinel, .listed, .sentinel, .sentinel, .sentinel, .sentinel, .sentinel, .sentinel, .sentinel, .sentinel, .sentinel, .sentinel, .pinned], laidTests := true, laidLooks := .later }
def FnAppendedUptoCardSaid : Prop := Claim7.holds Tryd.pinned (.plain (OpenSpec.upto fnAppendedSpec)) fnAppendedUptoCard

/-- THE SECOND FORM's CARD OF 'laws.FnBraces'. -/
def fnBracesUptoCard : Claim7 := { stood := { row := fnBracesUptoRow, standIns := [], harness := (true, "44a1f3f45b73af72bbedf197320f3169d90258199a08ad1116f15244d31a1b35"), looks := true }, kinds := [], alts := [], laidByText := true, laidKinds := [.data, .sentinel, .listed, .sentinel, .sentinel, .sentinel, .sentinel, .sentinel, .sentinel, .sentinel, .sentinel, .sentinel, .sentinel, .pinned], laidTests := true, laidLooks := .later }
def FnBracesUptoCardSaid : Prop := Claim7.holds Tryd.pinned (.plain (OpenSpec.upto fnBracesSpec)) fnBracesUptoCard

/-- THE SECOND FORM's CARD OF 'laws.FnParseOne'. -/
def fnParseOneUptoCard : Claim7 := { stood := { row := fnParseOneUptoRow, standIns := [], harness := (true, "44a1f3f45b73af72bbedf197320f3169d90258199a08ad1116f15244d31a1b35"), looks := true }, kinds := [], alts := [], laidByText := true, laidKinds := [.data, .sentinel, .listed, .sentinel, .sentinel, .sentinel, .sentinel, .sentinel, .sentinel, .sentinel, .sentinel, .sentinel, .sentinel, .pinned], laidTests := true, laidLooks := .later }
def FnParseOneUptoCardSaid : Prop := Claim7.holds Tryd.pinned (.plain (OpenSpec.upto fnParseOneSpec)) fnParseOneUptoCard
end Rows
end Go.Proofs.YtblcgkkncoojeaaDoor
