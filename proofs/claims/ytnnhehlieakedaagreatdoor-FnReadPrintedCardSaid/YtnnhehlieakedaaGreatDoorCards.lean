/-
  DERIVED. GIVEN WITH THE SEED: THE CARDS: each row of YtnnhehlieakedaaGreatDoorRows.lean that lists a variable, with what it lists TIED to the program's text (the seventh form; the later family's looks); each row that meets fmt, with fmt's text TOLD by the authors' own Lean function (tested against real Go, not proved from fmt's source: count such statements apart). THE CARD IS WHAT COUNTS. Prove the row's statement (the work); the ties are given (YtnnhehlieakedaaGreatDoorTie.lean); close each card by the builder's one call (the guide's Derived/Test/ToyasCard.lean, 'card_holds'). Laid BY PROGRAM, IN A SANDBOX (cutbox-door.mjs). By AI agents, Wed Nov 11 2026. No macro, syntax, notation, axiom, sorry.
-/
import Derived.Test.YtnnhehlieakedaaGreatDoorRows
import GoSem.ClaimSeven
namespace Go.Proofs.YtnnhehlieakedaaGreatDoor
namespace Rows

/-- THE TIED CARD OF 'laws.FnParseSingle'. -/
def fnParseSingleCard : Claim7 := { stood := { row := fnParseSingleRow, standIns := [], harness := (true, "9420791fbadb4cbef587000497216a6fdf7c0cf083067ef2aab1b782175354e9"), looks := true }, kinds := [], alts := [], laidByText := true, laidKinds := [.data, .sentinel, .listed, .sentinel, .sentinel, .sentinel, .sentinel, .sentinel, .sentinel, .sentinel, .sentinel, .sentinel, .sentinel, .pinned], laidTests := true, laidLooks := .later }
def FnParseSingleCardSaid : Prop := Claim7.holds Tryz.pinned (.plain (OpenSpec.ofChange fnParseSingleSpec)) fnParseSingleCard

/-- THE TIED CARD OF 'laws.FnReadPrinted'. -/
def fnReadPrintedCard : Claim7 := { stood := { row := fnReadPrintedRow, standIns := [], harness := (true, "9420791fbadb4cbef587000497216a6fdf7c0cf083067ef2aab1b782175354e9"), looks := true }, kinds := [], alts := [], laidByText := true, laidKinds := [.data, .sentinel, .listed, .sentinel, .sentinel, .sentinel, .sentinel, .sentinel, .sentinel, .sentinel, .sentinel, .sentinel, .sentinel, .sentinel, .pinned, .pinned, .pinned, .pinned, .pinned, .pinned], laidTests := true, laidLooks := .later }
def FnReadPrintedCardSaid : Prop := Claim7.holds Tryz.pinned (.plain (OpenSpec.ofChange fnReadPrintedSpec)) fnReadPrintedCard

/-- THE TIED CARD OF 'laws.FnPrintedBack'. -/
def fnPrintedBackCard : Claim7 := { stood := { row := fnPrintedBackRow, standIns := [], harness := (true, "9420791fbadb4cbef587000497216a6fdf7c0cf083067ef2aab1b782175354e9"), looks := true }, kinds := [], alts := [], laidByText := true, laidKinds := [.data, .sentinel, .listed, .sentinel, .sentinel, .sentinel, .sentinel, .sentinel, .sentinel, .sentinel, .sentinel, .sentinel, .sentinel, .sentinel, .pinned, .pinned, .pinned, .pinned, .pinned, .pinned], laidTests := true, laidLooks := .later }
def FnPrintedBackCardSaid : Prop := Claim7.holds Tryz.pinned (.plain (OpenSpec.ofChange fnPrintedBackSpec)) fnPrintedBackCard

/-- THE TIED CARD OF 'laws.FnTextRead'. -/
def fnTextReadCard : Claim7 := { stood := { row := fnTextReadRow, standIns := [], harness := (true, "9420791fbadb4cbef587000497216a6fdf7c0cf083067ef2aab1b782175354e9"), looks := true }, kinds := [], alts := [], laidByText := true, laidKinds := [.data, .sentinel, .listed, .sentinel, .sentinel, .sentinel, .sentinel, .sentinel, .sentinel, .sentinel, .sentinel, .sentinel, .sentinel, .sentinel, .pinned, .pinned, .pinned, .pinned, .pinned, .pinned], laidTests := true, laidLooks := .later }
def FnTextReadCardSaid : Prop := Claim7.holds Tryz.pinned (.plain (OpenSpec.ofChange fnTextReadSpec)) fnTextReadCard

/-- THE SECOND FORM's CARD OF 'laws.FnParseSingle'. -/
def fnParseSingleUptoCard : Claim7 := { stood := { row := fnParseSingleUptoRow, standIns := [], harness := (true, "9420791fbadb4cbef587000497216a6fdf7c0cf083067ef2aab1b782175354e9"), looks := true }, kinds := [], alts := [], laidByText := true, laidKinds := [.data, .sentinel, .listed, .sentinel, .sentinel, .sentinel, .sentinel, .sentinel, .sentinel, .sentinel, .sentinel, .sentinel, .sentinel, .pinned], laidTests := true, laidLooks := .later }
def FnParseSingleUptoCardSaid : Prop := Claim7.holds Tryz.pinned (.plain (OpenSpec.upto fnParseSingleSpec)) fnParseSingleUptoCard

/-- THE SECOND FORM's CARD OF 'laws.FnReadPrinted'. -/
def fnReadPrintedUptoCard : Claim7 := { stood := { row := fnReadPrintedUptoRow, standIns := [], harness := (true, "9420791fbadb4cbef587000497216a6fdf7c0cf083067ef2aab1b782175354e9"), looks := true }, kinds := [], alts := [], laidByText := true, laidKinds := [.data, .sentinel, .listed, .sentinel, .sentinel, .sentinel, .sentinel, .sentinel, .sentinel, .sentinel, .sentinel, .sentinel, .sentinel, .sentinel, .pinned, .pinned, .pinned, .pinned, .pinned, .pinned], laidTests := true, laidLooks := .later }
def FnReadPrintedUptoCardSaid : Prop := Claim7.holds Tryz.pinned (.plain (OpenSpec.upto fnReadPrintedSpec)) fnReadPrintedUptoCard

/-- THE SECOND FORM's CARD OF 'laws.FnPrintedBack'. -/
def fnPrintedBackUptoCard : Claim7 := { stood := { row := fnPrintedBackUptoRow, standIns := [], harness := (true, "9420791fbadb4cbef587000497216a6fdf7c0cf083067ef2aab1b782175354e9"), looks := true }, kinds := [], alts := [], laidByText := true, laidKinds := [.data, .sentinel, .listed, .sentinel, .sentinel, .sentinel, .sentinel, .sentinel, .sentinel, .sentinel, .sentinel, .sentinel, .sentinel, .sentinel, .pinned, .pinned, .pinned, .pinned, .pinned, .pinned], laidTests := true, laidLooks := .later }
def FnPrintedBackUptoCardSaid : Prop := Claim7.holds Tryz.pinned (.plain (OpenSpec.upto fnPrintedBackSpec)) fnPrintedBackUptoCard

/-- THE SECOND FORM's CARD OF 'laws.FnTextRead'. -/
def fnTextReadUptoCard : Claim7 := { stood := { row := fnTextReadUptoRow, standIns := [], harness := (true, "9420791fbadb4cbef587000497216a6fdf7c0cf083067ef2aab1b782175354e9"), looks := true }, kinds := [], alts := [], laidByText := true, laidKinds := [.data, .sentinel, .listed, .sentinel, .sentinel, .sentinel, .sentinel, .sentinel, .sentinel, .sentinel, .sentinel, .sentinel, .sentinel, .sentinel, .pinned, .pinned, .pinned, .pinned, .pinned, .pinned], laidTests := true, laidLooks := .later }
def FnTextReadUptoCardSaid : Prop := Claim7.holds Tryz.pinned (.plain (OpenSpec.upto fnTextReadSpec)) fnTextReadUptoCard
end Rows
end Go.Proofs.YtnnhehlieakedaaGreatDoor
