/-
  DERIVED. GIVEN WITH THE SEED: THE CARDS: each row of YtkngnoipipnioaaDoorRows.lean that lists a variable, with what it lists TIED to the program's text (the seventh form; the later family's looks); each row that meets fmt, with fmt's text TOLD by the authors' own Lean function (tested against real Go, not proved from fmt's source: count such statements apart). THE CARD IS WHAT COUNTS. Prove the row's statement (the work); the ties are given (YtkngnoipipnioaaDoorTie.lean); close each card by the builder's one call (the guide's Derived/Test/ToyasCard.lean, 'card_holds'). Laid BY PROGRAM, IN A SANDBOX (cutbox-door.mjs). By AI agents, Wed Nov 11 2026. No macro, syntax, notation, axiom, sorry.
-/
import Derived.Test.YtkngnoipipnioaaDoorRows
import GoSem.ClaimSeven
namespace Go.Proofs.YtkngnoipipnioaaDoor
namespace Rows

/-- THE TIED CARD OF 'laws.FnClassicForms'. -/
def fnClassicFormsCard : Claim7 := { stood := { row := fnClassicFormsRow, standIns := [], harness := (true, "b821eeef54cfca577580c828350ebb33e950f72b51b73ea433f737df129a64d0"), looks := false }, kinds := [], alts := [], laidByText := true, laidKinds := [.data, .pinned], laidTests := true, laidLooks := .later }
def FnClassicFormsCardSaid : Prop := Claim7.holds Tryd.pinned (.plain (OpenSpec.ofChange fnClassicFormsSpec)) fnClassicFormsCard

/-- THE TIED CARD OF 'laws.FnClassicSingle'. -/
def fnClassicSingleCard : Claim7 := { stood := { row := fnClassicSingleRow, standIns := [], harness := (true, "b821eeef54cfca577580c828350ebb33e950f72b51b73ea433f737df129a64d0"), looks := false }, kinds := [], alts := [], laidByText := true, laidKinds := [.data, .pinned], laidTests := true, laidLooks := .later }
def FnClassicSingleCardSaid : Prop := Claim7.holds Tryd.pinned (.plain (OpenSpec.ofChange fnClassicSingleSpec)) fnClassicSingleCard

/-- THE TIED CARD OF 'laws.FnClassicList'. -/
def fnClassicListCard : Claim7 := { stood := { row := fnClassicListRow, standIns := [], harness := (true, "b821eeef54cfca577580c828350ebb33e950f72b51b73ea433f737df129a64d0"), looks := false }, kinds := [], alts := [], laidByText := true, laidKinds := [.data, .listed, .data, .pinned, .pinned, .pinned, .pinned, .pinned, .pinned], laidTests := true, laidLooks := .later }
def FnClassicListCardSaid : Prop := Claim7.holds Tryd.pinned (.plain (OpenSpec.ofChange fnClassicListSpec)) fnClassicListCard

/-- THE SECOND FORM's CARD OF 'laws.FnClassicForms'. -/
def fnClassicFormsUptoCard : Claim7 := { stood := { row := fnClassicFormsUptoRow, standIns := [], harness := (true, "b821eeef54cfca577580c828350ebb33e950f72b51b73ea433f737df129a64d0"), looks := false }, kinds := [], alts := [], laidByText := true, laidKinds := [.data, .pinned], laidTests := true, laidLooks := .later }
def FnClassicFormsUptoCardSaid : Prop := Claim7.holds Tryd.pinned (.plain (OpenSpec.upto fnClassicFormsSpec)) fnClassicFormsUptoCard

/-- THE SECOND FORM's CARD OF 'laws.FnClassicSingle'. -/
def fnClassicSingleUptoCard : Claim7 := { stood := { row := fnClassicSingleUptoRow, standIns := [], harness := (true, "b821eeef54cfca577580c828350ebb33e950f72b51b73ea433f737df129a64d0"), looks := false }, kinds := [], alts := [], laidByText := true, laidKinds := [.data, .pinned], laidTests := true, laidLooks := .later }
def FnClassicSingleUptoCardSaid : Prop := Claim7.holds Tryd.pinned (.plain (OpenSpec.upto fnClassicSingleSpec)) fnClassicSingleUptoCard

/-- THE SECOND FORM's CARD OF 'laws.FnClassicList'. -/
def fnClassicListUptoCard : Claim7 := { stood := { row := fnClassicListUptoRow, standIns := [], harness := (true, "b821eeef54cfca577580c828350ebb33e950f72b51b73ea433f737df129a64d0"), looks := false }, kinds := [], alts := [], laidByText := true, laidKinds := [.data, .listed, .data, .pinned, .pinned, .pinned, .pinned, .pinned, .pinned], laidTests := true, laidLooks := .later }
def FnClassicListUptoCardSaid : Prop := Claim7.holds Tryd.pinned (.plain (OpenSpec.upto fnClassicListSpec)) fnClassicListUptoCard
end Rows
end Go.Proofs.YtkngnoipipnioaaDoor
