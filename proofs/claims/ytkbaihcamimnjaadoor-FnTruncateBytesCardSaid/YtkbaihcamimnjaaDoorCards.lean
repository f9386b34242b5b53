/-
  DERIVED. GIVEN WITH THE SEED: THE CARDS: each row of YtkbaihcamimnjaaDoorRows.lean that lists a variable, with what it lists TIED to the program's text (the seventh form; the later family's looks); each row that meets fmt, with fmt's text TOLD by the authors' own Lean function (tested against real Go, not proved from fmt's source: count such statements apart). THE CARD IS WHAT COUNTS. Prove the row's statement (the work); the ties are given (YtkbaihcamimnjaaDoorTie.lean); close each card by the builder's one call (the guide's Derived/Test/ToyasCard.lean, 'card_holds'). Laid BY PROGRAM, IN A SANDBOX (cutbox-door.mjs). By AI agents, Wed Nov 11 2026. No macro, syntax, notation, axiom, sorry.
-/
import Derived.Test.YtkbaihcamimnjaaDoorRows
import GoSem.ClaimSeven
namespace Go.Proofs.YtkbaihcamimnjaaDoor
namespace Rows

/-- THE TIED CARD OF 'laws.FnRetry'. -/
def fnRetryCard : Claim7 := { stood := { row := fnRetryRow, standIns := [], harness := (true, "e74787052552bcdf970bc7833c002a2954d5201cc82bcee7c9aa4d11c74e05bc"), looks := true }, kinds := [], alts := [], laidByText := true, laidKinds := [.sentinel], laidTests := true, laidLooks := .later }
def FnRetryCardSaid : Prop := Claim7.holds Tryd.pinned (.plain (OpenSpec.ofChange fnRetrySpec)) fnRetryCard

/-- THE TIED CARD OF 'laws.FnRangeText'. -/
def fnRangeTextCard : Claim7 := { stood := { row := fnRangeTextRow, standIns := [], harness := (true, "e74787052552bcdf970bc7833c002a2954d5201cc82bcee7c9aa4d11c74e05bc"), looks := true }, kinds := [], alts := [], laidByText := true, laidKinds := [.data, .data, .data], laidTests := true, laidLooks := .later }
def FnRangeTextCardSaid : Prop := Claim7.holds Tryd.pinned (.plain (OpenSpec.ofChange fnRangeTextSpec)) fnRangeTextCard

/-- THE TIED CARD OF 'laws.FnUnderscored'. -/
def fnUnderscoredCard : Claim7 := { stood := { row := fnUnderscoredRow, standIns := [], harness := (true, "e74787052552bcdf970bc7833c002a2954d5201cc82bcee7c9aa4d11c74e05bc"), looks := true }, kinds := [], alts := [], laidByText := true, laidKinds := [.data, .data, .data, .data, .pinned], laidTests := true, laidLooks := .later }
def FnUnderscoredCardSaid : Prop := Claim7.holds Tryd.pinned (.plain (OpenSpec.ofChange fnUnderscoredSpec)) fnUnderscoredCard

/-- THE TIED CARD OF 'laws.FnEscaped'. -/
def fnEscapedCard : Claim7 := { stood := { row := fnEscapedRow, standIns := [], harness := (true, "e74787052552bcdf970bc7833c002a2954d5201cc82bcee7c9aa4d11c74e05bc"), looks := true }, kinds := [], alts := [], laidByText := true, laidKinds := [.data, .data, .data, .data, .pinned], laidTests := true, laidLooks := .later }
def FnEscapedCardSaid : Prop := Claim7.holds Tryd.pinned (.plain (OpenSpec.ofChange fnEscapedSpec)) fnEscapedCard

/-- THE TIED CARD OF 'laws.FnEscapeSays'. -/
def fnEscapeSaysCard : Claim7 := { stood := { row := fnEscapeSaysRow, standIns := [], harness := (true, "e74787052552bcdf970bc7833c002a2954d5201cc82bcee7c9aa4d11c74e05bc"), looks := true }, kinds := [], alts := [], laidByText := true, laidKinds := [.data, .data, .data], laidTests := true, laidLooks := .later }
def FnEscapeSaysCardSaid : Prop := Claim7.holds Tryd.pinned (.plain (OpenSpec.ofChange fnEscapeSaysSpec)) fnEscapeSaysCard

/-- THE TIED CARD OF 'laws.FnTruncateBytes'. -/
def fnTruncateBytesCard : Claim7 := { stood := { row := fnTruncateBytesRow, standIns := [], harness := (true, "e74787052552bcdf970bc7833c002a2954d5201cc82bcee7c9aa4d11c74e05bc"), looks := true }, kinds := [], alts := [], laidByText := true, laidKinds := [.data, .pinned], laidTests := true, laidLooks := .later }
def FnTruncateBytesCardSaid : Prop := Claim7.holds Tryd.pinned (.plain (OpenSpec.ofChange fnTruncateBytesSpec)) fnTruncateBytesCard

/-- THE TIED CARD OF 'laws.FnTruncateTwice'. -/
def fnTruncateTwiceCard : Claim7 := { stood := { row := fnTruncateTwiceRow, standIns := [], harness := (true, "e74787052552bcdf970bc7833c002a2954d5201cc82bcee7c9aa4d11c74e05bc"), looks := true }, kinds := [], alts := [], laidByText := true, laidKinds := [.data, .pinned], laidTests := true, laidLooks := .later }
def FnTruncateTwiceCardSaid : Prop := Claim7.holds Tryd.pinned (.plain (OpenSpec.ofChange fnTruncateTwiceSpec)) fnTruncateTwiceCard

/-- THE SECOND FORM's CARD OF 'laws.FnRetry'. -/
def fnRetryUptoCard : Claim7 := { stood := { row := fnRetryUptoRow, standIns := [], harness := (true, "e74787052552bcdf970bc7833c002a2954d5201cc82bcee7c9aa4d11c74e05bc"), looks := true }, kinds := [], alts := [], laidByText := true, laidKinds := [.sentinel], laidTests := true, laidLooks := .later }
def FnRetryUptoCardSaid : Prop := Claim7.holds Tryd.pinned (.plain (OpenSpec.upto fnRetrySpec)) fnRetryUptoCard

/-- THE SECOND FORM's CARD OF 'laws.FnRangeText'. -/
def fnRangeTextUptoCard : Claim7 := { stood := { row := fnRangeTextUptoRow, standIns := [], harness := (true, "e74787052552bcdf970bc7833c002a2954d5201cc82bcee7c9aa4d11c74e05bc"), looks := true }, kinds := [], alts := [], laidByText := true, laidKinds := [.data, .data, .data], laidTests := true, laidLooks := .later }
def FnRangeTextUptoCardSaid : Prop := Claim7.holds Tryd.pinned (.plain (OpenSpec.upto fnRangeTextSpec)) fnRangeTextUptoCard

/-- THE SECOND FORM's CARD OF 'laws.FnUnderscored'. -/
def fnUnderscoredUptoCard : Claim7 := { stood := { row := fnUnderscoredUptoRow, standIns := [], harness := (true, "e74787052552bcdf970bc7833c002a2954d5201cc82bcee7c9aa4d11c74e05bc"), looks := true }, kinds := [], alts := [], laidByText := true, laidKinds := [.data, .data, .data, .data, .pinned], laidTests := true, laidLooks := .later }
def FnUnderscoredUptoCardSaid : Prop := Claim7.holds Tryd.pinned (.plain (OpenSpec.upto fnUnderscoredSpec)) fnUnderscoredUptoCard

/-- THE SECOND FORM's CARD OF 'laws.FnEscaped'. -/
def fnEscapedUptoCard : Claim7 := { stood := { row := fnEscapedUptoRow, standIns := [], harness := (true, "e74787052552bcdf970bc7833c002a2954d5201cc82bcee7c9aa4d11c74e05bc"), looks := true }, kinds := [], alts := [], laidByText := true, laidKinds := [.data, .data, .data, .data, .pinned], laidTests := true, laidLooks := .later }
def FnEscapedUptoCardSaid : Prop := Claim7.holds Tryd.pinned (.plain (OpenSpec.upto fnEscapedSpec)) fnEscapedUptoCard

/-- THE SECOND FORM's CARD OF 'laws.FnEscapeSays'. -/
def fnEscapeSaysUptoCard : Claim7 := { stood := { row := fnEscapeSaysUptoRow, standIns := [], harness := (true, "e74787052552bcdf970bc7833c002a2954d5201cc82bcee7c9aa4d11c74e05bc"), looks := true }, kinds := [], alts := [], laidByText := true, laidKinds := [.data, .data, .data], laidTests := true, laidLooks := .later }
def FnEscapeSaysUptoCardSaid : Prop := Claim7.holds Tryd.pinned (.plain (OpenSpec.upto fnEscapeSaysSpec)) fnEscapeSaysUptoCard

/-- THE SECOND FORM's CARD OF 'laws.FnTruncateBytes'. -/
def fnTruncateBytesUptoCard : Claim7 := { stood := { row := fnTruncateBytesUptoRow, standIns := [], harness := (true, "e74787052552bcdf970bc7833c002a2954d5201cc82bcee7c9aa4d11c74e05bc"), looks := true }, kinds := [], alts := [], laidByText := true, laidKinds := [.data, .pinned], laidTests := true, laidLooks := .later }
def FnTruncateBytesUptoCardSaid : Prop := Claim7.holds Tryd.pinned (.plain (OpenSpec.upto fnTruncateBytesSpec)) fnTruncateBytesUptoCard

/-- THE SECOND FORM's CARD OF 'laws.FnTruncateTwice'. -/
def fnTruncateTwiceUptoCard : Claim7 := { stood := { row := fnTruncateTwiceUptoRow, standIns := [], harness := (true, "e74787052552bcdf970bc7833c002a2954d5201cc82bcee7c9aa4d11c74e05bc"), looks := true }, kinds := [], alts := [], laidByText := true, laidKinds := [.data, .pinned], laidTests := true, laidLooks := .later }
def FnTruncateTwiceUptoCardSaid : Prop := Claim7.holds Tryd.pinned (.plain (OpenSpec.upto fnTruncateTwiceSpec)) fnTruncateTwiceUptoCard
end Rows
end Go.Proofs.YtkbaihcamimnjaaDoor
