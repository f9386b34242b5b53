/-
  DERIVED. GIVEN WITH THE SEED: THE CARDS: each row of YtmmcibeeojfplaaDoorRows.lean that lists a variable, with what it lists TIED to the program's text (the seventh form; the later family's looks); each row that meets fmt, with fmt's text TOLD by the authors' own Lean function (tested against real Go, not proved from fmt's source: count such statements apart). THE CARD IS WHAT COUNTS. Prove the row's statement (the work); the ties are given (YtmmcibeeojfplaaDoorTie.lean); close each card by the builder's one call (the guide's Derived/Test/ToyasCard.lean, 'card_holds'). Laid BY PROGRAM, IN A SANDBOX (cutbox-door.mjs). By AI agents, Wed Nov 11 2026. No macro, syntax, notation, axiom, sorry.
-/
import Derived.Test.YtmmcibeeojfplaaDoorRows
import GoSem.ClaimSeven
namespace Go.Proofs.YtmmcibeeojfplaaDoor
namespace Rows

/-- THE TIED CARD OF 'laws.FnReadDuration'. -/
def fnReadDurationCard : Claim7 := { stood := { row := fnReadDurationRow, standIns := [], harness := (true, "52dcccf075e87df06b81d6f99473efff0562a5e444b8385261096d55a1f2c0f2"), looks := true }, kinds := [], alts := [], laidByText := true, laidKinds := [.data, .data, .data, .sentinel, .sentinel], laidTests := true, laidLooks := .later }
def FnReadDurationCardSaid : Prop := Claim7.holds Tryd.pinned (.plain (OpenSpec.ofChange fnReadDurationSpec)) fnReadDurationCard

/-- THE TIED CARD OF 'laws.FnSignedSays'. -/
def fnSignedSaysCard : Claim7 := { stood := { row := fnSignedSaysRow, standIns := [], harness := (true, "52dcccf075e87df06b81d6f99473efff0562a5e444b8385261096d55a1f2c0f2"), looks := true }, kinds := [], alts := [], laidByText := true, laidKinds := [.data, .data, .data, .sentinel, .sentinel], laidTests := true, laidLooks := .later }
def FnSignedSaysCardSaid : Prop := Claim7.holds Tryd.pinned (.plain (OpenSpec.ofChange fnSignedSaysSpec)) fnSignedSaysCard

/-- THE TIED CARD OF 'laws.FnClassicForms'. -/
def fnClassicFormsCard : Claim7 := { stood := { row := fnClassicFormsRow, standIns := [], harness := (true, "52dcccf075e87df06b81d6f99473efff0562a5e444b8385261096d55a1f2c0f2"), looks := true }, kinds := [], alts := [], laidByText := true, laidKinds := [.data, .pinned], laidTests := true, laidLooks := .later }
def FnClassicFormsCardSaid : Prop := Claim7.holds Tryd.pinned (.plain (OpenSpec.ofChange fnClassicFormsSpec)) fnClassicFormsCard

/-- THE TIED CARD OF 'laws.FnClassicSingle'. -/
def fnClassicSingleCard : Claim7 := { stood := { row := fnClassicSingleRow, standIns := [], harness := (true, "52dcccf075e87df06b81d6f99473efff0562a5e444b8385261096d55a1f2c0f2"), looks := true }, kinds := [], alts := [], laidByText := true, laidKinds := [.data, .pinned], laidTests := true, laidLooks := .later }
def FnClassicSingleCardSaid : Prop := Claim7.holds Tryd.pinned (.plain (OpenSpec.ofChange fnClassicSingleSpec)) fnClassicSingleCard

/-- THE TIED CARD OF 'laws.FnClassicList'. -/
def fnClassicListCard : Claim7 := { stood := { row := fnClassicListRow, standIns := [], harness := (true, "52dcccf075e87df06b81d6f99473efff0562a5e444b8385261096d55a1f2c0f2"), looks := true }, kinds := [], alts := [], laidByText := true, laidKinds := [.data, .listed, .data, .pinned, .pinned, .pinned, .pinned, .pinned, .pinned], laidTests := true, laidLooks := .later }
def FnClassicListCardSaid : Prop := Claim7.holds Tryd.pinned (.plain (OpenSpec.ofChange fnClassicListSpec)) fnClassicListCard

/-- THE TIED CARD OF 'laws.FnTimesBack'. -/
def fnTimesBackCard : Claim7 := { stood := { row := fnTimesBackRow, standIns := [], harness := (true, "52dcccf075e87df06b81d6f99473efff0562a5e444b8385261096d55a1f2c0f2"), looks := true }, kinds := [], alts := [], laidByText := true, laidKinds := [.data, .data, .data, .sentinel, .sentinel], laidTests := true, laidLooks := .later }
def FnTimesBackCardSaid : Prop := Claim7.holds Tryd.pinned (.plain (OpenSpec.ofChange fnTimesBackSpec)) fnTimesBackCard

/-- THE TIED CARD OF 'laws.FnYears'. -/
def fnYearsCard : Claim7 := { stood := { row := fnYearsRow, standIns := [], harness := (true, "52dcccf075e87df06b81d6f99473efff0562a5e444b8385261096d55a1f2c0f2"), looks := true }, kinds := [], alts := [], laidByText := true, laidKinds := [.data, .pinned, .pinned], laidTests := true, laidLooks := .later }
def FnYearsCardSaid : Prop := Claim7.holds Tryd.pinned (.plain (OpenSpec.ofChange fnYearsSpec)) fnYearsCard

/-- THE TIED CARD OF 'laws.FnDays'. -/
def fnDaysCard : Claim7 := { stood := { row := fnDaysRow, standIns := [], harness := (true, "52dcccf075e87df06b81d6f99473efff0562a5e444b8385261096d55a1f2c0f2"), looks := true }, kinds := [], alts := [], laidByText := true, laidKinds := [.data, .pinned, .pinned], laidTests := true, laidLooks := .later }
def FnDaysCardSaid : Prop := Claim7.holds Tryd.pinned (.plain (OpenSpec.ofChange fnDaysSpec)) fnDaysCard

/-- THE TIED CARD OF 'laws.FnCapitals'. -/
def fnCapitalsCard : Claim7 := { stood := { row := fnCapitalsRow, standIns := [], harness := (true, "52dcccf075e87df06b81d6f99473efff0562a5e444b8385261096d55a1f2c0f2"), looks := true }, kinds := [], alts := [], laidByText := true, laidKinds := [.data, .pinned, .pinned], laidTests := true, laidLooks := .later }
def FnCapitalsCardSaid : Prop := Claim7.holds Tryd.pinned (.plain (OpenSpec.ofChange fnCapitalsSpec)) fnCapitalsCard

/-- THE TIED CARD OF 'laws.FnOneOfRange'. -/
def fnOneOfRangeCard : Claim7 := { stood := { row := fnOneOfRangeRow, standIns := [], harness := (true, "52dcccf075e87df06b81d6f99473efff0562a5e444b8385261096d55a1f2c0f2"), looks := true }, kinds := [], alts := [], laidByText := true, laidKinds := [.data, .pinned, .pinned], laidTests := true, laidLooks := .later }
def FnOneOfRangeCardSaid : Prop := Claim7.holds Tryd.pinned (.plain (OpenSpec.ofChange fnOneOfRangeSpec)) fnOneOfRangeCard

/-- THE SECOND FORM's CARD OF 'laws.FnReadDuration'. -/
def fnReadDurationUptoCard : Claim7 := { stood := { row := fnReadDurationUptoRow, standIns := [], harness := (true, "52dcccf075e87df06b81d6f99473efff0562a5e444b8385261096d55a1f2c0f2"), looks := true }, kinds := [], alts := [], laidByText := true, laidKinds := [.data, .data, .data, .sentinel, .sentinel], laidTests := true, laidLooks := .later }
def FnReadDurationUptoCardSaid : Prop := Claim7.holds Tryd.pinned (.plain (OpenSpec.upto fnReadDurationSpec)) fnReadDurationUptoCard

/-- THE SECOND FORM's CARD OF 'laws.FnSignedSays'. -/
def fnSignedSaysUptoCard : Claim7 := { stood := { row := fnSignedSaysUptoRow, standIns := [], harness := (true, "52dcccf075e87df06b81d6f99473efff0562a5e444b8385261096d55a1f2c0f2"), looks := true }, kinds := [], alts := [], laidByText := true, laidKinds := [.data, .data, .data, .sentinel, .sentinel], laidTests := true, laidLooks := .later }
def FnSignedSaysUptoCardSaid : Prop := Claim7.holds Tryd.pinned (.plain (OpenSpec.upto fnSignedSaysSpec)) fnSignedSaysUptoCard

/-- THE SECOND FORM's CARD OF 'laws.FnClassicForms'. -/
def fnClassicFormsUptoCard : Claim7 := { stood := { row := fnClassicFormsUptoRow, standIns := [], harness := (true, "52dcccf075e87df06b81d6f99473efff0562a5e444b8385261096d55a1f2c0f2"), looks := true }, kinds := [], alts := [], laidByText := true, laidKinds := [.data, .pinned], laidTests := true, laidLooks := .later }
def FnClassicFormsUptoCardSaid : Prop := Claim7.holds Tryd.pinned (.plain (OpenSpec.upto fnClassicFormsSpec)) fnClassicFormsUptoCard

/-- THE SECOND FORM's CARD OF 'laws.FnClassicSingle'. -/
def fnClassicSingleUptoCard : Claim7 := { stood := { row := fnClassicSingleUptoRow, standIns := [], harness := (true, "52dcccf075e87df06b81d6f99473efff0562a5e444b8385261096d55a1f2c0f2"), looks := true }, kinds := [], alts := [], laidByText := true, laidKinds := [.data, .pinned], laidTests := true, laidLooks := .later }
def FnClassicSingleUptoCardSaid : Prop := Claim7.holds Tryd.pinned (.plain (OpenSpec.upto fnClassicSingleSpec)) fnClassicSingleUptoCard

/-- THE SECOND FORM's CARD OF 'laws.FnClassicList'. -/
def fnClassicListUptoCard : Claim7 := { stood := { row := fnClassicListUptoRow, standIns := [], harness := (true, "52dcccf075e87df06b81d6f99473efff0562a5e444b8385261096d55a1f2c0f2"), looks := true }, kinds := [], alts := [], laidByText := true, laidKinds := [.data, .listed, .data, .pinned, .pinned, .pinned, .pinned, .pinned, .pinned], laidTests := true, laidLooks := .later }
def FnClassicListUptoCardSaid : Prop := Claim7.holds Tryd.pinned (.plain (OpenSpec.upto fnClassicListSpec)) fnClassicListUptoCard

/-- THE SECOND FORM's CARD OF 'laws.FnTimesBack'. -/
def fnTimesBackUptoCard : Claim7 := { stood := { row := fnTimesBackUptoRow, standIns := [], harness := (true, "52dcccf075e87df06b81d6f99473efff0562a5e444b8385261096d55a1f2c0f2"), looks := true }, kinds := [], alts := [], laidByText := true, laidKinds := [.data, .data, .data, .sentinel, .sentinel], laidTests := true, laidLooks := .later }
def FnTimesBackUptoCardSaid : Prop := Claim7.holds Tryd.pinned (.plain (OpenSpec.upto fnTimesBackSpec)) fnTimesBackUptoCard

/-- THE SECOND FORM's CARD OF 'laws.FnYears'. -/
def fnYearsUptoCard : Claim7 := { stood := { row := fnYearsUptoRow, standIns := [], harness := (true, "52dcccf075e87df06b81d6f99473efff0562a5e444b8385261096d55a1f2c0f2"), looks := true }, kinds := [], alts := [], laidByText := true, laidKinds := [.data, .pinned, .pinned], laidTests := true, laidLooks := .later }
def FnYearsUptoCardSaid : Prop := Claim7.holds Tryd.pinned (.plain (OpenSpec.upto fnYearsSpec)) fnYearsUptoCard

/-- THE SECOND FORM's CARD OF 'laws.FnDays'. -/
def fnDaysUptoCard : Claim7 := { stood := { row := fnDaysUptoRow, standIns := [], harness := (true, "52dcccf075e87df06b81d6f99473efff0562a5e444b8385261096d55a1f2c0f2"), looks := true }, kinds := [], alts := [], laidByText := true, laidKinds := [.data, .pinned, .pinned], laidTests := true, laidLooks := .later }
def FnDaysUptoCardSaid : Prop := Claim7.holds Tryd.pinned (.plain (OpenSpec.upto fnDaysSpec)) fnDaysUptoCard

/-- THE SECOND FORM's CARD OF 'laws.FnCapitals'. -/
def fnCapitalsUptoCard : Claim7 := { stood := { row := fnCapitalsUptoRow, standIns := [], harness := (true, "52dcccf075e87df06b81d6f99473efff0562a5e444b8385261096d55a1f2c0f2"), looks := true }, kinds := [], alts := [], laidByText := true, laidKinds := [.data, .pinned, .pinned], laidTests := true, laidLooks := .later }
def FnCapitalsUptoCardSaid : Prop := Claim7.holds Tryd.pinned (.plain (OpenSpec.upto fnCapitalsSpec)) fnCapitalsUptoCard

/-- THE SECOND FORM's CARD OF 'laws.FnOneOfRange'. -/
def fnOneOfRangeUptoCard : Claim7 := { stood := { row := fnOneOfRangeUptoRow, standIns := [], harness := (true, "52dcccf075e87df06b81d6f99473efff0562a5e444b8385261096d55a1f2c0f2"), looks := true }, kinds := [], alts := [], laidByText := true, laidKinds := [.data, .pinned, .pinned], laidTests := true, laidLooks := .later }
def FnOneOfRangeUptoCardSaid : Prop := Claim7.holds Tryd.pinned (.plain (OpenSpec.upto fnOneOfRangeSpec)) fnOneOfRangeUptoCard
end Rows
end Go.Proofs.YtmmcibeeojfplaaDoor
