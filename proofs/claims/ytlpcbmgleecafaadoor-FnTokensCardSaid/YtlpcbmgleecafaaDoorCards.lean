/-
  DERIVED. GIVEN WITH THE SEED: THE CARDS: each row of YtlpcbmgleecafaaDoorRows.lean that lists a variable, with what it lists TIED to the program's text (the seventh form; the later family's looks); each row that meets fmt, with fmt's text TOLD by the authors' own Lean function (tested against real Go, not proved from fmt's source: count such statements apart). THE CARD IS WHAT COUNTS. Prove the row's statement (the work); the ties are given (YtlpcbmgleecafaaDoorTie.lean); close each card by the builder's one call (the guide's Derived/Test/ToyasCard.lean, 'card_holds'). Laid BY PROGRAM, IN A SANDBOX (cutbox-door.mjs). By AI agents, Wed Nov 11 2026. No macro, syntax, notation, axiom, sorry.
-/
import Derived.Test.YtlpcbmgleecafaaDoorRows
import GoSem.ClaimSeven
namespace Go.Proofs.YtlpcbmgleecafaaDoor
namespace Rows

/-- THE TIED CARD OF 'laws.FnTokenAlone'. -/
def fnTokenAloneCard : Claim7 := { stood := { row := fnTokenAloneRow, standIns := [], harness := (true, "a34c82a3d9974f63f1d0d27b8d491516b03858b8e7bc2186f508cdcf87b3df42"), looks := false }, kinds := [], alts := [], laidByText := true, laidKinds := [.data, .listed, .pinned], laidTests := true, laidLooks := .later }
def FnTokenAloneCardSaid : Prop := Claim7.holds Tryd.pinned (.plain (OpenSpec.ofChange fnTokenAloneSpec)) fnTokenAloneCard

/-- THE TIED CARD OF 'laws.FnTokens'. -/
def fnTokensCard : Claim7 := { stood := { row := fnTokensRow, standIns := [], harness := (true, "a34c82a3d9974f63f1d0d27b8d491516b03858b8e7bc2186f508cdcf87b3df42"), looks := false }, kinds := [], alts := [], laidByText := true, laidKinds := [.data, .listed, .pinned], laidTests := true, laidLooks := .later }
def FnTokensCardSaid : Prop := Claim7.holds Tryd.pinned (.plain (OpenSpec.ofChange fnTokensSpec)) fnTokensCard

/-- THE TIED CARD OF 'laws.FnTokensPeeked'. -/
def fnTokensPeekedCard : Claim7 := { stood := { row := fnTokensPeekedRow, standIns := [], harness := (true, "a34c82a3d9974f63f1d0d27b8d491516b03858b8e7bc2186f508cdcf87b3df42"), looks := false }, kinds := [], alts := [], laidByText := true, laidKinds := [.data, .listed, .pinned], laidTests := true, laidLooks := .later }
def FnTokensPeekedCardSaid : Prop := Claim7.holds Tryd.pinned (.plain (OpenSpec.ofChange fnTokensPeekedSpec)) fnTokensPeekedCard

/-- THE SECOND FORM's CARD OF 'laws.FnTokenAlone'. -/
def fnTokenAloneUptoCard : Claim7 := { stood := { row := fnTokenAloneUptoRow, standIns := [], harness := (true, "a34c82a3d9974f63f1d0d27b8d491516b03858b8e7bc2186f508cdcf87b3df42"), looks := false }, kinds := [], alts := [], laidByText := true, laidKinds := [.data, .listed, .pinned], laidTests := true, laidLooks := .later }
def FnTokenAloneUptoCardSaid : Prop := Claim7.holds Tryd.pinned (.plain (OpenSpec.upto fnTokenAloneSpec)) fnTokenAloneUptoCard

/-- THE SECOND FORM's CARD OF 'laws.FnTokens'. -/
def fnTokensUptoCard : Claim7 := { stood := { row := fnTokensUptoRow, standIns := [], harness := (true, "a34c82a3d9974f63f1d0d27b8d491516b03858b8e7bc2186f508cdcf87b3df42"), looks := false }, kinds := [], alts := [], laidByText := true, laidKinds := [.data, .listed, .pinned], laidTests := true, laidLooks := .later }
def FnTokensUptoCardSaid : Prop := Claim7.holds Tryd.pinned (.plain (OpenSpec.upto fnTokensSpec)) fnTokensUptoCard

/-- THE SECOND FORM's CARD OF 'laws.FnTokensPeeked'. -/
def fnTokensPeekedUptoCard : Claim7 := { stood := { row := fnTokensPeekedUptoRow, standIns := [], harness := (true, "a34c82a3d9974f63f1d0d27b8d491516b03858b8e7bc2186f508cdcf87b3df42"), looks := false }, kinds := [], alts := [], laidByText := true, laidKinds := [.data, .listed, .pinned], laidTests := true, laidLooks := .later }
def FnTokensPeekedUptoCardSaid : Prop := Claim7.holds Tryd.pinned (.plain (OpenSpec.upto fnTokensPeekedSpec)) fnTokensPeekedUptoCard
end Rows
end Go.Proofs.YtlpcbmgleecafaaDoor
