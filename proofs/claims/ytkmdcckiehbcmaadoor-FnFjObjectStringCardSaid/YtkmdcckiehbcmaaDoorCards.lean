/-
  DERIVED. GIVEN WITH THE SEED: THE CARDS: each row of YtkmdcckiehbcmaaDoorRows.lean that lists a variable, with what it lists TIED to the program's text (the seventh form; the later family's looks); each row that meets fmt, with fmt's text TOLD by the authors' own Lean function (tested against real Go, not proved from fmt's source: count such statements apart). THE CARD IS WHAT COUNTS. Prove the row's statement (the work); the ties are given (YtkmdcckiehbcmaaDoorTie.lean); close each card by the builder's one call (the guide's Derived/Test/ToyasCard.lean, 'card_holds'). Laid BY PROGRAM, IN A SANDBOX (cutbox-door.mjs). By AI agents, Wed Nov 11 2026. No macro, syntax, notation, axiom, sorry.
-/
import Derived.Test.YtkmdcckiehbcmaaDoorRows
import GoSem.ClaimSeven
namespace Go.Proofs.YtkmdcckiehbcmaaDoor
namespace Rows

/-- THE TIED CARD OF 'laws.FnFjQuote'. -/
def fnFjQuoteCard : Claim7 := { stood := { row := fnFjQuoteRow, standIns := [], harness := (true, "2290a30d32bea822b37bccf03f27e830b7bf10979f5b8301635d40abe1d43bbb"), looks := true }, kinds := [], alts := [], laidByText := true, laidKinds := [.data, .pinned, .pinned, .pinned, .pinned, .pinned, .pinned], laidTests := true, laidLooks := .later }
def FnFjQuoteCardSaid : Prop := Claim7.holds Tryd.pinned (.plain (OpenSpec.ofChange fnFjQuoteSpec)) fnFjQuoteCard

/-- THE TIED CARD OF 'laws.FnFjUnescapeAll'. -/
def fnFjUnescapeAllCard : Claim7 := { stood := { row := fnFjUnescapeAllRow, standIns := [], harness := (true, "2290a30d32bea822b37bccf03f27e830b7bf10979f5b8301635d40abe1d43bbb"), looks := true }, kinds := [], alts := [], laidByText := true, laidKinds := [.data, .data, .data, .sentinel, .sentinel], laidTests := true, laidLooks := .later }
def FnFjUnescapeAllCardSaid : Prop := Claim7.holds Tryd.pinned (.plain (OpenSpec.ofChange fnFjUnescapeAllSpec)) fnFjUnescapeAllCard

/-- THE TIED CARD OF 'laws.FnFjUnescapeParts'. -/
def fnFjUnescapePartsCard : Claim7 := { stood := { row := fnFjUnescapePartsRow, standIns := [], harness := (true, "2290a30d32bea822b37bccf03f27e830b7bf10979f5b8301635d40abe1d43bbb"), looks := true }, kinds := [], alts := [], laidByText := true, laidKinds := [.data, .data, .data, .sentinel, .sentinel], laidTests := true, laidLooks := .later }
def FnFjUnescapePartsCardSaid : Prop := Claim7.holds Tryd.pinned (.plain (OpenSpec.ofChange fnFjUnescapePartsSpec)) fnFjUnescapePartsCard

/-- THE TIED CARD OF 'laws.FnFjString'. -/
def fnFjStringCard : Claim7 := { stood := { row := fnFjStringRow, standIns := [], harness := (true, "2290a30d32bea822b37bccf03f27e830b7bf10979f5b8301635d40abe1d43bbb"), looks := true }, kinds := [], alts := [], laidByText := true, laidKinds := [.data, .pinned, .pinned, .pinned, .pinned, .pinned, .pinned], laidTests := true, laidLooks := .later }
def FnFjStringCardSaid : Prop := Claim7.holds Tryd.pinned (.plain (OpenSpec.ofChange fnFjStringSpec)) fnFjStringCard

/-- THE TIED CARD OF 'laws.FnFjObjectString'. -/
def fnFjObjectStringCard : Claim7 := { stood := { row := fnFjObjectStringRow, standIns := [], harness := (true, "2290a30d32bea822b37bccf03f27e830b7bf10979f5b8301635d40abe1d43bbb"), looks := true }, kinds := [], alts := [], laidByText := true, laidKinds := [.data, .pinned, .pinned, .pinned, .pinned, .pinned, .pinned], laidTests := true, laidLooks := .later }
def FnFjObjectStringCardSaid : Prop := Claim7.holds Tryd.pinned (.plain (OpenSpec.ofChange fnFjObjectStringSpec)) fnFjObjectStringCard

/-- THE SECOND FORM's CARD OF 'laws.FnFjQuote'. -/
def fnFjQuoteUptoCard : Claim7 := { stood := { row := fnFjQuoteUptoRow, standIns := [], harness := (true, "2290a30d32bea822b37bccf03f27e830b7bf10979f5b8301635d40abe1d43bbb"), looks := true }, kinds := [], alts := [], laidByText := true, laidKinds := [.data, .pinned, .pinned, .pinned, .pinned, .pinned, .pinned], laidTests := true, laidLooks := .later }
def FnFjQuoteUptoCardSaid : Prop := Claim7.holds Tryd.pinned (.plain (OpenSpec.upto fnFjQuoteSpec)) fnFjQuoteUptoCard

/-- THE SECOND FORM's CARD OF 'laws.FnFjUnescapeAll'. -/
def fnFjUnescapeAllUptoCard : Claim7 := { stood := { row := fnFjUnescapeAllUptoRow, standIns := [], harness := (true, "2290a30d32bea822b37bccf03f27e830b7bf10979f5b8301635d40abe1d43bbb"), looks := true }, kinds := [], alts := [], laidByText := true, laidKinds := [.data, .data, .data, .sentinel, .sentinel], laidTests := true, laidLooks := .later }
def FnFjUnescapeAllUptoCardSaid : Prop := Claim7.holds Tryd.pinned (.plain (OpenSpec.upto fnFjUnescapeAllSpec)) fnFjUnescapeAllUptoCard

/-- THE SECOND FORM's CARD OF 'laws.FnFjUnescapeParts'. -/
def fnFjUnescapePartsUptoCard : Claim7 := { stood := { row := fnFjUnescapePartsUptoRow, standIns := [], harness := (true, "2290a30d32bea822b37bccf03f27e830b7bf10979f5b8301635d40abe1d43bbb"), looks := true }, kinds := [], alts := [], laidByText := true, laidKinds := [.data, .data, .data, .sentinel, .sentinel], laidTests := true, laidLooks := .later }
def FnFjUnescapePartsUptoCardSaid : Prop := Claim7.holds Tryd.pinned (.plain (OpenSpec.upto fnFjUnescapePartsSpec)) fnFjUnescapePartsUptoCard

/-- THE SECOND FORM's CARD OF 'laws.FnFjString'. -/
def fnFjStringUptoCard : Claim7 := { stood := { row := fnFjStringUptoRow, standIns := [], harness := (true, "2290a30d32bea822b37bccf03f27e830b7bf10979f5b8301635d40abe1d43bbb"), looks := true }, kinds := [], alts := [], laidByText := true, laidKinds := [.data, .pinned, .pinned, .pinned, .pinned, .pinned, .pinned], laidTests := true, laidLooks := .later }
def FnFjStringUptoCardSaid : Prop := Claim7.holds Tryd.pinned (.plain (OpenSpec.upto fnFjStringSpec)) fnFjStringUptoCard

/-- THE SECOND FORM's CARD OF 'laws.FnFjObjectString'. -/
def fnFjObjectStringUptoCard : Claim7 := { stood := { row := fnFjObjectStringUptoRow, standIns := [], harness := (true, "2290a30d32bea822b37bccf03f27e830b7bf10979f5b8301635d40abe1d43bbb"), looks := true }, kinds := [], alts := [], laidByText := true, laidKinds := [.data, .pinned, .pinned, .pinned, .pinned, .pinned, .pinned], laidTests := true, laidLooks := .later }
def FnFjObjectStringUptoCardSaid : Prop := Claim7.holds Tryd.pinned (.plain (OpenSpec.upto fnFjObjectStringSpec)) fnFjObjectStringUptoCard
end Rows
end Go.Proofs.YtkmdcckiehbcmaaDoor
