/-
  DERIVED. GIVEN WITH THE SEED: THE CARDS: each row of YthehnffmbdlopaaDoorRows.lean that lists a variable, with what it lists TIED to the program's text (the seventh form; the later family's looks); each row that meets fmt, with fmt's text TOLD by the authors' own Lean function (tested against real Go, not proved from fmt's source: count such statements apart). THE CARD IS WHAT COUNTS. Prove the row's statement (the work); the ties are given (YthehnffmbdlopaaDoorTie.lean); close each card by the builder's one call (the guide's Derived/Test/ToyasCard.lean, 'card_holds'). Laid BY PROGRAM, IN A SANDBOX (cutbox-door.mjs). By AI agents, Wed Nov 11 2026. No macro, syntax, notation, axiom, sorry.
-/
import Derived.Test.YthehnffmbdlopaaDoorRows
import GoSem.ClaimSeven
namespace Go.Proofs.YthehnffmbdlopaaDoor
namespace Rows

/-- THE TIED CARD OF 'laws.FnJpSearch'. -/
def fnJpSearchCard : Claim7 := { stood := { row := fnJpSearchRow, standIns := [], harness := (true, "4b759924515a954052b445afcc7f6143803529f44c486cb287ff4d90f2947c62"), looks := true }, kinds := [], alts := [], laidByText := true, laidKinds := [.data, .data, .data, .sentinel, .sentinel, .data, .data, .sentinel, .sentinel, .sentinel, .sentinel, .sentinel, .sentinel, .sentinel], laidTests := true, laidLooks := .later }
def FnJpSearchCardSaid : Prop := Claim7.holds Tryd.pinned (.plain (OpenSpec.ofChange fnJpSearchSpec)) fnJpSearchCard

/-- THE TIED CARD OF 'laws.FnJpGetRest'. -/
def fnJpGetRestCard : Claim7 := { stood := { row := fnJpGetRestRow, standIns := [], harness := (true, "4b759924515a954052b445afcc7f6143803529f44c486cb287ff4d90f2947c62"), looks := true }, kinds := [], alts := [], laidByText := true, laidKinds := [.data, .data, .data, .sentinel, .sentinel, .data, .data, .sentinel, .sentinel, .sentinel, .sentinel, .sentinel, .sentinel, .sentinel], laidTests := true, laidLooks := .later }
def FnJpGetRestCardSaid : Prop := Claim7.holds Tryd.pinned (.plain (OpenSpec.ofChange fnJpGetRestSpec)) fnJpGetRestCard

/-- THE TIED CARD OF 'laws.FnJrGetCutAt'. -/
def fnJrGetCutAtCard : Claim7 := { stood := { row := fnJrGetCutAtRow, standIns := [], harness := (true, "4b759924515a954052b445afcc7f6143803529f44c486cb287ff4d90f2947c62"), looks := true }, kinds := [], alts := [], laidByText := true, laidKinds := [.data, .data, .data, .sentinel, .sentinel, .data, .data, .sentinel, .sentinel, .sentinel, .sentinel, .sentinel, .sentinel, .sentinel, .sentinel, .sentinel, .sentinel], laidTests := true, laidLooks := .later }
def FnJrGetCutAtCardSaid : Prop := Claim7.holds Tryd.pinned (.plain (OpenSpec.ofChange fnJrGetCutAtSpec)) fnJrGetCutAtCard

/-- THE TIED CARD OF 'laws.FnJpObjectCut'. -/
def fnJpObjectCutCard : Claim7 := { stood := { row := fnJpObjectCutRow, standIns := [], harness := (true, "4b759924515a954052b445afcc7f6143803529f44c486cb287ff4d90f2947c62"), looks := true }, kinds := [], alts := [], laidByText := true, laidKinds := [.data, .data, .data, .sentinel, .sentinel, .data, .data, .sentinel, .sentinel, .sentinel, .sentinel, .sentinel, .sentinel, .sentinel], laidTests := true, laidLooks := .later }
def FnJpObjectCutCardSaid : Prop := Claim7.holds Tryd.pinned (.plain (OpenSpec.ofChange fnJpObjectCutSpec)) fnJpObjectCutCard

/-- THE TIED CARD OF 'laws.FnJpEachOffsets'. -/
def fnJpEachOffsetsCard : Claim7 := { stood := { row := fnJpEachOffsetsRow, standIns := [], harness := (true, "4b759924515a954052b445afcc7f6143803529f44c486cb287ff4d90f2947c62"), looks := true }, kinds := [], alts := [], laidByText := true, laidKinds := [.data, .data, .data, .sentinel, .sentinel, .data, .data, .sentinel, .sentinel, .sentinel, .sentinel, .sentinel, .sentinel, .sentinel], laidTests := true, laidLooks := .later }
def FnJpEachOffsetsCardSaid : Prop := Claim7.holds Tryd.pinned (.plain (OpenSpec.ofChange fnJpEachOffsetsSpec)) fnJpEachOffsetsCard

/-- THE SECOND FORM's CARD OF 'laws.FnJpSearch'. -/
def fnJpSearchUptoCard : Claim7 := { stood := { row := fnJpSearchUptoRow, standIns := [], harness := (true, "4b759924515a954052b445afcc7f6143803529f44c486cb287ff4d90f2947c62"), looks := true }, kinds := [], alts := [], laidByText := true, laidKinds := [.data, .data, .data, .sentinel, .sentinel, .data, .data, .sentinel, .sentinel, .sentinel, .sentinel, .sentinel, .sentinel, .sentinel], laidTests := true, laidLooks := .later }
def FnJpSearchUptoCardSaid : Prop := Claim7.holds Tryd.pinned (.plain (OpenSpec.upto fnJpSearchSpec)) fnJpSearchUptoCard

/-- THE SECOND FORM's CARD OF 'laws.FnJpGetRest'. -/
def fnJpGetRestUptoCard : Claim7 := { stood := { row := fnJpGetRestUptoRow, standIns := [], harness := (true, "4b759924515a954052b445afcc7f6143803529f44c486cb287ff4d90f2947c62"), looks := true }, kinds := [], alts := [], laidByText := true, laidKinds := [.data, .data, .data, .sentinel, .sentinel, .data, .data, .sentinel, .sentinel, .sentinel, .sentinel, .sentinel, .sentinel, .sentinel], laidTests := true, laidLooks := .later }
def FnJpGetRestUptoCardSaid : Prop := Claim7.holds Tryd.pinned (.plain (OpenSpec.upto fnJpGetRestSpec)) fnJpGetRestUptoCard

/-- THE SECOND FORM's CARD OF 'laws.FnJrGetCutAt'. -/
def fnJrGetCutAtUptoCard : Claim7 := { stood := { row := fnJrGetCutAtUptoRow, standIns := [], harness := (true, "4b759924515a954052b445afcc7f6143803529f44c486cb287ff4d90f2947c62"), looks := true }, kinds := [], alts := [], laidByText := true, laidKinds := [.data, .data, .data, .sentinel, .sentinel, .data, .data, .sentinel, .sentinel, .sentinel, .sentinel, .sentinel, .sentinel, .sentinel, .sentinel, .sentinel, .sentinel], laidTests := true, laidLooks := .later }
def FnJrGetCutAtUptoCardSaid : Prop := Claim7.holds Tryd.pinned (.plain (OpenSpec.upto fnJrGetCutAtSpec)) fnJrGetCutAtUptoCard

/-- THE SECOND FORM's CARD OF 'laws.FnJpObjectCut'. -/
def fnJpObjectCutUptoCard : Claim7 := { stood := { row := fnJpObjectCutUptoRow, standIns := [], harness := (true, "4b759924515a954052b445afcc7f6143803529f44c486cb287ff4d90f2947c62"), looks := true }, kinds := [], alts := [], laidByText := true, laidKinds := [.data, .data, .data, .sentinel, .sentinel, .data, .data, .sentinel, .sentinel, .sentinel, .sentinel, .sentinel, .sentinel, .sentinel], laidTests := true, laidLooks := .later }
def FnJpObjectCutUptoCardSaid : Prop := Claim7.holds Tryd.pinned (.plain (OpenSpec.upto fnJpObjectCutSpec)) fnJpObjectCutUptoCard

/-- THE SECOND FORM's CARD OF 'laws.FnJpEachOffsets'. -/
def fnJpEachOffsetsUptoCard : Claim7 := { stood := { row := fnJpEachOffsetsUptoRow, standIns := [], harness := (true, "4b759924515a954052b445afcc7f6143803529f44c486cb287ff4d90f2947c62"), looks := true }, kinds := [], alts := [], laidByText := true, laidKinds := [.data, .data, .data, .sentinel, .sentinel, .data, .data, .sentinel, .sentinel, .sentinel, .sentinel, .sentinel, .sentinel, .sentinel], laidTests := true, laidLooks := .later }
def FnJpEachOffsetsUptoCardSaid : Prop := Claim7.holds Tryd.pinned (.plain (OpenSpec.upto fnJpEachOffsetsSpec)) fnJpEachOffsetsUptoCard
end Rows
end Go.Proofs.YthehnffmbdlopaaDoor
