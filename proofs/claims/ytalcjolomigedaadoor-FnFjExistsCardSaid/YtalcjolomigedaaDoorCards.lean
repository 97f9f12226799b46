/-
  DERIVED. GIVEN WITH THE SEED: THE CARDS: each row of YtalcjolomigedaaDoorRows.lean that lists a variable, with what it lists TIED to the program's text (the seventh form; the later family's looks); each row that meets fmt, with fmt's text TOLD by the authors' own Lean function (tested against real Go, not proved from fmt's source: count such statements apart). THE CARD IS WHAT COUNTS. Prove the row's statement (the work); the ties are given (YtalcjolomigedaaDoorTie.lean); close each card by the builder's one call (the guide's Derived/Test/ToyasCard.lean, 'card_holds'). Laid BY PROGRAM, IN A SANDBOX (cutbox-door.mjs). By AI agents, Wed Nov 11 2026. No macro, syntax, notation, axiom, sorry.
-/
import Derived.Test.YtalcjolomigedaaDoorRows
import GoSem.ClaimSeven
namespace Go.Proofs.YtalcjolomigedaaDoor
namespace Rows

/-- THE TIED CARD OF 'laws.FnFjUnescapeAll'. -/
def fnFjUnescapeAllCard : Claim7 := { stood := { row := fnFjUnescapeAllRow, standIns := [], harness := (true, "0551425ee668ed9e692113eac3a0bbcea2ad37d60dd4816cb647b70285230bf6"), looks := true }, kinds := [], alts := [], laidByText := true, laidKinds := [.data, .data, .data, .sentinel, .sentinel], laidTests := true, laidLooks := .later }
def FnFjUnescapeAllCardSaid : Prop := Claim7.holds Tryd.pinned (.plain (OpenSpec.ofChange fnFjUnescapeAllSpec)) fnFjUnescapeAllCard

/-- THE TIED CARD OF 'laws.FnFjString'. -/
def fnFjStringCard : Claim7 := { stood := { row := fnFjStringRow, standIns := [], harness := (true, "0551425ee668ed9e692113eac3a0bbcea2ad37d60dd4816cb647b70285230bf6"), looks := true }, kinds := [], alts := [], laidByText := true, laidKinds := [.data, .pinned, .pinned, .pinned, .pinned, .pinned, .pinned], laidTests := true, laidLooks := .later }
def FnFjStringCardSaid : Prop := Claim7.holds Tryd.pinned (.plain (OpenSpec.ofChange fnFjStringSpec)) fnFjStringCard

/-- THE TIED CARD OF 'laws.FnFjInt'. -/
def fnFjIntCard : Claim7 := { stood := { row := fnFjIntRow, standIns := [], harness := (true, "0551425ee668ed9e692113eac3a0bbcea2ad37d60dd4816cb647b70285230bf6"), looks := true }, kinds := [], alts := [], laidByText := true, laidKinds := [.data, .data, .data, .sentinel, .sentinel], laidTests := true, laidLooks := .later }
def FnFjIntCardSaid : Prop := Claim7.holds Tryd.pinned (.plain (OpenSpec.ofChange fnFjIntSpec)) fnFjIntCard

/-- THE TIED CARD OF 'laws.FnFjExists'. -/
def fnFjExistsCard : Claim7 := { stood := { row := fnFjExistsRow, standIns := [], harness := (true, "0551425ee668ed9e692113eac3a0bbcea2ad37d60dd4816cb647b70285230bf6"), looks := true }, kinds := [], alts := [], laidByText := true, laidKinds := [.data, .data, .data, .sentinel, .sentinel], laidTests := true, laidLooks := .later }
def FnFjExistsCardSaid : Prop := Claim7.holds Tryd.pinned (.plain (OpenSpec.ofChange fnFjExistsSpec)) fnFjExistsCard

/-- THE SECOND FORM's CARD OF 'laws.FnFjUnescapeAll'. -/
def fnFjUnescapeAllUptoCard : Claim7 := { stood := { row := fnFjUnescapeAllUptoRow, standIns := [], harness := (true, "0551425ee668ed9e692113eac3a0bbcea2ad37d60dd4816cb647b70285230bf6"), looks := true }, kinds := [], alts := [], laidByText := true, laidKinds := [.data, .data, .data, .sentinel, .sentinel], laidTests := true, laidLooks := .later }
def FnFjUnescapeAllUptoCardSaid : Prop := Claim7.holds Tryd.pinned (.plain (OpenSpec.upto fnFjUnescapeAllSpec)) fnFjUnescapeAllUptoCard

/-- THE SECOND FORM's CARD OF 'laws.FnFjString'. -/
def fnFjStringUptoCard : Claim7 := { stood := { row := fnFjStringUptoRow, standIns := [], harness := (true, "0551425ee668ed9e692113eac3a0bbcea2ad37d60dd4816cb647b70285230bf6"), looks := true }, kinds := [], alts := [], laidByText := true, laidKinds := [.data, .pinned, .pinned, .pinned, .pinned, .pinned, .pinned], laidTests := true, laidLooks := .later }
def FnFjStringUptoCardSaid : Prop := Claim7.holds Tryd.pinned (.plain (OpenSpec.upto fnFjStringSpec)) fnFjStringUptoCard

/-- THE SECOND FORM's CARD OF 'laws.FnFjInt'. -/
def fnFjIntUptoCard : Claim7 := { stood := { row := fnFjIntUptoRow, standIns := [], harness := (true, "0551425ee668ed9e692113eac3a0bbcea2ad37d60dd4816cb647b70285230bf6"), looks := true }, kinds := [], alts := [], laidByText := true, laidKinds := [.data, .data, .data, .sentinel, .sentinel], laidTests := true, laidLooks := .later }
def FnFjIntUptoCardSaid : Prop := Claim7.holds Tryd.pinned (.plain (OpenSpec.upto fnFjIntSpec)) fnFjIntUptoCard

/-- THE SECOND FORM's CARD OF 'laws.FnFjExists'. -/
def fnFjExistsUptoCard : Claim7 := { stood := { row := fnFjExistsUptoRow, standIns := [], harness := (true, "0551425ee668ed9e692113eac3a0bbcea2ad37d60dd4816cb647b70285230bf6"), looks := true }, kinds := [], alts := [], laidByText := true, laidKinds := [.data, .data, .data, .sentinel, .sentinel], laidTests := true, laidLooks := .later }
def FnFjExistsUptoCardSaid : Prop := Claim7.holds Tryd.pinned (.plain (OpenSpec.upto fnFjExistsSpec)) fnFjExistsUptoCard
end Rows
end Go.Proofs.YtalcjolomigedaaDoor
