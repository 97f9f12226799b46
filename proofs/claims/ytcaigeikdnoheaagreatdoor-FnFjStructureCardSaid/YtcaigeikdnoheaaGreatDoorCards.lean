/-
  DERIVED. GIVEN WITH THE SEED: THE CARDS: each row of YtcaigeikdnoheaaGreatDoorRows.lean that lists a variable, with what it lists TIED to the program's text (the seventh form; the later family's looks); each row that meets fmt, with fmt's text TOLD by the authors' own Lean function (tested against real Go, not proved from fmt's source: count such statements apart). THE CARD IS WHAT COUNTS. Prove the row's statement (the work); the ties are given (YtcaigeikdnoheaaGreatDoorTie.lean); close each card by the builder's one call (the guide's Derived/Test/ToyasCard.lean, 'card_holds'). Laid BY PROGRAM, IN A SANDBOX (cutbox-door.mjs). By AI agents, Wed Nov 11 2026. No macro, syntax, notation, axiom, sorry.
-/
import Derived.Test.YtcaigeikdnoheaaGreatDoorRows
import GoSem.ClaimSeven
namespace Go.Proofs.YtcaigeikdnoheaaGreatDoor
namespace Rows

/-- THE TIED CARD OF 'laws.FnFjBuildRepeated'. -/
def fnFjBuildRepeatedCard : Claim7 := { stood := { row := fnFjBuildRepeatedRow, standIns := [], harness := (true, "186c6b26028444cc866c4f6407e216fd6a69d72a2335becb5853e1f2eb63e04d"), looks := true }, kinds := [], alts := [], laidByText := true, laidKinds := [.data, .data, .data, .data, .sentinel, .sentinel, .pinned, .pinned, .pinned, .pinned, .pinned, .pinned], laidTests := true, laidLooks := .later }
def FnFjBuildRepeatedCardSaid : Prop := Claim7.holds Tryz.pinned (.plain (OpenSpec.ofChange fnFjBuildRepeatedSpec)) fnFjBuildRepeatedCard

/-- THE TIED CARD OF 'laws.FnFjValueAt'. -/
def fnFjValueAtCard : Claim7 := { stood := { row := fnFjValueAtRow, standIns := [], harness := (true, "186c6b26028444cc866c4f6407e216fd6a69d72a2335becb5853e1f2eb63e04d"), looks := true }, kinds := [], alts := [], laidByText := true, laidKinds := [.data, .data, .data, .data, .sentinel, .sentinel, .pinned, .pinned, .pinned, .pinned, .pinned, .pinned], laidTests := true, laidLooks := .later }
def FnFjValueAtCardSaid : Prop := Claim7.holds Tryz.pinned (.plain (OpenSpec.ofChange fnFjValueAtSpec)) fnFjValueAtCard

/-- THE TIED CARD OF 'laws.FnFjStructure'. -/
def fnFjStructureCard : Claim7 := { stood := { row := fnFjStructureRow, standIns := [], harness := (true, "186c6b26028444cc866c4f6407e216fd6a69d72a2335becb5853e1f2eb63e04d"), looks := true }, kinds := [], alts := [], laidByText := true, laidKinds := [.data, .data, .data, .data, .sentinel, .sentinel, .pinned, .pinned, .pinned, .pinned, .pinned, .pinned], laidTests := true, laidLooks := .later }
def FnFjStructureCardSaid : Prop := Claim7.holds Tryz.pinned (.plain (OpenSpec.ofChange fnFjStructureSpec)) fnFjStructureCard

/-- THE SECOND FORM's CARD OF 'laws.FnFjBuildRepeated'. -/
def fnFjBuildRepeatedUptoCard : Claim7 := { stood := { row := fnFjBuildRepeatedUptoRow, standIns := [], harness := (true, "186c6b26028444cc866c4f6407e216fd6a69d72a2335becb5853e1f2eb63e04d"), looks := true }, kinds := [], alts := [], laidByText := true, laidKinds := [.data, .data, .data, .data, .sentinel, .sentinel, .pinned, .pinned, .pinned, .pinned, .pinned, .pinned], laidTests := true, laidLooks := .later }
def FnFjBuildRepeatedUptoCardSaid : Prop := Claim7.holds Tryz.pinned (.plain (OpenSpec.upto fnFjBuildRepeatedSpec)) fnFjBuildRepeatedUptoCard

/-- THE SECOND FORM's CARD OF 'laws.FnFjValueAt'. -/
def fnFjValueAtUptoCard : Claim7 := { stood := { row := fnFjValueAtUptoRow, standIns := [], harness := (true, "186c6b26028444cc866c4f6407e216fd6a69d72a2335becb5853e1f2eb63e04d"), looks := true }, kinds := [], alts := [], laidByText := true, laidKinds := [.data, .data, .data, .data, .sentinel, .sentinel, .pinned, .pinned, .pinned, .pinned, .pinned, .pinned], laidTests := true, laidLooks := .later }
def FnFjValueAtUptoCardSaid : Prop := Claim7.holds Tryz.pinned (.plain (OpenSpec.upto fnFjValueAtSpec)) fnFjValueAtUptoCard

/-- THE SECOND FORM's CARD OF 'laws.FnFjStructure'. -/
def fnFjStructureUptoCard : Claim7 := { stood := { row := fnFjStructureUptoRow, standIns := [], harness := (true, "186c6b26028444cc866c4f6407e216fd6a69d72a2335becb5853e1f2eb63e04d"), looks := true }, kinds := [], alts := [], laidByText := true, laidKinds := [.data, .data, .data, .data, .sentinel, .sentinel, .pinned, .pinned, .pinned, .pinned, .pinned, .pinned], laidTests := true, laidLooks := .later }
def FnFjStructureUptoCardSaid : Prop := Claim7.holds Tryz.pinned (.plain (OpenSpec.upto fnFjStructureSpec)) fnFjStructureUptoCard
end Rows
end Go.Proofs.YtcaigeikdnoheaaGreatDoor
