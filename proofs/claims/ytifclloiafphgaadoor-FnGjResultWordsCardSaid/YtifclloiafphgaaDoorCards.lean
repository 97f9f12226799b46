/-
  DERIVED. GIVEN WITH THE SEED: THE CARDS: each row of YtifclloiafphgaaDoorRows.lean that lists a variable, with what it lists TIED to the program's text (the seventh form; the later family's looks); each row that meets fmt, with fmt's text TOLD by the authors' own Lean function (tested against real Go, not proved from fmt's source: count such statements apart). THE CARD IS WHAT COUNTS. Prove the row's statement (the work); the ties are given (YtifclloiafphgaaDoorTie.lean); close each card by the builder's one call (the guide's Derived/Test/ToyasCard.lean, 'card_holds'). Laid BY PROGRAM, IN A SANDBOX (cutbox-door.mjs). By AI agents, Wed Nov 11 2026. No macro, syntax, notation, axiom, sorry.
-/
import Derived.Test.YtifclloiafphgaaDoorRows
import GoSem.ClaimSeven
namespace Go.Proofs.YtifclloiafphgaaDoor
namespace Rows

/-- THE TIED CARD OF 'laws.FnGjResultWords'. -/
def fnGjResultWordsCard : Claim7 := { stood := { row := fnGjResultWordsRow, standIns := [], harness := (true, "2aab60a47583cf5ec1177e91f3ea44618bee5c5a75f2c4d260ae5c44ba96b9b3"), looks := true }, kinds := [], alts := [], laidByText := true, laidKinds := [.data, .data, .widerDeep, .widerDeep, .data, .data, .data, .data, .data, .sentinel, .sentinel, .pinned, .pinned], laidTests := true, laidLooks := .later }
def FnGjResultWordsCardSaid : Prop := Claim7.holds Tryd.pinned (.plain (OpenSpec.ofChange fnGjResultWordsSpec)) fnGjResultWordsCard

/-- THE SECOND FORM's CARD OF 'laws.FnGjResultWords'. -/
def fnGjResultWordsUptoCard : Claim7 := { stood := { row := fnGjResultWordsUptoRow, standIns := [], harness := (true, "2aab60a47583cf5ec1177e91f3ea44618bee5c5a75f2c4d260ae5c44ba96b9b3"), looks := true }, kinds := [], alts := [], laidByText := true, laidKinds := [.data, .data, .widerDeep, .widerDeep, .data, .data, .data, .data, .data, .sentinel, .sentinel, .pinned, .pinned], laidTests := true, laidLooks := .later }
def FnGjResultWordsUptoCardSaid : Prop := Claim7.holds Tryd.pinned (.plain (OpenSpec.upto fnGjResultWordsSpec)) fnGjResultWordsUptoCard
end Rows
end Go.Proofs.YtifclloiafphgaaDoor
