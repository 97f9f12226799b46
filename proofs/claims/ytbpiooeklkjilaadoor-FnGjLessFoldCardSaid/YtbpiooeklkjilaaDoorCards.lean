/-
  DERIVED. GIVEN WITH THE SEED: THE CARDS: each row of YtbpiooeklkjilaaDoorRows.lean that lists a variable, with what it lists TIED to the program's text (the seventh form; the later family's looks); each row that meets fmt, with fmt's text TOLD by the authors' own Lean function (tested against real Go, not proved from fmt's source: count such statements apart). THE CARD IS WHAT COUNTS. Prove the row's statement (the work); the ties are given (YtbpiooeklkjilaaDoorTie.lean); close each card by the builder's one call (the guide's Derived/Test/ToyasCard.lean, 'card_holds'). Laid BY PROGRAM, IN A SANDBOX (cutbox-door.mjs). By AI agents, Wed Nov 11 2026. No macro, syntax, notation, axiom, sorry.
-/
import Derived.Test.YtbpiooeklkjilaaDoorRows
import GoSem.ClaimSeven
namespace Go.Proofs.YtbpiooeklkjilaaDoor
namespace Rows

/-- THE TIED CARD OF 'laws.FnGjLessFold'. -/
def fnGjLessFoldCard : Claim7 := { stood := { row := fnGjLessFoldRow, standIns := [], harness := (true, "207e08421afda6abea55927cf1b58f9b3efbf9d767094fad0ad5023d281937c8"), looks := true }, kinds := [], alts := [], laidByText := true, laidKinds := [.data, .data, .widerDeep, .widerDeep, .data, .data, .data, .data, .data, .sentinel, .sentinel, .pinned, .pinned], laidTests := true, laidLooks := .later }
def FnGjLessFoldCardSaid : Prop := Claim7.holds Tryd.pinned (.plain (OpenSpec.ofChange fnGjLessFoldSpec)) fnGjLessFoldCard

/-- THE SECOND FORM's CARD OF 'laws.FnGjLessFold'. -/
def fnGjLessFoldUptoCard : Claim7 := { stood := { row := fnGjLessFoldUptoRow, standIns := [], harness := (true, "207e08421afda6abea55927cf1b58f9b3efbf9d767094fad0ad5023d281937c8"), looks := true }, kinds := [], alts := [], laidByText := true, laidKinds := [.data, .data, .widerDeep, .widerDeep, .data, .data, .data, .data, .data, .sentinel, .sentinel, .pinned, .pinned], laidTests := true, laidLooks := .later }
def FnGjLessFoldUptoCardSaid : Prop := Claim7.holds Tryd.pinned (.plain (OpenSpec.upto fnGjLessFoldSpec)) fnGjLessFoldUptoCard
end Rows
end Go.Proofs.YtbpiooeklkjilaaDoor
