/-
  DERIVED. GIVEN WITH THE SEED: THE CARDS: each row of YtjpbjbcdobibbaaDoorRows.lean that lists a variable, with what it lists TIED to the program's text (the seventh form; the later family's looks); each row that meets fmt, with fmt's text TOLD by the authors' own Lean function (tested against real Go, not proved from fmt's source: count such statements apart). THE CARD IS WHAT COUNTS. Prove the row's statement (the work); the ties are given (YtjpbjbcdobibbaaDoorTie.lean); close each card by the builder's one call (the guide's Derived/Test/ToyasCard.lean, 'card_holds'). Laid BY PROGRAM, IN A SANDBOX (cutbox-door.mjs). By AI agents, Wed Nov 11 2026. No macro, syntax, notation, axiom, sorry.
-/
import Derived.Test.YtjpbjbcdobibbaaDoorRows
import GoSem.ClaimSeven
namespace Go.Proofs.YtjpbjbcdobibbaaDoor
namespace Rows

/-- THE TIED CARD OF 'laws.FnSjStringText'. -/
def fnSjStringTextCard : Claim7 := { stood := { row := fnSjStringTextRow, standIns := [], harness := (true, "fb50170e7a5c6c3cc611ce9b8f7ba06bb04c263ec18ea5795105ab073a215543"), looks := false }, kinds := [], alts := [], laidByText := true, laidKinds := [.data, .pinned], laidTests := true, laidLooks := .later }
def FnSjStringTextCardSaid : Prop := Claim7.holds Tryd.pinned (.plain (OpenSpec.ofChange fnSjStringTextSpec)) fnSjStringTextCard

/-- THE TIED CARD OF 'laws.FnJpUnescape'. -/
def fnJpUnescapeCard : Claim7 := { stood := { row := fnJpUnescapeRow, standIns := [], harness := (true, "fb50170e7a5c6c3cc611ce9b8f7ba06bb04c263ec18ea5795105ab073a215543"), looks := false }, kinds := [], alts := [], laidByText := true, laidKinds := [.data, .data, .sentinel], laidTests := true, laidLooks := .later }
def FnJpUnescapeCardSaid : Prop := Claim7.holds Tryd.pinned (.plain (OpenSpec.ofChange fnJpUnescapeSpec)) fnJpUnescapeCard

/-- THE TIED CARD OF 'laws.FnMtGuarded'. -/
def fnMtGuardedCard : Claim7 := { stood := { row := fnMtGuardedRow, standIns := [], harness := (true, "fb50170e7a5c6c3cc611ce9b8f7ba06bb04c263ec18ea5795105ab073a215543"), looks := false }, kinds := [], alts := [], laidByText := true, laidKinds := [.data, .pinned], laidTests := true, laidLooks := .later }
def FnMtGuardedCardSaid : Prop := Claim7.holds Tryd.pinned (.plain (OpenSpec.ofChange fnMtGuardedSpec)) fnMtGuardedCard

/-- THE TIED CARD OF 'laws.FnMtTurned'. -/
def fnMtTurnedCard : Claim7 := { stood := { row := fnMtTurnedRow, standIns := [], harness := (true, "fb50170e7a5c6c3cc611ce9b8f7ba06bb04c263ec18ea5795105ab073a215543"), looks := false }, kinds := [], alts := [], laidByText := true, laidKinds := [.data, .pinned], laidTests := true, laidLooks := .later }
def FnMtTurnedCardSaid : Prop := Claim7.holds Tryd.pinned (.plain (OpenSpec.ofChange fnMtTurnedSpec)) fnMtTurnedCard

/-- THE TIED CARD OF 'laws.FnJqEscapeBack'. -/
def fnJqEscapeBackCard : Claim7 := { stood := { row := fnJqEscapeBackRow, standIns := [], harness := (true, "fb50170e7a5c6c3cc611ce9b8f7ba06bb04c263ec18ea5795105ab073a215543"), looks := false }, kinds := [], alts := [], laidByText := true, laidKinds := [.data, .data, .sentinel, .sentinel], laidTests := true, laidLooks := .later }
def FnJqEscapeBackCardSaid : Prop := Claim7.holds Tryd.pinned (.plain (OpenSpec.ofChange fnJqEscapeBackSpec)) fnJqEscapeBackCard

/-- THE SECOND FORM's CARD OF 'laws.FnSjStringText'. -/
def fnSjStringTextUptoCard : Claim7 := { stood := { row := fnSjStringTextUptoRow, standIns := [], harness := (true, "fb50170e7a5c6c3cc611ce9b8f7ba06bb04c263ec18ea5795105ab073a215543"), looks := false }, kinds := [], alts := [], laidByText := true, laidKinds := [.data, .pinned], laidTests := true, laidLooks := .later }
def FnSjStringTextUptoCardSaid : Prop := Claim7.holds Tryd.pinned (.plain (OpenSpec.upto fnSjStringTextSpec)) fnSjStringTextUptoCard

/-- THE SECOND FORM's CARD OF 'laws.FnJpUnescape'. -/
def fnJpUnescapeUptoCard : Claim7 := { stood := { row := fnJpUnescapeUptoRow, standIns := [], harness := (true, "fb50170e7a5c6c3cc611ce9b8f7ba06bb04c263ec18ea5795105ab073a215543"), looks := false }, kinds := [], alts := [], laidByText := true, laidKinds := [.data, .data, .sentinel], laidTests := true, laidLooks := .later }
def FnJpUnescapeUptoCardSaid : Prop := Claim7.holds Tryd.pinned (.plain (OpenSpec.upto fnJpUnescapeSpec)) fnJpUnescapeUptoCard

/-- THE SECOND FORM's CARD OF 'laws.FnMtGuarded'. -/
def fnMtGuardedUptoCard : Claim7 := { stood := { row := fnMtGuardedUptoRow, standIns := [], harness := (true, "fb50170e7a5c6c3cc611ce9b8f7ba06bb04c263ec18ea5795105ab073a215543"), looks := false }, kinds := [], alts := [], laidByText := true, laidKinds := [.data, .pinned], laidTests := true, laidLooks := .later }
def FnMtGuardedUptoCardSaid : Prop := Claim7.holds Tryd.pinned (.plain (OpenSpec.upto fnMtGuardedSpec)) fnMtGuardedUptoCard

/-- THE SECOND FORM's CARD OF 'laws.FnMtTurned'. -/
def fnMtTurnedUptoCard : Claim7 := { stood := { row := fnMtTurnedUptoRow, standIns := [], harness := (true, "fb50170e7a5c6c3cc611ce9b8f7ba06bb04c263ec18ea5795105ab073a215543"), looks := false }, kinds := [], alts := [], laidByText := true, laidKinds := [.data, .pinned], laidTests := true, laidLooks := .later }
def FnMtTurnedUptoCardSaid : Prop := Claim7.holds Tryd.pinned (.plain (OpenSpec.upto fnMtTurnedSpec)) fnMtTurnedUptoCard

/-- THE SECOND FORM's CARD OF 'laws.FnJqEscapeBack'. -/
def fnJqEscapeBackUptoCard : Claim7 := { stood := { row := fnJqEscapeBackUptoRow, standIns := [], harness := (true, "fb50170e7a5c6c3cc611ce9b8f7ba06bb04c263ec18ea5795105ab073a215543"), looks := false }, kinds := [], alts := [], laidByText := true, laidKinds := [.data, .data, .sentinel, .sentinel], laidTests := true, laidLooks := .later }
def FnJqEscapeBackUptoCardSaid : Prop := Claim7.holds Tryd.pinned (.plain (OpenSpec.upto fnJqEscapeBackSpec)) fnJqEscapeBackUptoCard
end Rows
end Go.Proofs.YtjpbjbcdobibbaaDoor
