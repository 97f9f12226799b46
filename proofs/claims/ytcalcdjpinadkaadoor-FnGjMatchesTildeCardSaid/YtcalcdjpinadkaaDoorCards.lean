/-
  DERIVED. GIVEN WITH THE SEED: THE CARDS: each row of YtcalcdjpinadkaaDoorRows.lean that lists a variable, with what it lists TIED to the program's text (the seventh form; the later family's looks); each row that meets fmt, with fmt's text TOLD by the authors' own Lean function (tested against real Go, not proved from fmt's source: count such statements apart). THE CARD IS WHAT COUNTS. Prove the row's statement (the work); the ties are given (YtcalcdjpinadkaaDoorTie.lean); close each card by the builder's one call (the guide's Derived/Test/ToyasCard.lean, 'card_holds'). Laid BY PROGRAM, IN A SANDBOX (cutbox-door.mjs). By AI agents, Wed Nov 11 2026. No macro, syntax, notation, axiom, sorry.
-/
import Derived.Test.YtcalcdjpinadkaaDoorRows
import GoSem.ClaimSeven
namespace Go.Proofs.YtcalcdjpinadkaaDoor
namespace Rows

/-- THE TIED CARD OF 'laws.FnGjResultWords'. -/
def fnGjResultWordsCard : Claim7 := { stood := { row := fnGjResultWordsRow, standIns := [], harness := (true, "ade6de53c3ca3fd0666c9d1f44c874f2c2eef9711b687263c3814b6dbb5994fd"), looks := true }, kinds := [], alts := [], laidByText := true, laidKinds := [.data, .data, .widerDeep, .widerDeep, .data, .data, .data, .data, .data, .sentinel, .sentinel, .pinned, .pinned], laidTests := true, laidLooks := .later }
def FnGjResultWordsCardSaid : Prop := Claim7.holds Tryd.pinned (.plain (OpenSpec.ofChange fnGjResultWordsSpec)) fnGjResultWordsCard

/-- THE TIED CARD OF 'laws.FnJpSetOther'. -/
def fnJpSetOtherCard : Claim7 := { stood := { row := fnJpSetOtherRow, standIns := [], harness := (true, "ade6de53c3ca3fd0666c9d1f44c874f2c2eef9711b687263c3814b6dbb5994fd"), looks := true }, kinds := [], alts := [], laidByText := true, laidKinds := [.data, .data, .data, .sentinel, .sentinel, .data, .data, .sentinel, .sentinel, .sentinel, .sentinel, .sentinel, .sentinel, .sentinel], laidTests := true, laidLooks := .later }
def FnJpSetOtherCardSaid : Prop := Claim7.holds Tryd.pinned (.plain (OpenSpec.ofChange fnJpSetOtherSpec)) fnJpSetOtherCard

/-- THE TIED CARD OF 'laws.FnGjLessFold'. -/
def fnGjLessFoldCard : Claim7 := { stood := { row := fnGjLessFoldRow, standIns := [], harness := (true, "ade6de53c3ca3fd0666c9d1f44c874f2c2eef9711b687263c3814b6dbb5994fd"), looks := true }, kinds := [], alts := [], laidByText := true, laidKinds := [.data, .data, .widerDeep, .widerDeep, .data, .data, .data, .data, .data, .sentinel, .sentinel, .pinned, .pinned], laidTests := true, laidLooks := .later }
def FnGjLessFoldCardSaid : Prop := Claim7.holds Tryd.pinned (.plain (OpenSpec.ofChange fnGjLessFoldSpec)) fnGjLessFoldCard

/-- THE TIED CARD OF 'laws.FnGjMatchesTilde'. -/
def fnGjMatchesTildeCard : Claim7 := { stood := { row := fnGjMatchesTildeRow, standIns := [], harness := (true, "ade6de53c3ca3fd0666c9d1f44c874f2c2eef9711b687263c3814b6dbb5994fd"), looks := true }, kinds := [], alts := [], laidByText := true, laidKinds := [.data, .data, .widerDeep, .widerDeep, .data, .data, .data, .data, .data, .data, .sentinel, .sentinel, .pinned, .pinned, .pinned], laidTests := true, laidLooks := .later }
def FnGjMatchesTildeCardSaid : Prop := Claim7.holds Tryd.pinned (.plain (OpenSpec.ofChange fnGjMatchesTildeSpec)) fnGjMatchesTildeCard

/-- THE SECOND FORM's CARD OF 'laws.FnGjResultWords'. -/
def fnGjResultWordsUptoCard : Claim7 := { stood := { row := fnGjResultWordsUptoRow, standIns := [], harness := (true, "ade6de53c3ca3fd0666c9d1f44c874f2c2eef9711b687263c3814b6dbb5994fd"), looks := true }, kinds := [], alts := [], laidByText := true, laidKinds := [.data, .data, .widerDeep, .widerDeep, .data, .data, .data, .data, .data, .sentinel, .sentinel, .pinned, .pinned], laidTests := true, laidLooks := .later }
def FnGjResultWordsUptoCardSaid : Prop := Claim7.holds Tryd.pinned (.plain (OpenSpec.upto fnGjResultWordsSpec)) fnGjResultWordsUptoCard

/-- THE SECOND FORM's CARD OF 'laws.FnJpSetOther'. -/
def fnJpSetOtherUptoCard : Claim7 := { stood := { row := fnJpSetOtherUptoRow, standIns := [], harness := (true, "ade6de53c3ca3fd0666c9d1f44c874f2c2eef9711b687263c3814b6dbb5994fd"), looks := true }, kinds := [], alts := [], laidByText := true, laidKinds := [.data, .data, .data, .sentinel, .sentinel, .data, .data, .sentinel, .sentinel, .sentinel, .sentinel, .sentinel, .sentinel, .sentinel], laidTests := true, laidLooks := .later }
def FnJpSetOtherUptoCardSaid : Prop := Claim7.holds Tryd.pinned (.plain (OpenSpec.upto fnJpSetOtherSpec)) fnJpSetOtherUptoCard

/-- THE SECOND FORM's CARD OF 'laws.FnGjLessFold'. -/
def fnGjLessFoldUptoCard : Claim7 := { stood := { row := fnGjLessFoldUptoRow, standIns := [], harness := (true, "ade6de53c3ca3fd0666c9d1f44c874f2c2eef9711b687263c3814b6dbb5994fd"), looks := true }, kinds := [], alts := [], laidByText := true, laidKinds := [.data, .data, .widerDeep, .widerDeep, .data, .data, .data, .data, .data, .sentinel, .sentinel, .pinned, .pinned], laidTests := true, laidLooks := .later }
def FnGjLessFoldUptoCardSaid : Prop := Claim7.holds Tryd.pinned (.plain (OpenSpec.upto fnGjLessFoldSpec)) fnGjLessFoldUptoCard

/-- THE SECOND FORM's CARD OF 'laws.FnGjMatchesTilde'. -/
def fnGjMatchesTildeUptoCard : Claim7 := { stood := { row := fnGjMatchesTildeUptoRow, standIns := [], harness := (true, "ade6de53c3ca3fd0666c9d1f44c874f2c2eef9711b687263c3814b6dbb5994fd"), looks := true }, kinds := [], alts := [], laidByText := true, laidKinds := [.data, .data, .widerDeep, .widerDeep, .data, .data, .data, .data, .data, .data, .sentinel, .sentinel, .pinned, .pinned, .pinned], laidTests := true, laidLooks := .later }
def FnGjMatchesTildeUptoCardSaid : Prop := Claim7.holds Tryd.pinned (.plain (OpenSpec.upto fnGjMatchesTildeSpec)) fnGjMatchesTildeUptoCard
end Rows
end Go.Proofs.YtcalcdjpinadkaaDoor
