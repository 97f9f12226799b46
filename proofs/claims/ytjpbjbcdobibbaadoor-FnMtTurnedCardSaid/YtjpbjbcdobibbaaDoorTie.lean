/-
  DERIVED. GIVEN WITH THE SEED: THE PROGRAM's TIES (one call each: nine closed facts by the kernel) AND EACH ROW's TIE, after the 31st guide's Derived/Test/Toyas{Tie, Card}.lean. No idea stands in it: it is a product of the set-up. Laid BY PROGRAM, IN A SANDBOX (cutbox-door.mjs). By AI agents, Wed Nov 11 2026. No macro, syntax, notation, axiom, sorry.
-/
import Derived.Test.YtjpbjbcdobibbaaDoorRows
import Derived.LaidByTextLater
import Derived.SevenTiedAt
import Derived.LaidSub
import Derived.LaidOnce
namespace Go.Proofs.YtjpbjbcdobibbaaDoor
open Go
set_option maxRecDepth 100000
theorem seatTie1 : Tryd.prog.laidByTextLater [("unicode/utf8.acceptRanges", Rows.laid_unicode_utf8_acceptRanges), ("pub-tetrapla/pub/jsonparser.DefaultConfig", Rows.laid_pub_tetrapla_pub_jsonparser_DefaultConfig), ("pub-tetrapla/pub/jsonparser.backslashCharEscapeTable", Rows.laid_pub_tetrapla_pub_jsonparser_backslashCharEscapeTable), ("pub-tetrapla/pub/jsonparser.MalformedValueError", Rows.laid_pub_tetrapla_pub_jsonparser_MalformedValueError), ("pub-tetrapla/pub/jsonparser.MalformedStringEscapeError", Rows.laid_pub_tetrapla_pub_jsonparser_MalformedStringEscapeError)] [.data, .data, .data, .sentinel, .sentinel] true :=
  Program.laidByTextLater_by_one 67 8 118 (by kernel_rfl) (by kernel_rfl) (by kernel_rfl) (by kernel_rfl) (by kernel_rfl) (by kernel_rfl) (fun _ _ => by kernel_rfl)
theorem pin_laid_unicode_utf8_first : Tryd.pinned.checked.prog.pinnedFits "unicode/utf8.first" = true := by kernel_rfl
theorem noOwnUnsafe : Tryd.pinned.checked.prog.headLifts.contains "ownunsafe" = false := by kernel_rfl
theorem fits1 : Tryd.pinned.checked.prog.listedFits [("unicode/utf8.acceptRanges", Rows.laid_unicode_utf8_acceptRanges), ("unicode/utf8.first", Rows.laid_unicode_utf8_first)] = true := by
  unfold Program.listedFits
  rw [noOwnUnsafe]
  kernel_rfl
theorem tie : Tryd.prog.laidByTextLater [("unicode/utf8.acceptRanges", Rows.laid_unicode_utf8_acceptRanges)] [.data] true :=
  Program.laidByTextLater.sub seatTie1 ["unicode/utf8.acceptRanges"] (by kernel_rfl) (by kernel_rfl)
theorem fnSjStringText_row_tie : Rows.fnSjStringTextRow.laidByTextAt .later Tryd.pinned [.data, .pinned] true :=
  OpenClaim.laidByTextAt_pinned rfl rfl tie rfl rfl rfl rfl (fun y hy _e => by
    simp only [Rows.fnSjStringTextRow, List.zip_cons_cons, List.zip_nil_right, List.mem_cons, List.mem_nil_iff, or_false] at hy
    rcases hy with rfl | rfl
    · cases _e
    · exact ⟨pin_laid_unicode_utf8_first, by kernel_rfl⟩) fits1
theorem fnMtGuarded_row_tie : Rows.fnMtGuardedRow.laidByTextAt .later Tryd.pinned [.data, .pinned] true :=
  OpenClaim.laidByTextAt_pinned rfl rfl tie rfl rfl rfl rfl (fun y hy _e => by
    simp only [Rows.fnMtGuardedRow, List.zip_cons_cons, List.zip_nil_right, List.mem_cons, List.mem_nil_iff, or_false] at hy
    rcases hy with rfl | rfl
    · cases _e
    · exact ⟨pin_laid_unicode_utf8_first, by kernel_rfl⟩) fits1
theorem fnMtTurned_row_tie : Rows.fnMtTurnedRow.laidByTextAt .later Tryd.pinned [.data, .pinned] true :=
  OpenClaim.laidByTextAt_pinned rfl rfl tie rfl rfl rfl rfl (fun y hy _e => by
    simp only [Rows.fnMtTurnedRow, List.zip_cons_cons, List.zip_nil_right, List.mem_cons, List.mem_nil_iff, or_false] at hy
    rcases hy with rfl | rfl
    · cases _e
    · exact ⟨pin_laid_unicode_utf8_first, by kernel_rfl⟩) fits1
theorem tie2 : Tryd.prog.laidByTextLater [("pub-tetrapla/pub/jsonparser.DefaultConfig", Rows.laid_pub_tetrapla_pub_jsonparser_DefaultConfig), ("pub-tetrapla/pub/jsonparser.backslashCharEscapeTable", Rows.laid_pub_tetrapla_pub_jsonparser_backslashCharEscapeTable), ("pub-tetrapla/pub/jsonparser.MalformedStringEscapeError", Rows.laid_pub_tetrapla_pub_jsonparser_MalformedStringEscapeError)] [.data, .data, .sentinel] true :=
  Program.laidByTextLater.sub seatTie1 ["pub-tetrapla/pub/jsonparser.DefaultConfig", "pub-tetrapla/pub/jsonparser.backslashCharEscapeTable", "pub-tetrapla/pub/jsonparser.MalformedStringEscapeError"] (by kernel_rfl) (by kernel_rfl)
theorem fnJpUnescape_row_tie : Rows.fnJpUnescapeRow.laidByTextAt .later Tryd.pinned [.data, .data, .sentinel] true :=
  OpenClaim.laidByTextAt_later rfl rfl tie2 noOwnUnsafe
theorem tie3 : Tryd.prog.laidByTextLater [("pub-tetrapla/pub/jsonparser.DefaultConfig", Rows.laid_pub_tetrapla_pub_jsonparser_DefaultConfig), ("pub-tetrapla/pub/jsonparser.backslashCharEscapeTable", Rows.laid_pub_tetrapla_pub_jsonparser_backslashCharEscapeTable), ("pub-tetrapla/pub/jsonparser.MalformedValueError", Rows.laid_pub_tetrapla_pub_jsonparser_MalformedValueError), ("pub-tetrapla/pub/jsonparser.MalformedStringEscapeError", Rows.laid_pub_tetrapla_pub_jsonparser_MalformedStringEscapeError)] [.data, .data, .sentinel, .sentinel] true :=
  Program.laidByTextLater.sub seatTie1 ["pub-tetrapla/pub/jsonparser.DefaultConfig", "pub-tetrapla/pub/jsonparser.backslashCharEscapeTable", "pub-tetrapla/pub/jsonparser.MalformedValueError", "pub-tetrapla/pub/jsonparser.MalformedStringEscapeError"] (by kernel_rfl) (by kernel_rfl)
theorem fnJqEscapeBack_row_tie : Rows.fnJqEscapeBackRow.laidByTextAt .later Tryd.pinned [.data, .data, .sentinel, .sentinel] true :=
  OpenClaim.laidByTextAt_later rfl rfl tie3 noOwnUnsafe
theorem fnSjStringTextUpto_row_tie : Rows.fnSjStringTextUptoRow.laidByTextAt .later Tryd.pinned [.data, .pinned] true :=
  OpenClaim.laidByTextAt_pinned rfl rfl tie rfl rfl rfl rfl (fun y hy _e => by
    simp only [Rows.fnSjStringTextUptoRow, List.zip_cons_cons, List.zip_nil_right, List.mem_cons, List.mem_nil_iff, or_false] at hy
    rcases hy with rfl | rfl
    · cases _e
    · exact ⟨pin_laid_unicode_utf8_first, by kernel_rfl⟩) fits1
theorem fnJpUnescapeUpto_row_tie : Rows.fnJpUnescapeUptoRow.laidByTextAt .later Tryd.pinned [.data, .data, .sentinel] true :=
  OpenClaim.laidByTextAt_later rfl rfl tie2 noOwnUnsafe
theorem fnMtGuardedUpto_row_tie : Rows.fnMtGuardedUptoRow.laidByTextAt .later Tryd.pinned [.data, .pinned] true :=
  OpenClaim.laidByTextAt_pinned rfl rfl tie rfl rfl rfl rfl (fun y hy _e => by
    simp only [Rows.fnMtGuardedUptoRow, List.zip_cons_cons, List.zip_nil_right, List.mem_cons, List.mem_nil_iff, or_false] at hy
    rcases hy with rfl | rfl
    · cases _e
    · exact ⟨pin_laid_unicode_utf8_first, by kernel_rfl⟩) fits1
theorem fnMtTurnedUpto_row_tie : Rows.fnMtTurnedUptoRow.laidByTextAt .later Tryd.pinned [.data, .pinned] true :=
  OpenClaim.laidByTextAt_pinned rfl rfl tie rfl rfl rfl rfl (fun y hy _e => by
    simp only [Rows.fnMtTurnedUptoRow, List.zip_cons_cons, List.zip_nil_right, List.mem_cons, List.mem_nil_iff, or_false] at hy
    rcases hy with rfl | rfl
    · cases _e
    · exact ⟨pin_laid_unicode_utf8_first, by kernel_rfl⟩) fits1
theorem fnJqEscapeBackUpto_row_tie : Rows.fnJqEscapeBackUptoRow.laidByTextAt .later Tryd.pinned [.data, .data, .sentinel, .sentinel] true :=
  OpenClaim.laidByTextAt_later rfl rfl tie3 noOwnUnsafe
end Go.Proofs.YtjpbjbcdobibbaaDoor
