/-
  NARROWER THAN 'FOR EVERY INPUT', by the rows' own cells (each row's printed sentence says how): FnSjStringText: laid · FnJpUnescape: laid · FnMtGuarded: laid · FnMtTurned: laid · FnJqEscapeBack: laid.
  DERIVED. THE GIVEN ROWS OF THIS SEAT. 5 by the template 'for every input the law returns true; each argument reads behind the call as it read before'; 0 by the template 'total and deterministic' (their statements: YtjpbjbcdobibbaaDoorTotals.lean).
  GIVEN WITH THE SEED: the statements are not yours to turn. If you find one false, say at which input.
  Laid BY PROGRAM, IN A SANDBOX (cutbox-rows.mjs): the forced cells as the released guide's own fill.sh prints them over the translation dfd86b6f29c532b1… (all of the seat's roots in one cut). By AI agents, Wed Nov 11 2026. No macro, syntax, notation, axiom, sorry.
-/
import Derived.Test.YtjpbjbcdobibbaaDoorChecked
import GoSem.PinnedTables
import GoSem.Claim
import GoSem.ClaimJoined
import GoSem.ClaimMapViews
import Derived.JoinedTies
import Derived.KernelRfl
namespace Go.Proofs.YtjpbjbcdobibbaaDoor
/- THE CELL 'sum', in the pinned program and in every row, IS THE sha256 OF THE DUMP (.gsa) THAT YtjpbjbcdobibbaaDoorProg.lean LOADS. Nothing in Lean hashes anything: it is a label: what it is worth is what the hold of that sum in a sandbox is worth. -/
noncomputable def Tryd.pinned : Pinned := { name := "ytjpbjbcdobibbaadoor", sum := "dfd86b6f29c532b1bc4c60739b2eb80e290871a3aada007ca43165e6b8f463a9", checked := Tryd.checked }
namespace Rows
def none {H : Type} : Left H := { results := [], args := [] }

/- WHAT THE LISTED PACKAGE-LEVEL VARIABLES READ AS WHEN THE CALL BEGINS. Each datum BY PROGRAM (the guide's laid-datum.mjs) off the statement by which the dump's own 'gosem.cut.vars' lays the variable. In a bare row this is a premise. The card (YtjpbjbcdobibbaaDoorCards.lean) ties it to the program's text. -/
def laid_unicode_utf8_acceptRanges {H : Type} : DataW H := .agg [.agg [.lit (.int .u8 128), .lit (.int .u8 191)], .agg [.lit (.int .u8 160), .lit (.int .u8 191)], .agg [.lit (.int .u8 128), .lit (.int .u8 159)], .agg [.lit (.int .u8 144), .lit (.int .u8 191)], .agg [.lit (.int .u8 128), .lit (.int .u8 143)], .agg [.lit (.int .u8 0), .lit (.int .u8 0)], .agg [.lit (.int .u8 0), .lit (.int .u8 0)], .agg [.lit (.int .u8 0), .lit (.int .u8 0)], .agg [.lit (.int .u8 0), .lit (.int .u8 0)], .agg [.lit (.int .u8 0), .lit (.int .u8 0)], .agg [.lit (.int .u8 0), .lit (.int .u8 0)], .agg [.lit (.int .u8 0), .lit (.int .u8 0)], .agg [.lit (.int .u8 0), .lit (.int .u8 0)], .agg [.lit (.int .u8 0), .lit (.int .u8 0)], .agg [.lit (.int .u8 0), .lit (.int .u8 0)], .agg [.lit (.int .u8 0), .lit (.int .u8 0)]]
/-- One of Go's own tables, pinned by name: the form's constant. -/
def laid_unicode_utf8_first : DataW Unit := Go.Pinned.utf8First
def laid_pub_tetrapla_pub_jsonparser_DefaultConfig {H : Type} : DataW H := .agg [.lit (.bool false), .lit (.bool false), .lit (.int .i64 0)]
def laid_pub_tetrapla_pub_jsonparser_backslashCharEscapeTable {H : Type} : DataW H := .agg [.lit (.int .u8 0), .lit (.int .u8 0), .lit (.int .u8 0), .lit (.int .u8 0), .lit (.int .u8 0), .lit (.int .u8 0), .lit (.int .u8 0), .lit (.int .u8 0), .lit (.int .u8 0), .lit (.int .u8 0), .lit (.int .u8 0), .lit (.int .u8 0), .lit (.int .u8 0), .lit (.int .u8 0), .lit (.int .u8 0), .lit (.int .u8 0), .lit (.int .u8 0), .lit (.int .u8 0), .lit (.int .u8 0), .lit (.int .u8 0), .lit (.int .u8 0), .lit (.int .u8 0), .lit (.int .u8 0), .lit (.int .u8 0), .lit (.int .u8 0), .lit (.int .u8 0), .lit (.int .u8 0), .lit (.int .u8 0), .lit (.int .u8 0), .lit (.int .u8 0), .lit (.int .u8 0), .lit (.int .u8 0), .lit (.int .u8 0), .lit (.int .u8 0), .lit (.int .u8 34), .lit (.int .u8 0), .lit (.int .u8 0), .lit (.int .u8 0), .lit (.int .u8 0), .lit (.int .u8 0), .lit (.int .u8 0), .lit (.int .u8 0), .lit (.int .u8 0), .lit (.int .u8 0), .lit (.int .u8 0), .lit (.int .u8 0), .lit (.int .u8 0), .lit (.int .u8 47), .lit (.int .u8 0), .lit (.int .u8 0), .lit (.int .u8 0), .lit (.int .u8 0), .lit (.int .u8 0), .lit (.int .u8 0), .lit (.int .u8 0), .lit (.int .u8 0), .lit (.int .u8 0), .lit (.int .u8 0), .lit (.int .u8 0), .lit (.int .u8 0), .lit (.int .u8 0), .lit (.int .u8 0), .lit (.int .u8 0), .lit (.int .u8 0), .lit (.int .u8 0), .lit (.int .u8 0), .lit (.int .u8 0), .lit (.int .u8 0), .lit (.int .u8 0), .lit (.int .u8 0), .lit (.int .u8 0), .lit (.int .u8 0), .lit (.int .u8 0), .lit (.int .u8 0), .lit (.int .u8 0), .lit (.int .u8 0), .lit (.int .u8 0), .lit (.int .u8 0), .lit (.int .u8 0), .lit (.int .u8 0), .lit (.int .u8 0), .lit (.int .u8 0), .lit (.int .u8 0), .lit (.int .u8 0), .lit (.int .u8 0), .lit (.int .u8 0), .lit (.int .u8 0), .lit (.int .u8 0), .lit (.int .u8 0), .lit (.int .u8 0), .lit (.int .u8 0), .lit (.int .u8 0), .lit (.int .u8 92), .lit (.int .u8 0), .lit (.int .u8 0), .lit (.int .u8 0), .lit (.int .u8 0), .lit (.int .u8 0), .lit (.int .u8 8), .lit (.int .u8 0), .lit (.int .u8 0), .lit (.int .u8 0), .lit (.int .u8 12), .lit (.int .u8 0), .lit (.int .u8 0), .lit (.int .u8 0), .lit (.int .u8 0), .lit (.int .u8 0), .lit (.int .u8 0), .lit (.int .u8 0), .lit (.int .u8 10), .lit (.int .u8 0), .lit (.int .u8 0), .lit (.int .u8 0), .lit (.int .u8 13), .lit (.int .u8 0), .lit (.int .u8 9)]
def laid_pub_tetrapla_pub_jsonparser_MalformedStringEscapeError {H : Type} : DataW H := .iface "*errors.errorString" (.ptr (.agg [.lit (.string [69, 110, 99, 111, 117, 110, 116, 101, 114, 101, 100, 32, 97, 110, 32, 105, 110, 118, 97, 108, 105, 100, 32, 101, 115, 99, 97, 112, 101, 32, 115, 101, 113, 117, 101, 110, 99, 101, 32, 105, 110, 32, 97, 32, 115, 116, 114, 105, 110, 103])]))
def laid_pub_tetrapla_pub_jsonparser_MalformedValueError {H : Type} : DataW H := .iface "*errors.errorString" (.ptr (.agg [.lit (.string [86, 97, 108, 117, 101, 32, 108, 111, 111, 107, 115, 32, 108, 105, 107, 101, 32, 78, 117, 109, 98, 101, 114, 47, 66, 111, 111, 108, 101, 97, 110, 47, 78, 111, 110, 101, 44, 32, 98, 117, 116, 32, 99, 97, 110, 39, 116, 32, 102, 105, 110, 100, 32, 105, 116, 115, 32, 101, 110, 100, 58, 32, 39, 44, 39, 32, 111, 114, 32, 39, 125, 39, 32, 115, 121, 109, 98, 111, 108])]))

/-- 'laws.FnSjStringText': WHATEVER THE INPUT: true; the input reads as it did. -/
def fnSjStringTextSpec : ChangeSpec := { name := "fnSjStringText", fn := fun _ => fun
  | [d] => { results := [.lit (.bool true)], args := [d] }
  | _ => none }
def fnSjStringTextRow : OpenClaim := { program := "ytjpbjbcdobibbaadoor", sum := "dfd86b6f29c532b1bc4c60739b2eb80e290871a3aada007ca43165e6b8f463a9", func := "pub-tetrapla/laws.FnSjStringText", spec := "fnSjStringText", recurses := true, named := ["unicode/utf8.first", "unicode/utf8.acceptRanges"], apart := false, laid := [("unicode/utf8.acceptRanges", laid_unicode_utf8_acceptRanges), ("unicode/utf8.first", laid_unicode_utf8_first)] }
def FnSjStringTextSaid : Prop := fnSjStringTextRow.holds Tryd.pinned (OpenSpec.ofChange fnSjStringTextSpec)

/-- ITS FALSE NEIGHBOUR: 'it returns false'. Refute it at one input. -/
def fnSjStringTextWrong : ChangeSpec := { name := "fnSjStringText", fn := fun _ => fun
  | [d] => { results := [.lit (.bool false)], args := [d] }
  | _ => none }
def FnSjStringTextWrongFalsely : Prop := fnSjStringTextRow.holds Tryd.pinned (OpenSpec.ofChange fnSjStringTextWrong)

/-- 'laws.FnJpUnescape': WHATEVER THE INPUT: true; the input reads as it did. -/
def fnJpUnescapeSpec : ChangeSpec := { name := "fnJpUnescape", fn := fun _ => fun
  | [d1, d2] => { results := [.lit (.bool true)], args := [d1, d2] }
  | _ => none }
def fnJpUnescapeRow : OpenClaim := { program := "ytjpbjbcdobibbaadoor", sum := "dfd86b6f29c532b1bc4c60739b2eb80e290871a3aada007ca43165e6b8f463a9", func := "pub-tetrapla/laws.FnJpUnescape", spec := "fnJpUnescape", inPlace := ["internal/bytealg.IndexByte"], named := ["pub-tetrapla/pub/jsonparser.DefaultConfig", "pub-tetrapla/pub/jsonparser.MalformedStringEscapeError", "pub-tetrapla/pub/jsonparser.backslashCharEscapeTable"], apart := false, laid := [("pub-tetrapla/pub/jsonparser.DefaultConfig", laid_pub_tetrapla_pub_jsonparser_DefaultConfig), ("pub-tetrapla/pub/jsonparser.backslashCharEscapeTable", laid_pub_tetrapla_pub_jsonparser_backslashCharEscapeTable), ("pub-tetrapla/pub/jsonparser.MalformedStringEscapeError", laid_pub_tetrapla_pub_jsonparser_MalformedStringEscapeError)] }
def FnJpUnescapeSaid : Prop := fnJpUnescapeRow.holds Tryd.pinned (OpenSpec.ofChange fnJpUnescapeSpec)

/-- ITS FALSE NEIGHBOUR: 'it returns false'. Refute it at one input. -/
def fnJpUnescapeWrong : ChangeSpec := { name := "fnJpUnescape", fn := fun _ => fun
  | [d1, d2] => { results := [.lit (.bool false)], args := [d1, d2] }
  | _ => none }
def FnJpUnescapeWrongFalsely : Prop := fnJpUnescapeRow.holds Tryd.pinned (OpenSpec.ofChange fnJpUnescapeWrong)

/-- 'laws.FnMtGuarded': WHATEVER THE INPUT: true; the input reads as it did. -/
def fnMtGuardedSpec : ChangeSpec := { name := "fnMtGuarded", fn := fun _ => fun
  | [d1, d2] => { results := [.lit (.bool true)], args := [d1, d2] }
  | _ => none }
def fnMtGuardedRow : OpenClaim := { program := "ytjpbjbcdobibbaadoor", sum := "dfd86b6f29c532b1bc4c60739b2eb80e290871a3aada007ca43165e6b8f463a9", func := "pub-tetrapla/laws.FnMtGuarded", spec := "fnMtGuarded", recurses := true, named := ["unicode/utf8.first", "unicode/utf8.acceptRanges"], apart := false, laid := [("unicode/utf8.acceptRanges", laid_unicode_utf8_acceptRanges), ("unicode/utf8.first", laid_unicode_utf8_first)] }
def FnMtGuardedSaid : Prop := fnMtGuardedRow.holds Tryd.pinned (OpenSpec.ofChange fnMtGuardedSpec)

/-- ITS FALSE NEIGHBOUR: 'it returns false'. Refute it at one input. -/
def fnMtGuardedWrong : ChangeSpec := { name := "fnMtGuarded", fn := fun _ => fun
  | [d1, d2] => { results := [.lit (.bool false)], args := [d1, d2] }
  | _ => none }
def FnMtGuardedWrongFalsely : Prop := fnMtGuardedRow.holds Tryd.pinned (OpenSpec.ofChange fnMtGuardedWrong)

/-- 'laws.FnMtTurned': WHATEVER THE INPUT: true; the input reads as it did. -/
def fnMtTurnedSpec : ChangeSpec := { name := "fnMtTurned", fn := fun _ => fun
  | [d1, d2] => { results := [.lit (.bool true)], args := [d1, d2] }
  | _ => none }
def fnMtTurnedRow : OpenClaim := { program := "ytjpbjbcdobibbaadoor", sum := "dfd86b6f29c532b1bc4c60739b2eb80e290871a3aada007ca43165e6b8f463a9", func := "pub-tetrapla/laws.FnMtTurned", spec := "fnMtTurned", recurses := true, named := ["unicode/utf8.first", "unicode/utf8.acceptRanges"], apart := false, laid := [("unicode/utf8.acceptRanges", laid_unicode_utf8_acceptRanges), ("unicode/utf8.first", laid_unicode_utf8_first)] }
def FnMtTurnedSaid : Prop := fnMtTurnedRow.holds Tryd.pinned (OpenSpec.ofChange fnMtTurnedSpec)

/-- ITS FALSE NEIGHBOUR: 'it returns false'. Refute it at one input. -/
def fnMtTurnedWrong : ChangeSpec := { name := "fnMtTurned", fn := fun _ => fun
  | [d1, d2] => { results := [.lit (.bool false)], args := [d1, d2] }
  | _ => none }
def FnMtTurnedWrongFalsely : Prop := fnMtTurnedRow.holds Tryd.pinned (OpenSpec.ofChange fnMtTurnedWrong)

/-- 'laws.FnJqEscapeBack': WHATEVER THE INPUT: true; the input reads as it did. -/
def fnJqEscapeBackSpec : ChangeSpec := { name := "fnJqEscapeBack", fn := fun _ => fun
  | [d] => { results := [.lit (.bool true)], args := [d] }
  | _ => none }
def fnJqEscapeBackRow : OpenClaim := { program := "ytjpbjbcdobibbaadoor", sum := "dfd86b6f29c532b1bc4c60739b2eb80e290871a3aada007ca43165e6b8f463a9", func := "pub-tetrapla/laws.FnJqEscapeBack", spec := "fnJqEscapeBack", inPlace := ["internal/bytealg.IndexByte"], named := ["pub-tetrapla/pub/jsonparser.MalformedValueError", "pub-tetrapla/pub/jsonparser.DefaultConfig", "pub-tetrapla/pub/jsonparser.MalformedStringEscapeError", "pub-tetrapla/pub/jsonparser.backslashCharEscapeTable"], apart := false, laid := [("pub-tetrapla/pub/jsonparser.DefaultConfig", laid_pub_tetrapla_pub_jsonparser_DefaultConfig), ("pub-tetrapla/pub/jsonparser.backslashCharEscapeTable", laid_pub_tetrapla_pub_jsonparser_backslashCharEscapeTable), ("pub-tetrapla/pub/jsonparser.MalformedValueError", laid_pub_tetrapla_pub_jsonparser_MalformedValueError), ("pub-tetrapla/pub/jsonparser.MalformedStringEscapeError", laid_pub_tetrapla_pub_jsonparser_MalformedStringEscapeError)] }
def FnJqEscapeBackSaid : Prop := fnJqEscapeBackRow.holds Tryd.pinned (OpenSpec.ofChange fnJqEscapeBackSpec)

/-- ITS FALSE NEIGHBOUR: 'it returns false'. Refute it at one input. -/
def fnJqEscapeBackWrong : ChangeSpec := { name := "fnJqEscapeBack", fn := fun _ => fun
  | [d] => { results := [.lit (.bool false)], args := [d] }
  | _ => none }
def FnJqEscapeBackWrongFalsely : Prop := fnJqEscapeBackRow.holds Tryd.pinned (OpenSpec.ofChange fnJqEscapeBackWrong)

/- THE SECOND FORM. 'bulk': how many values and letters a reading holds, each counted each time it is reached (what is shared counts as often as it is met; a slice's spare places count too). A statement '..UptoSaid' is the law's where the arguments, and the package variables that the reading takes, are together of bulk at most 1048576: NARROWER than '..Said'. Prove '..Said' where nothing that the law and all that it calls make is longer than what came in: it says more and counts as full. Else prove '..UptoSaid'. A law counts once. -/
mutual
def uptoBulk {H : Type} : DataW H → Nat
  | .lit (.string bytes) => bytes.length + 1
  | .lit _ => 1
  | .nil => 1
  | .ptr d => uptoBulk d + 1
  | .slice elems spare => uptoBulkAll elems + uptoBulkAll spare + 1
  | .agg parts => uptoBulkAll parts + 1
  | .iface _ d => uptoBulk d + 1
  | .map entries => uptoBulkEntries entries + 1
  | .held _ => 1
def uptoBulkAll {H : Type} : List (DataW H) → Nat
  | [] => 0
  | d :: r => uptoBulk d + uptoBulkAll r
def uptoBulkEntries {H : Type} : List (Lit × DataW H) → Nat
  | [] => 0
  | x :: r => uptoBulkEntry x + uptoBulkEntries r
def uptoBulkEntry {H : Type} : Lit × DataW H → Nat
  | (.string bytes, d) => bytes.length + uptoBulk d + 1
  | (_, d) => uptoBulk d + 1
 end
def uptoSmall : (H : Type) → List (DataW H) → Bool := fun _ ds => decide (uptoBulkAll ds ≤ 1048576)
def OpenSpec.upto (s : _root_.Go.ChangeSpec) : _root_.Go.OpenSpec := { _root_.Go.OpenSpec.ofChange s with cond := some uptoSmall }

/-- 'laws.FnSjStringText', WHERE WHAT IT READS IS OF BULK AT MOST 1048576: true; the input reads as it did. -/
def fnSjStringTextUptoRow : OpenClaim := { program := "ytjpbjbcdobibbaadoor", sum := "dfd86b6f29c532b1bc4c60739b2eb80e290871a3aada007ca43165e6b8f463a9", func := "pub-tetrapla/laws.FnSjStringText", spec := "fnSjStringText", recurses := true, named := ["unicode/utf8.first", "unicode/utf8.acceptRanges"], apart := false, laid := [("unicode/utf8.acceptRanges", laid_unicode_utf8_acceptRanges), ("unicode/utf8.first", laid_unicode_utf8_first)], narrowed := true }
def FnSjStringTextUptoSaid : Prop := fnSjStringTextUptoRow.holds Tryd.pinned (OpenSpec.upto fnSjStringTextSpec)

/-- 'laws.FnJpUnescape', WHERE WHAT IT READS IS OF BULK AT MOST 1048576: true; the input reads as it did. -/
def fnJpUnescapeUptoRow : OpenClaim := { program := "ytjpbjbcdobibbaadoor", sum := "dfd86b6f29c532b1bc4c60739b2eb80e290871a3aada007ca43165e6b8f463a9", func := "pub-tetrapla/laws.FnJpUnescape", spec := "fnJpUnescape", inPlace := ["internal/bytealg.IndexByte"], named := ["pub-tetrapla/pub/jsonparser.DefaultConfig", "pub-tetrapla/pub/jsonparser.MalformedStringEscapeError", "pub-tetrapla/pub/jsonparser.backslashCharEscapeTable"], apart := false, laid := [("pub-tetrapla/pub/jsonparser.DefaultConfig", laid_pub_tetrapla_pub_jsonparser_DefaultConfig), ("pub-tetrapla/pub/jsonparser.backslashCharEscapeTable", laid_pub_tetrapla_pub_jsonparser_backslashCharEscapeTable), ("pub-tetrapla/pub/jsonparser.MalformedStringEscapeError", laid_pub_tetrapla_pub_jsonparser_MalformedStringEscapeError)], narrowed := true }
def FnJpUnescapeUptoSaid : Prop := fnJpUnescapeUptoRow.holds Tryd.pinned (OpenSpec.upto fnJpUnescapeSpec)

/-- 'laws.FnMtGuarded', WHERE WHAT IT READS IS OF BULK AT MOST 1048576: true; the input reads as it did. -/
def fnMtGuardedUptoRow : OpenClaim := { program := "ytjpbjbcdobibbaadoor", sum := "dfd86b6f29c532b1bc4c60739b2eb80e290871a3aada007ca43165e6b8f463a9", func := "pub-tetrapla/laws.FnMtGuarded", spec := "fnMtGuarded", recurses := true, named := ["unicode/utf8.first", "unicode/utf8.acceptRanges"], apart := false, laid := [("unicode/utf8.acceptRanges", laid_unicode_utf8_acceptRanges), ("unicode/utf8.first", laid_unicode_utf8_first)], narrowed := true }
def FnMtGuardedUptoSaid : Prop := fnMtGuardedUptoRow.holds Tryd.pinned (OpenSpec.upto fnMtGuardedSpec)

/-- 'laws.FnMtTurned', WHERE WHAT IT READS IS OF BULK AT MOST 1048576: true; the input reads as it did. -/
def fnMtTurnedUptoRow : OpenClaim := { program := "ytjpbjbcdobibbaadoor", sum := "dfd86b6f29c532b1bc4c60739b2eb80e290871a3aada007ca43165e6b8f463a9", func := "pub-tetrapla/laws.FnMtTurned", spec := "fnMtTurned", recurses := true, named := ["unicode/utf8.first", "unicode/utf8.acceptRanges"], apart := false, laid := [("unicode/utf8.acceptRanges", laid_unicode_utf8_acceptRanges), ("unicode/utf8.first", laid_unicode_utf8_first)], narrowed := true }
def FnMtTurnedUptoSaid : Prop := fnMtTurnedUptoRow.holds Tryd.pinned (OpenSpec.upto fnMtTurnedSpec)

/-- 'laws.FnJqEscapeBack', WHERE WHAT IT READS IS OF BULK AT MOST 1048576: true; the input reads as it did. -/
def fnJqEscapeBackUptoRow : OpenClaim := { program := "ytjpbjbcdobibbaadoor", sum := "dfd86b6f29c532b1bc4c60739b2eb80e290871a3aada007ca43165e6b8f463a9", func := "pub-tetrapla/laws.FnJqEscapeBack", spec := "fnJqEscapeBack", inPlace := ["internal/bytealg.IndexByte"], named := ["pub-tetrapla/pub/jsonparser.MalformedValueError", "pub-tetrapla/pub/jsonparser.DefaultConfig", "pub-tetrapla/pub/jsonparser.MalformedStringEscapeError", "pub-tetrapla/pub/jsonparser.backslashCharEscapeTable"], apart := false, laid := [("pub-tetrapla/pub/jsonparser.DefaultConfig", laid_pub_tetrapla_pub_jsonparser_DefaultConfig), ("pub-tetrapla/pub/jsonparser.backslashCharEscapeTable", laid_pub_tetrapla_pub_jsonparser_backslashCharEscapeTable), ("pub-tetrapla/pub/jsonparser.MalformedValueError", laid_pub_tetrapla_pub_jsonparser_MalformedValueError), ("pub-tetrapla/pub/jsonparser.MalformedStringEscapeError", laid_pub_tetrapla_pub_jsonparser_MalformedStringEscapeError)], narrowed := true }
def FnJqEscapeBackUptoSaid : Prop := fnJqEscapeBackUptoRow.holds Tryd.pinned (OpenSpec.upto fnJqEscapeBackSpec)

end Rows
end Go.Proofs.YtjpbjbcdobibbaaDoor
