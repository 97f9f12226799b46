/-
  No cell of these rows narrows 'for every input' (looked for: loops, veiled, ifaces, maps, wideKeys, modest, calm, conditions, laid).
  DERIVED. THE GIVEN ROWS OF THIS SEAT. 5 by the template 'for every input the law returns true; each argument reads behind the call as it read before'; 0 by the template 'total and deterministic' (their statements: YtbnogfljakmfgaaTotals.lean).
  GIVEN WITH THE SEED: the statements are not yours to turn. If you find one false, say at which input.
  Laid BY PROGRAM, IN A SANDBOX (cutbox-rows.mjs): the forced cells as the released guide's own fill.sh prints them over the translation c708023c22ea1d5c… (all of the seat's roots in one cut). By AI agents, Wed Nov 11 2026. No macro, syntax, notation, axiom, sorry.
-/
import Derived.Test.YtbnogfljakmfgaaChecked
import GoSem.Claim
import GoSem.ClaimJoined
import GoSem.ClaimMapViews
import Derived.JoinedTies
import Derived.KernelRfl
namespace Go.Proofs.Ytbnogfljakmfgaa
/- THE CELL 'sum', in the pinned program and in every row, IS THE sha256 OF THE DUMP (.gsa) THAT YtbnogfljakmfgaaProg.lean LOADS. Nothing in Lean hashes anything: it is a label: what it is worth is what the hold of that sum in a sandbox is worth. -/
noncomputable def Try.pinned : Pinned := { name := "ytbnogfljakmfgaa", sum := "c708023c22ea1d5c6085ff0a3aa0ef522d7b286cddb8f4cd698476ca23534697", checked := Try.checked }
namespace Rows
def none {H : Type} : Left H := { results := [], args := [] }

/-- 'laws.FnGjNumberAtAny': WHATEVER THE INPUT: true; the input reads as it did. -/
def fnGjNumberAtAnySpec : ChangeSpec := { name := "fnGjNumberAtAny", fn := fun _ => fun
  | [d1, d2] => { results := [.lit (.bool true)], args := [d1, d2] }
  | _ => none }
def fnGjNumberAtAnyRow : OpenClaim := { program := "ytbnogfljakmfgaa", sum := "c708023c22ea1d5c6085ff0a3aa0ef522d7b286cddb8f4cd698476ca23534697", func := "pub-tetrapla/laws.FnGjNumberAtAny", spec := "fnGjNumberAtAny", apart := false }
def FnGjNumberAtAnySaid : Prop := fnGjNumberAtAnyRow.holds Try.pinned (OpenSpec.ofChange fnGjNumberAtAnySpec)

/-- ITS FALSE NEIGHBOUR: 'it returns false'. Refute it at one input. -/
def fnGjNumberAtAnyWrong : ChangeSpec := { name := "fnGjNumberAtAny", fn := fun _ => fun
  | [d1, d2] => { results := [.lit (.bool false)], args := [d1, d2] }
  | _ => none }
def FnGjNumberAtAnyWrongFalsely : Prop := fnGjNumberAtAnyRow.holds Try.pinned (OpenSpec.ofChange fnGjNumberAtAnyWrong)

/-- 'laws.FnGjTrim': WHATEVER THE INPUT: true; the input reads as it did. -/
def fnGjTrimSpec : ChangeSpec := { name := "fnGjTrim", fn := fun _ => fun
  | [d] => { results := [.lit (.bool true)], args := [d] }
  | _ => none }
def fnGjTrimRow : OpenClaim := { program := "ytbnogfljakmfgaa", sum := "c708023c22ea1d5c6085ff0a3aa0ef522d7b286cddb8f4cd698476ca23534697", func := "pub-tetrapla/laws.FnGjTrim", spec := "fnGjTrim", apart := false }
def FnGjTrimSaid : Prop := fnGjTrimRow.holds Try.pinned (OpenSpec.ofChange fnGjTrimSpec)

/-- ITS FALSE NEIGHBOUR: 'it returns false'. Refute it at one input. -/
def fnGjTrimWrong : ChangeSpec := { name := "fnGjTrim", fn := fun _ => fun
  | [d] => { results := [.lit (.bool false)], args := [d] }
  | _ => none }
def FnGjTrimWrongFalsely : Prop := fnGjTrimRow.holds Try.pinned (OpenSpec.ofChange fnGjTrimWrong)

/-- 'laws.FnPrUgly': WHATEVER THE INPUT: true; the input reads as it did. -/
def fnPrUglySpec : ChangeSpec := { name := "fnPrUgly", fn := fun _ => fun
  | [d] => { results := [.lit (.bool true)], args := [d] }
  | _ => none }
def fnPrUglyRow : OpenClaim := { program := "ytbnogfljakmfgaa", sum := "c708023c22ea1d5c6085ff0a3aa0ef522d7b286cddb8f4cd698476ca23534697", func := "pub-tetrapla/laws.FnPrUgly", spec := "fnPrUgly", recurses := true, apart := false }
def FnPrUglySaid : Prop := fnPrUglyRow.holds Try.pinned (OpenSpec.ofChange fnPrUglySpec)

/-- ITS FALSE NEIGHBOUR: 'it returns false'. Refute it at one input. -/
def fnPrUglyWrong : ChangeSpec := { name := "fnPrUgly", fn := fun _ => fun
  | [d] => { results := [.lit (.bool false)], args := [d] }
  | _ => none }
def FnPrUglyWrongFalsely : Prop := fnPrUglyRow.holds Try.pinned (OpenSpec.ofChange fnPrUglyWrong)

/-- 'laws.FnGjResultLessThree': WHATEVER THE INPUT: true; the input reads as it did. -/
def fnGjResultLessThreeSpec : ChangeSpec := { name := "fnGjResultLessThree", fn := fun _ => fun
  | [d1, d2, d3, d4] => { results := [.lit (.bool true)], args := [d1, d2, d3, d4] }
  | _ => none }
def fnGjResultLessThreeRow : OpenClaim := { program := "ytbnogfljakmfgaa", sum := "c708023c22ea1d5c6085ff0a3aa0ef522d7b286cddb8f4cd698476ca23534697", func := "pub-tetrapla/laws.FnGjResultLessThree", spec := "fnGjResultLessThree", apart := false }
def FnGjResultLessThreeSaid : Prop := fnGjResultLessThreeRow.holds Try.pinned (OpenSpec.ofChange fnGjResultLessThreeSpec)

/-- ITS FALSE NEIGHBOUR: 'it returns false'. Refute it at one input. -/
def fnGjResultLessThreeWrong : ChangeSpec := { name := "fnGjResultLessThree", fn := fun _ => fun
  | [d1, d2, d3, d4] => { results := [.lit (.bool false)], args := [d1, d2, d3, d4] }
  | _ => none }
def FnGjResultLessThreeWrongFalsely : Prop := fnGjResultLessThreeRow.holds Try.pinned (OpenSpec.ofChange fnGjResultLessThreeWrong)

/-- 'laws.FnPrString': WHATEVER THE INPUT: true; the input reads as it did. -/
def fnPrStringSpec : ChangeSpec := { name := "fnPrString", fn := fun _ => fun
  | [d1, d2] => { results := [.lit (.bool true)], args := [d1, d2] }
  | _ => none }
def fnPrStringRow : OpenClaim := { program := "ytbnogfljakmfgaa", sum := "c708023c22ea1d5c6085ff0a3aa0ef522d7b286cddb8f4cd698476ca23534697", func := "pub-tetrapla/laws.FnPrString", spec := "fnPrString", apart := false }
def FnPrStringSaid : Prop := fnPrStringRow.holds Try.pinned (OpenSpec.ofChange fnPrStringSpec)

/-- ITS FALSE NEIGHBOUR: 'it returns false'. Refute it at one input. -/
def fnPrStringWrong : ChangeSpec := { name := "fnPrString", fn := fun _ => fun
  | [d1, d2] => { results := [.lit (.bool false)], args := [d1, d2] }
  | _ => none }
def FnPrStringWrongFalsely : Prop := fnPrStringRow.holds Try.pinned (OpenSpec.ofChange fnPrStringWrong)

/- THE SECOND FORM. 'bulk': how many values and letters a reading holds, each counted each time it is reached (what is shared counts as often as it is met; a slice's spare places count too). A statement '..UptoSaid' is the law's where the arguments, and the package variables that the reading takes, are together of bulk at most 1048576: NARROWER than '..Said'. Prove '..Said' where nothing that the law and all that it calls make is longer than what came in: it says more and counts as full. Else prove '..UptoSaid'. A law counts once. -/
mutual
def uptoBulk {H : Type} : DataW H → Nat
  | .lit (.string bytes) => bytes.length + 1
  | .lit _ => 1
  | .nil => 1
  | .ptr d => uptoBulk d + 1
  | .slice elems spare => uptoBulkAll elems + uptoBulkAll spare + 1
  | .agg parts => uptoBulkAll parts + 1
  | .iface _ d => uptoBulk d + 1
  | .map entries => uptoBulkEntries entries + 1
  | .held _ => 1
def uptoBulkAll {H : Type} : List (DataW H) → Nat
  | [] => 0
  | d :: r => uptoBulk d + uptoBulkAll r
def uptoBulkEntries {H : Type} : List (Lit × DataW H) → Nat
  | [] => 0
  | x :: r => uptoBulkEntry x + uptoBulkEntries r
def uptoBulkEntry {H : Type} : Lit × DataW H → Nat
  | (.string bytes, d) => bytes.length + uptoBulk d + 1
  | (_, d) => uptoBulk d + 1
 end
def uptoSmall : (H : Type) → List (DataW H) → Bool := fun _ ds => decide (uptoBulkAll ds ≤ 1048576)
def OpenSpec.upto (s : _root_.Go.ChangeSpec) : _root_.Go.OpenSpec := { _root_.Go.OpenSpec.ofChange s with cond := some uptoSmall }

/-- 'laws.FnGjNumberAtAny', WHERE WHAT IT READS IS OF BULK AT MOST 1048576: true; the input reads as it did. -/
def fnGjNumberAtAnyUptoRow : OpenClaim := { program := "ytbnogfljakmfgaa", sum := "c708023c22ea1d5c6085ff0a3aa0ef522d7b286cddb8f4cd698476ca23534697", func := "pub-tetrapla/laws.FnGjNumberAtAny", spec := "fnGjNumberAtAny", apart := false, narrowed := true }
def FnGjNumberAtAnyUptoSaid : Prop := fnGjNumberAtAnyUptoRow.holds Try.pinned (OpenSpec.upto fnGjNumberAtAnySpec)

/-- 'laws.FnGjTrim', WHERE WHAT IT READS IS OF BULK AT MOST 1048576: true; the input reads as it did. -/
def fnGjTrimUptoRow : OpenClaim := { program := "ytbnogfljakmfgaa", sum := "c708023c22ea1d5c6085ff0a3aa0ef522d7b286cddb8f4cd698476ca23534697", func := "pub-tetrapla/laws.FnGjTrim", spec := "fnGjTrim", apart := false, narrowed := true }
def FnGjTrimUptoSaid : Prop := fnGjTrimUptoRow.holds Try.pinned (OpenSpec.upto fnGjTrimSpec)

/-- 'laws.FnPrUgly', WHERE WHAT IT READS IS OF BULK AT MOST 1048576: true; the input reads as it did. -/
def fnPrUglyUptoRow : OpenClaim := { program := "ytbnogfljakmfgaa", sum := "c708023c22ea1d5c6085ff0a3aa0ef522d7b286cddb8f4cd698476ca23534697", func := "pub-tetrapla/laws.FnPrUgly", spec := "fnPrUgly", recurses := true, apart := false, narrowed := true }
def FnPrUglyUptoSaid : Prop := fnPrUglyUptoRow.holds Try.pinned (OpenSpec.upto fnPrUglySpec)

/-- 'laws.FnGjResultLessThree', WHERE WHAT IT READS IS OF BULK AT MOST 1048576: true; the input reads as it did. -/
def fnGjResultLessThreeUptoRow : OpenClaim := { program := "ytbnogfljakmfgaa", sum := "c708023c22ea1d5c6085ff0a3aa0ef522d7b286cddb8f4cd698476ca23534697", func := "pub-tetrapla/laws.FnGjResultLessThree", spec := "fnGjResultLessThree", apart := false, narrowed := true }
def FnGjResultLessThreeUptoSaid : Prop := fnGjResultLessThreeUptoRow.holds Try.pinned (OpenSpec.upto fnGjResultLessThreeSpec)

/-- 'laws.FnPrString', WHERE WHAT IT READS IS OF BULK AT MOST 1048576: true; the input reads as it did. -/
def fnPrStringUptoRow : OpenClaim := { program := "ytbnogfljakmfgaa", sum := "c708023c22ea1d5c6085ff0a3aa0ef522d7b286cddb8f4cd698476ca23534697", func := "pub-tetrapla/laws.FnPrString", spec := "fnPrString", apart := false, narrowed := true }
def FnPrStringUptoSaid : Prop := fnPrStringUptoRow.holds Try.pinned (OpenSpec.upto fnPrStringSpec)

end Rows
end Go.Proofs.Ytbnogfljakmfgaa
