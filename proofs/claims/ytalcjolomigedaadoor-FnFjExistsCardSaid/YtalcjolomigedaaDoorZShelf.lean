/-
  DERIVED: THE SHELF's CONTRACTS AT THIS DUMP, IN PLAIN WORDS (tools/lay-plain.mjs out of 'TrydShelf.lean', which tools/lay-shelf.mjs wrote): THE SAME DECLARATIONS UNDER THE SAME NAMES: 'import', 'namespace', 'open', 'def', 'theorem' AND NOTHING ELSE: no command of the shelf's: FOR A HAND-IN. Each laying: the table of numbers ('.._ren') and one theorem, a field a fact of the dump's own or the kernel's comparison; each contract: ONE APPLICATION.
-/
import Derived.Shelf.Small.Utf8
import Derived.Shelf.Small.Strs
import Derived.Shelf.Strconv.Atoi
import Derived.Shelf.Strconv.AtoiErrFast
import Derived.Shelf.Strconv.ParseIntEmpty
import Derived.Shelf.Strconv.AtoiFail
import Derived.Shelf.LaysM
import Derived.Shelf.Strconv.Clone
import Derived.Shelf.Strconv.SyntaxError
import Derived.Shelf.LaysC
import Derived.Shelf.Strconv.ToError
import Derived.Shelf.Strconv.Lower
import Derived.Shelf.Strconv.ParseUint10
import Derived.Shelf.Strconv.ParseUint10Empty
import Derived.Shelf.Strconv.ParseUint10Any
import Derived.Shelf.Strconv.ParseInt10
import Derived.Shelf.Strconv.AtoiLong
import Derived.Shelf.Strconv.AtoiInnerAll
import Derived.Shelf.Strconv.RangeError
import Derived.Shelf.Strconv.ToErrorRange
import Derived.Shelf.Strconv.AtoiAll
import Derived.Shelf.Strconv.ParseUintEmpty
import Derived.Shelf.Strconv.ParseUint10b64
import Derived.Shelf.Strconv.ParseUint10b32
import Derived.Shelf.Strconv.ParseUint10b16
import Derived.Shelf.Strconv.ParseUint10b8
import Derived.Shelf.Strconv.ParseUint10At
import Derived.Shelf.Strconv.ParseInt10At64
import Derived.Shelf.Strconv.ParseInt10At32
import Derived.Shelf.Strconv.ParseInt10At16
import Derived.Shelf.Strconv.ParseInt10At8
import Derived.Shelf.Strconv.ParseInt10All
import Derived.Shelf.Strconv.ParseIntPublic10
import Derived.Shelf.Strings.Search1
import Derived.Shelf.Unicode.Decode
import Derived.Shelf.Unicode.DecodeSlow
import Derived.Shelf.Unicode.DecodeAny
import Derived.Test.YtalcjolomigedaaDoorProg
namespace Go.Proofs
open Go.Shelf
def Tryd.lays137_ren : Go.Shelf.Ren := ⟨fun | 137 => 63 | 217 => 85 | 266 => 103 | n => n, fun | 9 => 9 | 5 => 5 | 3 => 3 | n => n, fun | n => n⟩
theorem Tryd.lays137 : Go.Proofs.Lays.n137 Tryd.prog Tryd.lays137_ren := {
  mixed := by kernel_rfl
  f137 := Tryd.func63.trans (congrArg some (by kernel_rfl))
  f217 := Tryd.func85.trans (congrArg some (by kernel_rfl))
  f266 := Tryd.func103.trans (congrArg some (by kernel_rfl))
  t3 := Tryd.underlying3
  a3 := Tryd.isAgg3
  z3 := Tryd.sizeOf3
  v3 := Tryd.zeroValue3
  t5 := Tryd.underlying5
  a5 := Tryd.isAgg5
  z5 := Tryd.sizeOf5
  v5 := Tryd.zeroValue5
  t9 := Tryd.underlying9
  a9 := Tryd.isAgg9
  z9 := Tryd.sizeOf9
  v9 := Tryd.zeroValue9 }
open Go.RowKit in
/-- strings.IndexByte: "IndexByte returns the index of the first instance of c in s, or -1 if c is not present in s.": IT RETURNS 'Lib.indexByte s c'; the world is as it was. (LAID: no walk: one application.) -/
theorem Tryd.strings_IndexByte (s : ByteArray) (c : Int) (w : World) :
    Calls Tryd.prog 63 #[.string s, .int .u8 c] w fun e w' => e = .returned (.int .i64 (Lib.indexByte s.data.toList c.toNat.toUInt8)) ∧ w' = w := Any.strings_IndexByte Tryd.lays137 s c w
def Tryd.laysM316_ren : Go.Shelf.Ren := ⟨fun | 316 => 113 | n => n, fun | 9 => 9 | 3 => 3 | 4 => 4 | 37 => 42 | 0 => 0 | 127 => 149 | 5 => 5 | n => n, fun | n => n⟩
theorem Tryd.laysM316 : Go.Proofs.LaysM.n316 Tryd.prog Tryd.laysM316_ren := {
  mixed := by kernel_rfl
  f316 := Tryd.func113.trans (congrArg some (by kernel_rfl))
  t0 := Tryd.underlying0
  a0 := Tryd.isAgg0
  z0 := Tryd.sizeOf0
  v0 := Tryd.zeroValue0
  t3 := Tryd.underlying3
  a3 := Tryd.isAgg3
  z3 := Tryd.sizeOf3
  v3 := Tryd.zeroValue3
  t4 := Tryd.underlying4
  a4 := Tryd.isAgg4
  z4 := Tryd.sizeOf4
  v4 := Tryd.zeroValue4
  t9 := Tryd.underlying9
  a9 := Tryd.isAgg9
  z9 := Tryd.sizeOf9
  v9 := Tryd.zeroValue9
  t37 := Tryd.underlying42
  a37 := Tryd.isAgg42
  z37 := Tryd.sizeOf42
  v37 := Tryd.zeroValue42
  t127 := Tryd.underlying149
  a127 := Tryd.isAgg149
  z127 := Tryd.sizeOf149
  v127 := Tryd.zeroValue149
  t5 := Tryd.underlying5
  a5 := Tryd.isAgg5
  z5 := Tryd.sizeOf5
  v5 := Tryd.zeroValue5
  i0 := by kernel_rfl
  i3 := by kernel_rfl
  i4 := by kernel_rfl
  i5 := by kernel_rfl
  i9 := by kernel_rfl
  i37 := by kernel_rfl
  i127 := by kernel_rfl }
open Go.RowKit in
/-- internal/stringslite.Clone (what strings.Clone calls): "Clone returns a fresh copy of s.": THE SAME BYTES. Of what was there nothing has turned (a new row is laid, and frozen, where s is not empty). (LAID: no walk: one application.) -/
theorem Tryd.stringslite_Clone (s : ByteArray) (w : World) (hlim : s.size ≤ 281474976710656) :
    Calls Tryd.prog 113 #[.string s] w fun e w' => e = .returned (.string s) ∧ Below w.heap.size w w' := Any.stringslite_Clone Tryd.laysM316 s w hlim
def Tryd.laysM279_ren : Go.Shelf.Ren := ⟨fun | 279 => 106 | 316 => 113 | n => n, fun | 9 => 9 | 168 => 139 | 75 => 55 | 210 => 146 | 3 => 3 | 4 => 4 | 37 => 42 | 0 => 0 | 127 => 149 | 80 => 59 | 5 => 5 | n => n, fun | 15 => 1 | n => n⟩
theorem Tryd.laysM279 : Go.Proofs.LaysM.n279 Tryd.prog Tryd.laysM279_ren := {
  mixed := by kernel_rfl
  f279 := Tryd.func106.trans (congrArg some (by kernel_rfl))
  f316 := Tryd.func113.trans (congrArg some (by kernel_rfl))
  t0 := Tryd.underlying0
  a0 := Tryd.isAgg0
  z0 := Tryd.sizeOf0
  v0 := Tryd.zeroValue0
  t3 := Tryd.underlying3
  a3 := Tryd.isAgg3
  z3 := Tryd.sizeOf3
  v3 := Tryd.zeroValue3
  t4 := Tryd.underlying4
  a4 := Tryd.isAgg4
  z4 := Tryd.sizeOf4
  v4 := Tryd.zeroValue4
  t9 := Tryd.underlying9
  a9 := Tryd.isAgg9
  z9 := Tryd.sizeOf9
  v9 := Tryd.zeroValue9
  t37 := Tryd.underlying42
  a37 := Tryd.isAgg42
  z37 := Tryd.sizeOf42
  v37 := Tryd.zeroValue42
  t75 := Tryd.underlying55
  a75 := Tryd.isAgg55
  z75 := Tryd.sizeOf55
  v75 := Tryd.zeroValue55
  t127 := Tryd.underlying149
  a127 := Tryd.isAgg149
  z127 := Tryd.sizeOf149
  v127 := Tryd.zeroValue149
  t168 := Tryd.underlying139
  a168 := Tryd.isAgg139
  z168 := Tryd.sizeOf139
  v168 := Tryd.zeroValue139
  t210 := Tryd.underlying146
  a210 := Tryd.isAgg146
  z210 := Tryd.sizeOf146
  v210 := Tryd.zeroValue146
  g15 := by kernel_rfl
  t5 := Tryd.underlying5
  a5 := Tryd.isAgg5
  z5 := Tryd.sizeOf5
  v5 := Tryd.zeroValue5
  t80 := Tryd.underlying59
  a80 := Tryd.isAgg59
  z80 := Tryd.sizeOf59
  v80 := Tryd.zeroValue59
  i0 := by kernel_rfl
  i3 := by kernel_rfl
  i4 := by kernel_rfl
  i5 := by kernel_rfl
  i9 := by kernel_rfl
  i37 := by kernel_rfl
  i75 := by kernel_rfl
  i80 := by kernel_rfl
  i127 := by kernel_rfl
  i168 := by kernel_rfl
  i210 := by kernel_rfl
  m15 := by kernel_rfl }
open Go.RowKit in
/-- strconv.syntaxError: '&NumError{fn, stringslite.Clone(str), ErrSyntax}': A POINTER TO A NEW BLOCK that holds fn, str's bytes, and what the variable ErrSyntax holds. Of what was there nothing has turned. (LAID: no walk: one application.) -/
theorem Tryd.strconv_syntaxError (fn s : ByteArray) (ev : Value) (w : World) (hlim : s.size ≤ 281474976710656) (hv : w.cell? ⟨1, 0, none⟩ = some ev) (hev : ev = .nilIface ∨ ∃ te pe, ev = .iface te pe) :
    Calls Tryd.prog 106 #[.string fn, .string s] w fun e w' => ∃ N, e = .returned (.pointer (some ⟨N, 0, none⟩)) ∧ w.heap.size ≤ N ∧ w'.heap[N]? = some (.cells #[.string fn, .string s, ev] 146 (0, 0)) ∧ Below w.heap.size w w' := Any.strconv_syntaxError Tryd.laysM279 fn s ev w hlim hv hev
def Tryd.laysC245_ren : Go.Shelf.Ren := ⟨fun | 245 => 87 | 279 => 106 | 280 => 107 | 281 => 108 | 282 => 109 | 316 => 113 | 171 => 114 | 205 => 48 | 243 => 120 | 246 => 124 | 283 => 125 | 284 => 126 | 285 => 127 | 286 => 128 | 129 => 130 | 317 => 129 | 318 => 131 | 319 => 132 | 320 => 133 | 337 => 134 | 338 => 135 | n => n, fun | 9 => 9 | 3 => 3 | 75 => 55 | 167 => 138 | 4 => 4 | 168 => 139 | 210 => 146 | 37 => 42 | 0 => 0 | 127 => 149 | 145 => 113 | 143 => 111 | 2 => 2 | 171 => 161 | 53 => 67 | 5 => 5 | 173 => 164 | 212 => 168 | 51 => 157 | 20 => 20 | 213 => 169 | 46 => 124 | 232 => 172 | 233 => 173 | 80 => 59 | n => n, fun | 15 => 1 | 16 => 2 | 17 => 10 | 18 => 11 | 19 => 12 | n => n⟩
theorem Tryd.laysC245 : Go.Proofs.LaysC.n245 Tryd.prog Tryd.laysC245_ren := {
  mixed := by kernel_rfl
  f129 := Tryd.func130.trans (congrArg some (by kernel_rfl))
  f171 := Tryd.func114.trans (congrArg some (by kernel_rfl))
  f205 := Tryd.func48.trans (congrArg some (by kernel_rfl))
  f243 := Tryd.func120.trans (congrArg some (by kernel_rfl))
  f245 := Tryd.func87.trans (congrArg some (by kernel_rfl))
  f246 := Tryd.func124.trans (congrArg some (by kernel_rfl))
  f279 := Tryd.func106.trans (congrArg some (by kernel_rfl))
  f280 := Tryd.func107.trans (congrArg some (by kernel_rfl))
  f281 := Tryd.func108.trans (congrArg some (by kernel_rfl))
  f282 := Tryd.func109.trans (congrArg some (by kernel_rfl))
  f283 := Tryd.func125.trans (congrArg some (by kernel_rfl))
  f284 := Tryd.func126.trans (congrArg some (by kernel_rfl))
  f285 := Tryd.func127.trans (congrArg some (by kernel_rfl))
  f286 := Tryd.func128.trans (congrArg some (by kernel_rfl))
  f316 := Tryd.func113.trans (congrArg some (by kernel_rfl))
  f317 := Tryd.func129.trans (congrArg some (by kernel_rfl))
  f318 := Tryd.func131.trans (congrArg some (by kernel_rfl))
  f319 := Tryd.func132.trans (congrArg some (by kernel_rfl))
  f320 := Tryd.func133.trans (congrArg some (by kernel_rfl))
  f337 := Tryd.func134.trans (congrArg some (by kernel_rfl))
  f338 := Tryd.func135.trans (congrArg some (by kernel_rfl))
  t0 := Tryd.underlying0
  a0 := Tryd.isAgg0
  z0 := Tryd.sizeOf0
  v0 := Tryd.zeroValue0
  t2 := Tryd.underlying2
  a2 := Tryd.isAgg2
  z2 := Tryd.sizeOf2
  v2 := Tryd.zeroValue2
  t3 := Tryd.underlying3
  a3 := Tryd.isAgg3
  z3 := Tryd.sizeOf3
  v3 := Tryd.zeroValue3
  t4 := Tryd.underlying4
  a4 := Tryd.isAgg4
  z4 := Tryd.sizeOf4
  v4 := Tryd.zeroValue4
  t5 := Tryd.underlying5
  a5 := Tryd.isAgg5
  z5 := Tryd.sizeOf5
  v5 := Tryd.zeroValue5
  t9 := Tryd.underlying9
  a9 := Tryd.isAgg9
  z9 := Tryd.sizeOf9
  v9 := Tryd.zeroValue9
  t20 := Tryd.underlying20
  a20 := Tryd.isAgg20
  z20 := Tryd.sizeOf20
  v20 := Tryd.zeroValue20
  t37 := Tryd.underlying42
  a37 := Tryd.isAgg42
  z37 := Tryd.sizeOf42
  v37 := Tryd.zeroValue42
  t46 := Tryd.underlying124
  a46 := Tryd.isAgg124
  z46 := Tryd.sizeOf124
  v46 := Tryd.zeroValue124
  t51 := Tryd.underlying157
  a51 := Tryd.isAgg157
  z51 := Tryd.sizeOf157
  v51 := Tryd.zeroValue157
  t53 := Tryd.underlying67
  a53 := Tryd.isAgg67
  z53 := Tryd.sizeOf67
  v53 := Tryd.zeroValue67
  t75 := Tryd.underlying55
  a75 := Tryd.isAgg55
  z75 := Tryd.sizeOf55
  v75 := Tryd.zeroValue55
  t127 := Tryd.underlying149
  a127 := Tryd.isAgg149
  z127 := Tryd.sizeOf149
  v127 := Tryd.zeroValue149
  t143 := Tryd.underlying111
  a143 := Tryd.isAgg111
  z143 := Tryd.sizeOf111
  v143 := Tryd.zeroValue111
  t145 := Tryd.underlying113
  a145 := Tryd.isAgg113
  z145 := Tryd.sizeOf113
  v145 := Tryd.zeroValue113
  t167 := Tryd.underlying138
  a167 := Tryd.isAgg138
  z167 := Tryd.sizeOf138
  v167 := Tryd.zeroValue138
  t168 := Tryd.underlying139
  a168 := Tryd.isAgg139
  z168 := Tryd.sizeOf139
  v168 := Tryd.zeroValue139
  t171 := Tryd.underlying161
  a171 := Tryd.isAgg161
  z171 := Tryd.sizeOf161
  v171 := Tryd.zeroValue161
  t173 := Tryd.underlying164
  a173 := Tryd.isAgg164
  z173 := Tryd.sizeOf164
  v173 := Tryd.zeroValue164
  t210 := Tryd.underlying146
  a210 := Tryd.isAgg146
  z210 := Tryd.sizeOf146
  v210 := Tryd.zeroValue146
  t212 := Tryd.underlying168
  a212 := Tryd.isAgg168
  z212 := Tryd.sizeOf168
  v212 := Tryd.zeroValue168
  t213 := Tryd.underlying169
  a213 := Tryd.isAgg169
  z213 := Tryd.sizeOf169
  t232 := Tryd.underlying172
  a232 := Tryd.isAgg172
  z232 := Tryd.sizeOf172
  v232 := Tryd.zeroValue172
  t233 := Tryd.underlying173
  a233 := Tryd.isAgg173
  z233 := Tryd.sizeOf173
  v233 := Tryd.zeroValue173
  g15 := by kernel_rfl
  g16 := by kernel_rfl
  g17 := by kernel_rfl
  g18 := by kernel_rfl
  g19 := by kernel_rfl
  t80 := Tryd.underlying59
  a80 := Tryd.isAgg59
  z80 := Tryd.sizeOf59
  v80 := Tryd.zeroValue59
  i0 := by kernel_rfl
  i2 := by kernel_rfl
  i3 := by kernel_rfl
  i4 := by kernel_rfl
  i5 := by kernel_rfl
  i9 := by kernel_rfl
  i20 := by kernel_rfl
  i37 := by kernel_rfl
  i46 := by kernel_rfl
  i51 := by kernel_rfl
  i53 := by kernel_rfl
  i75 := by kernel_rfl
  i80 := by kernel_rfl
  i127 := by kernel_rfl
  i143 := by kernel_rfl
  i145 := by kernel_rfl
  i167 := by kernel_rfl
  i168 := by kernel_rfl
  i171 := by kernel_rfl
  i173 := by kernel_rfl
  i210 := by kernel_rfl
  i212 := by kernel_rfl
  i232 := by kernel_rfl
  i233 := by kernel_rfl
  m15 := by kernel_rfl
  m16 := by kernel_rfl
  m17 := by kernel_rfl
  m18 := by kernel_rfl
  m19 := by kernel_rfl
  c0 := by kernel_rfl
  c2 := by kernel_rfl
  c3 := by kernel_rfl
  c4 := by kernel_rfl
  c5 := by kernel_rfl
  c9 := by kernel_rfl
  c20 := by kernel_rfl
  c37 := by kernel_rfl
  c46 := by kernel_rfl
  c51 := by kernel_rfl
  c53 := by kernel_rfl
  c75 := by kernel_rfl
  c80 := by kernel_rfl
  c127 := by kernel_rfl
  c143 := by kernel_rfl
  c145 := by kernel_rfl
  c167 := by kernel_rfl
  c168 := by kernel_rfl
  c171 := by kernel_rfl
  c173 := by kernel_rfl
  c210 := by kernel_rfl
  c212 := by kernel_rfl
  c213 := by kernel_rfl
  c232 := by kernel_rfl
  c233 := by kernel_rfl }
open Go.RowKit in
/-- strconv.toError, at the inner package's ErrSyntax: 'syntaxError(fn, s)' as an error: A *NumError IN A NEW BLOCK. (LAID: no walk: one application.) -/
theorem Tryd.strconv_toError_syntax (fn s : ByteArray) (base bits : Int) (ev : Value) (w : World) (hlim : s.size ≤ 281474976710656) (hv : w.cell? ⟨1, 0, none⟩ = some ev) (hev : ev = .nilIface ∨ ∃ te pe, ev = .iface te pe) :
    Calls Tryd.prog 87 #[.string fn, .string s, .int .i64 base, .int .i64 bits, .iface 138 (.int .i64 2)] w fun e w' => ∃ N, e = .returned (.iface 139 (.pointer (some ⟨N, 0, none⟩))) ∧ w.heap.size ≤ N ∧ w'.heap[N]? = some (.cells #[.string fn, .string s, ev] 146 (0, 0)) ∧ Below w.heap.size w w' := Any.strconv_toError_syntax Tryd.laysC245 fn s base bits ev w hlim hv hev
def Tryd.lays321_ren : Go.Shelf.Ren := ⟨fun | 321 => 104 | n => n, fun | 5 => 5 | n => n, fun | n => n⟩
theorem Tryd.lays321 : Go.Proofs.Lays.n321 Tryd.prog Tryd.lays321_ren := {
  mixed := by kernel_rfl
  f321 := Tryd.func104.trans (congrArg some (by kernel_rfl))
  t5 := Tryd.underlying5
  a5 := Tryd.isAgg5
  z5 := Tryd.sizeOf5
  v5 := Tryd.zeroValue5 }
open Go.RowKit in
/-- internal/strconv.lower: 'c | ('x' - 'X')': the bit 32 set. The world is as it was. (LAID: no walk: one application.) -/
theorem Tryd.internal_strconv_lower (c : Int) (w : World) :
    Calls Tryd.prog 104 #[.int .u8 c] w fun e w' => e = .returned (.int .u8 (bits .or .u8 c 32)) ∧ w' = w := Any.internal_strconv_lower Tryd.lays321 c w
def Tryd.laysM280_ren : Go.Shelf.Ren := ⟨fun | 280 => 107 | 316 => 113 | n => n, fun | 9 => 9 | 168 => 139 | 75 => 55 | 210 => 146 | 3 => 3 | 4 => 4 | 37 => 42 | 0 => 0 | 127 => 149 | 80 => 59 | 5 => 5 | n => n, fun | 16 => 2 | n => n⟩
theorem Tryd.laysM280 : Go.Proofs.LaysM.n280 Tryd.prog Tryd.laysM280_ren := {
  mixed := by kernel_rfl
  f280 := Tryd.func107.trans (congrArg some (by kernel_rfl))
  f316 := Tryd.func113.trans (congrArg some (by kernel_rfl))
  t0 := Tryd.underlying0
  a0 := Tryd.isAgg0
  z0 := Tryd.sizeOf0
  v0 := Tryd.zeroValue0
  t3 := Tryd.underlying3
  a3 := Tryd.isAgg3
  z3 := Tryd.sizeOf3
  v3 := Tryd.zeroValue3
  t4 := Tryd.underlying4
  a4 := Tryd.isAgg4
  z4 := Tryd.sizeOf4
  v4 := Tryd.zeroValue4
  t9 := Tryd.underlying9
  a9 := Tryd.isAgg9
  z9 := Tryd.sizeOf9
  v9 := Tryd.zeroValue9
  t37 := Tryd.underlying42
  a37 := Tryd.isAgg42
  z37 := Tryd.sizeOf42
  v37 := Tryd.zeroValue42
  t75 := Tryd.underlying55
  a75 := Tryd.isAgg55
  z75 := Tryd.sizeOf55
  v75 := Tryd.zeroValue55
  t127 := Tryd.underlying149
  a127 := Tryd.isAgg149
  z127 := Tryd.sizeOf149
  v127 := Tryd.zeroValue149
  t168 := Tryd.underlying139
  a168 := Tryd.isAgg139
  z168 := Tryd.sizeOf139
  v168 := Tryd.zeroValue139
  t210 := Tryd.underlying146
  a210 := Tryd.isAgg146
  z210 := Tryd.sizeOf146
  v210 := Tryd.zeroValue146
  g16 := by kernel_rfl
  t5 := Tryd.underlying5
  a5 := Tryd.isAgg5
  z5 := Tryd.sizeOf5
  v5 := Tryd.zeroValue5
  t80 := Tryd.underlying59
  a80 := Tryd.isAgg59
  z80 := Tryd.sizeOf59
  v80 := Tryd.zeroValue59
  i0 := by kernel_rfl
  i3 := by kernel_rfl
  i4 := by kernel_rfl
  i5 := by kernel_rfl
  i9 := by kernel_rfl
  i37 := by kernel_rfl
  i75 := by kernel_rfl
  i80 := by kernel_rfl
  i127 := by kernel_rfl
  i168 := by kernel_rfl
  i210 := by kernel_rfl
  m16 := by kernel_rfl }
open Go.RowKit in
/-- strconv.rangeError: '&NumError{fn, stringslite.Clone(str), ErrRange}': A POINTER TO A NEW BLOCK that holds fn, str's bytes, and what the variable ErrRange holds. Of what was there nothing has turned. (LAID: no walk: one application.) -/
theorem Tryd.strconv_rangeError (fn s : ByteArray) (ev : Value) (w : World) (hlim : s.size ≤ 281474976710656) (hv : w.cell? ⟨2, 0, none⟩ = some ev) (hev : ev = .nilIface ∨ ∃ te pe, ev = .iface te pe) :
    Calls Tryd.prog 107 #[.string fn, .string s] w fun e w' => ∃ N, e = .returned (.pointer (some ⟨N, 0, none⟩)) ∧ w.heap.size ≤ N ∧ w'.heap[N]? = some (.cells #[.string fn, .string s, ev] 146 (0, 0)) ∧ Below w.heap.size w w' := Any.strconv_rangeError Tryd.laysM280 fn s ev w hlim hv hev
def Tryd.laysC172_ren : Go.Shelf.Ren := ⟨fun | 172 => 84 | 244 => 102 | 245 => 87 | 247 => 100 | 279 => 106 | 280 => 107 | 281 => 108 | 282 => 109 | 287 => 86 | 316 => 113 | 171 => 114 | 205 => 48 | 321 => 104 | 322 => 105 | 243 => 120 | 246 => 124 | 283 => 125 | 284 => 126 | 285 => 127 | 286 => 128 | 129 => 130 | 317 => 129 | 318 => 131 | 319 => 132 | 320 => 133 | 337 => 134 | 338 => 135 | n => n, fun | 9 => 9 | 3 => 3 | 75 => 55 | 76 => 65 | 4 => 4 | 5 => 5 | 167 => 138 | 37 => 42 | 0 => 0 | 85 => 63 | 2 => 2 | 168 => 139 | 53 => 67 | 175 => 102 | 46 => 124 | 210 => 146 | 127 => 149 | 145 => 113 | 143 => 111 | 21 => 21 | 171 => 161 | 173 => 164 | 212 => 168 | 51 => 157 | 20 => 20 | 213 => 169 | 232 => 172 | 233 => 173 | 80 => 59 | n => n, fun | 15 => 1 | 16 => 2 | 17 => 10 | 18 => 11 | 19 => 12 | n => n⟩
theorem Tryd.laysC172 : Go.Proofs.LaysC.n172 Tryd.prog Tryd.laysC172_ren := {
  mixed := by kernel_rfl
  f129 := Tryd.func130.trans (congrArg some (by kernel_rfl))
  f171 := Tryd.func114.trans (congrArg some (by kernel_rfl))
  f172 := Tryd.func84.trans (congrArg some (by kernel_rfl))
  f205 := Tryd.func48.trans (congrArg some (by kernel_rfl))
  f243 := Tryd.func120.trans (congrArg some (by kernel_rfl))
  f244 := Tryd.func102.trans (congrArg some (by kernel_rfl))
  f245 := Tryd.func87.trans (congrArg some (by kernel_rfl))
  f246 := Tryd.func124.trans (congrArg some (by kernel_rfl))
  f247 := Tryd.func100.trans (congrArg some (by kernel_rfl))
  f279 := Tryd.func106.trans (congrArg some (by kernel_rfl))
  f280 := Tryd.func107.trans (congrArg some (by kernel_rfl))
  f281 := Tryd.func108.trans (congrArg some (by kernel_rfl))
  f282 := Tryd.func109.trans (congrArg some (by kernel_rfl))
  f283 := Tryd.func125.trans (congrArg some (by kernel_rfl))
  f284 := Tryd.func126.trans (congrArg some (by kernel_rfl))
  f285 := Tryd.func127.trans (congrArg some (by kernel_rfl))
  f286 := Tryd.func128.trans (congrArg some (by kernel_rfl))
  f287 := Tryd.func86.trans (congrArg some (by kernel_rfl))
  f316 := Tryd.func113.trans (congrArg some (by kernel_rfl))
  f317 := Tryd.func129.trans (congrArg some (by kernel_rfl))
  f318 := Tryd.func131.trans (congrArg some (by kernel_rfl))
  f319 := Tryd.func132.trans (congrArg some (by kernel_rfl))
  f320 := Tryd.func133.trans (congrArg some (by kernel_rfl))
  f321 := Tryd.func104.trans (congrArg some (by kernel_rfl))
  f322 := Tryd.func105.trans (congrArg some (by kernel_rfl))
  f337 := Tryd.func134.trans (congrArg some (by kernel_rfl))
  f338 := Tryd.func135.trans (congrArg some (by kernel_rfl))
  t0 := Tryd.underlying0
  a0 := Tryd.isAgg0
  z0 := Tryd.sizeOf0
  v0 := Tryd.zeroValue0
  t2 := Tryd.underlying2
  a2 := Tryd.isAgg2
  z2 := Tryd.sizeOf2
  v2 := Tryd.zeroValue2
  t3 := Tryd.underlying3
  a3 := Tryd.isAgg3
  z3 := Tryd.sizeOf3
  v3 := Tryd.zeroValue3
  t4 := Tryd.underlying4
  a4 := Tryd.isAgg4
  z4 := Tryd.sizeOf4
  v4 := Tryd.zeroValue4
  t5 := Tryd.underlying5
  a5 := Tryd.isAgg5
  z5 := Tryd.sizeOf5
  v5 := Tryd.zeroValue5
  t9 := Tryd.underlying9
  a9 := Tryd.isAgg9
  z9 := Tryd.sizeOf9
  v9 := Tryd.zeroValue9
  t20 := Tryd.underlying20
  a20 := Tryd.isAgg20
  z20 := Tryd.sizeOf20
  v20 := Tryd.zeroValue20
  t21 := Tryd.underlying21
  a21 := Tryd.isAgg21
  z21 := Tryd.sizeOf21
  v21 := Tryd.zeroValue21
  t37 := Tryd.underlying42
  a37 := Tryd.isAgg42
  z37 := Tryd.sizeOf42
  v37 := Tryd.zeroValue42
  t46 := Tryd.underlying124
  a46 := Tryd.isAgg124
  z46 := Tryd.sizeOf124
  v46 := Tryd.zeroValue124
  t51 := Tryd.underlying157
  a51 := Tryd.isAgg157
  z51 := Tryd.sizeOf157
  v51 := Tryd.zeroValue157
  t53 := Tryd.underlying67
  a53 := Tryd.isAgg67
  z53 := Tryd.sizeOf67
  v53 := Tryd.zeroValue67
  t75 := Tryd.underlying55
  a75 := Tryd.isAgg55
  z75 := Tryd.sizeOf55
  v75 := Tryd.zeroValue55
  t76 := Tryd.underlying65
  a76 := Tryd.isAgg65
  z76 := Tryd.sizeOf65
  v76 := Tryd.zeroValue65
  t85 := Tryd.underlying63
  a85 := Tryd.isAgg63
  z85 := Tryd.sizeOf63
  v85 := Tryd.zeroValue63
  t127 := Tryd.underlying149
  a127 := Tryd.isAgg149
  z127 := Tryd.sizeOf149
  v127 := Tryd.zeroValue149
  t143 := Tryd.underlying111
  a143 := Tryd.isAgg111
  z143 := Tryd.sizeOf111
  v143 := Tryd.zeroValue111
  t145 := Tryd.underlying113
  a145 := Tryd.isAgg113
  z145 := Tryd.sizeOf113
  v145 := Tryd.zeroValue113
  t167 := Tryd.underlying138
  a167 := Tryd.isAgg138
  z167 := Tryd.sizeOf138
  v167 := Tryd.zeroValue138
  t168 := Tryd.underlying139
  a168 := Tryd.isAgg139
  z168 := Tryd.sizeOf139
  v168 := Tryd.zeroValue139
  t171 := Tryd.underlying161
  a171 := Tryd.isAgg161
  z171 := Tryd.sizeOf161
  v171 := Tryd.zeroValue161
  t173 := Tryd.underlying164
  a173 := Tryd.isAgg164
  z173 := Tryd.sizeOf164
  v173 := Tryd.zeroValue164
  t175 := Tryd.underlying102
  a175 := Tryd.isAgg102
  z175 := Tryd.sizeOf102
  v175 := Tryd.zeroValue102
  t210 := Tryd.underlying146
  a210 := Tryd.isAgg146
  z210 := Tryd.sizeOf146
  v210 := Tryd.zeroValue146
  t212 := Tryd.underlying168
  a212 := Tryd.isAgg168
  z212 := Tryd.sizeOf168
  v212 := Tryd.zeroValue168
  t213 := Tryd.underlying169
  a213 := Tryd.isAgg169
  z213 := Tryd.sizeOf169
  t232 := Tryd.underlying172
  a232 := Tryd.isAgg172
  z232 := Tryd.sizeOf172
  v232 := Tryd.zeroValue172
  t233 := Tryd.underlying173
  a233 := Tryd.isAgg173
  z233 := Tryd.sizeOf173
  v233 := Tryd.zeroValue173
  g15 := by kernel_rfl
  g16 := by kernel_rfl
  g17 := by kernel_rfl
  g18 := by kernel_rfl
  g19 := by kernel_rfl
  t80 := Tryd.underlying59
  a80 := Tryd.isAgg59
  z80 := Tryd.sizeOf59
  v80 := Tryd.zeroValue59
  i0 := by kernel_rfl
  i2 := by kernel_rfl
  i3 := by kernel_rfl
  i4 := by kernel_rfl
  i5 := by kernel_rfl
  i9 := by kernel_rfl
  i20 := by kernel_rfl
  i21 := by kernel_rfl
  i37 := by kernel_rfl
  i46 := by kernel_rfl
  i51 := by kernel_rfl
  i53 := by kernel_rfl
  i75 := by kernel_rfl
  i76 := by kernel_rfl
  i80 := by kernel_rfl
  i85 := by kernel_rfl
  i127 := by kernel_rfl
  i143 := by kernel_rfl
  i145 := by kernel_rfl
  i167 := by kernel_rfl
  i168 := by kernel_rfl
  i171 := by kernel_rfl
  i173 := by kernel_rfl
  i175 := by kernel_rfl
  i210 := by kernel_rfl
  i212 := by kernel_rfl
  i232 := by kernel_rfl
  i233 := by kernel_rfl
  m15 := by kernel_rfl
  m16 := by kernel_rfl
  m17 := by kernel_rfl
  m18 := by kernel_rfl
  m19 := by kernel_rfl
  c0 := by kernel_rfl
  c2 := by kernel_rfl
  c3 := by kernel_rfl
  c4 := by kernel_rfl
  c5 := by kernel_rfl
  c9 := by kernel_rfl
  c20 := by kernel_rfl
  c21 := by kernel_rfl
  c37 := by kernel_rfl
  c46 := by kernel_rfl
  c51 := by kernel_rfl
  c53 := by kernel_rfl
  c75 := by kernel_rfl
  c76 := by kernel_rfl
  c80 := by kernel_rfl
  c85 := by kernel_rfl
  c127 := by kernel_rfl
  c143 := by kernel_rfl
  c145 := by kernel_rfl
  c167 := by kernel_rfl
  c168 := by kernel_rfl
  c171 := by kernel_rfl
  c173 := by kernel_rfl
  c175 := by kernel_rfl
  c210 := by kernel_rfl
  c212 := by kernel_rfl
  c213 := by kernel_rfl
  c232 := by kernel_rfl
  c233 := by kernel_rfl }
open Go.RowKit in
/-- strconv.Atoi, AT EVERY STRING THAT SPELLS AN int ('Lib.atoiAll .. = .ok v'; of whatever length: leading zeros count): v, AND NO ERROR. The world: as it was, or with the one new row that '[]byte(..)' lays. (LAID: no walk: one application.) -/
theorem Tryd.strconv_Atoi_ok (s : ByteArray) (hmax : s.size ≤ 9223372036854775806) (v : Int) (h : Lib.atoiAll s.data.toList = .ok v) (w : World) :
    Calls Tryd.prog 84 #[.string s] w fun e w' => e = .returned (.tuple #[.int .i64 v, .nilIface]) ∧ (w' = w ∨ ∃ t, w' = Lib.bytesWorld w 5 t) := Any.strconv_Atoi_ok Tryd.laysC172 s hmax v h w
open Go.RowKit in
/-- strconv.Atoi, AT EVERY STRING THAT IS NO DECIMAL NUMERAL ('.syntax'): 0, AND AN ERROR THAT IS NOT nil: a *NumError in a new block N: {Func: "Atoi", Num: s's bytes, Err: what the variable ErrSyntax holds}. Of what was there nothing has turned. (LAID: no walk: one application.) -/
theorem Tryd.strconv_Atoi_syntax (s : ByteArray) (hlim : s.size ≤ 281474976710656) (h : Lib.atoiAll s.data.toList = .«syntax») (ev : Value) (w : World) (hv : w.cell? ⟨1, 0, none⟩ = some ev) (hev : ev = .nilIface ∨ ∃ te pe, ev = .iface te pe) :
    Calls Tryd.prog 84 #[.string s] w fun e w' => ∃ N, e = .returned (.tuple #[.int .i64 (0), .iface 139 (.pointer (some ⟨N, 0, none⟩))]) ∧ w.heap.size ≤ N ∧ w'.heap[N]? = some (.cells #[.string ⟨#[65, 116, 111, 105]⟩, .string s, ev] 146 (0, 0)) ∧ Below w.heap.size w w' := Any.strconv_Atoi_syntax Tryd.laysC172 s hlim h ev w hv hev
open Go.RowKit in
/-- strconv.Atoi, AT EVERY NUMERAL THAT NO int HOLDS ('.range'): THE GREATEST OR THE LEAST int, BY THE SIGN ('Lib.atoiSat'), AND AN ERROR THAT IS NOT nil: a *NumError in a new block N: {Func: "Atoi", Num: s's bytes, Err: what the variable ErrRange holds}. Of what was there nothing has turned. (LAID: no walk: one application.) -/
theorem Tryd.strconv_Atoi_range (s : ByteArray) (hlim : s.size ≤ 281474976710656) (h : Lib.atoiAll s.data.toList = .range) (ev : Value) (w : World) (hv : w.cell? ⟨2, 0, none⟩ = some ev) (hev : ev = .nilIface ∨ ∃ te pe, ev = .iface te pe) :
    Calls Tryd.prog 84 #[.string s] w fun e w' => ∃ N, e = .returned (.tuple #[.int .i64 (Lib.atoiSat s.data.toList), .iface 139 (.pointer (some ⟨N, 0, none⟩))]) ∧ w.heap.size ≤ N ∧ w'.heap[N]? = some (.cells #[.string ⟨#[65, 116, 111, 105]⟩, .string s, ev] 146 (0, 0)) ∧ Below w.heap.size w w' := Any.strconv_Atoi_range Tryd.laysC172 s hlim h ev w hv hev
def Tryd.lays217_ren : Go.Shelf.Ren := ⟨fun | 217 => 85 | 266 => 103 | n => n, fun | 9 => 9 | 5 => 5 | 3 => 3 | n => n, fun | n => n⟩
theorem Tryd.lays217 : Go.Proofs.Lays.n217 Tryd.prog Tryd.lays217_ren := {
  mixed := by kernel_rfl
  f217 := Tryd.func85.trans (congrArg some (by kernel_rfl))
  f266 := Tryd.func103.trans (congrArg some (by kernel_rfl))
  t3 := Tryd.underlying3
  a3 := Tryd.isAgg3
  z3 := Tryd.sizeOf3
  v3 := Tryd.zeroValue3
  t5 := Tryd.underlying5
  a5 := Tryd.isAgg5
  z5 := Tryd.sizeOf5
  v5 := Tryd.zeroValue5
  t9 := Tryd.underlying9
  a9 := Tryd.isAgg9
  z9 := Tryd.sizeOf9
  v9 := Tryd.zeroValue9 }
open Go.RowKit Go.Lib in
/-- internal/stringslite.IndexByte (what strings.IndexByte calls): IT RETURNS 'Lib.indexByte s c'; the world is as it was. (LAID: no walk: one application.) -/
theorem Tryd.stringslite_IndexByte (s : ByteArray) (c : Int) (w : World) :
    Calls Tryd.prog 85 #[.string s, .int .u8 c] w fun e w' => e = .returned (.int .i64 (Lib.indexByte s.data.toList c.toNat.toUInt8)) ∧ w' = w := Any.stringslite_IndexByte Tryd.lays217 s c w
def Tryd.lays197_ren : Go.Shelf.Ren := ⟨fun | 197 => 110 | 260 => 115 | n => n, fun | 9 => 9 | 21 => 21 | 3 => 3 | 4 => 4 | 5 => 5 | 105 => 142 | 119 => 150 | 0 => 0 | 46 => 124 | 139 => 153 | 138 => 152 | n => n, fun | 3 => 3 | 4 => 4 | n => n⟩
theorem Tryd.lays197 : Go.Proofs.Lays.n197 Tryd.prog Tryd.lays197_ren := {
  mixed := by kernel_rfl
  f197 := Tryd.func110.trans (congrArg some (by kernel_rfl))
  f260 := Tryd.func115.trans (congrArg some (by kernel_rfl))
  t0 := Tryd.underlying0
  a0 := Tryd.isAgg0
  z0 := Tryd.sizeOf0
  v0 := Tryd.zeroValue0
  t3 := Tryd.underlying3
  a3 := Tryd.isAgg3
  z3 := Tryd.sizeOf3
  v3 := Tryd.zeroValue3
  t4 := Tryd.underlying4
  a4 := Tryd.isAgg4
  z4 := Tryd.sizeOf4
  v4 := Tryd.zeroValue4
  t5 := Tryd.underlying5
  a5 := Tryd.isAgg5
  z5 := Tryd.sizeOf5
  v5 := Tryd.zeroValue5
  t9 := Tryd.underlying9
  a9 := Tryd.isAgg9
  z9 := Tryd.sizeOf9
  v9 := Tryd.zeroValue9
  t21 := Tryd.underlying21
  a21 := Tryd.isAgg21
  z21 := Tryd.sizeOf21
  v21 := Tryd.zeroValue21
  t46 := Tryd.underlying124
  a46 := Tryd.isAgg124
  z46 := Tryd.sizeOf124
  v46 := Tryd.zeroValue124
  t105 := Tryd.underlying142
  a105 := Tryd.isAgg142
  z105 := Tryd.sizeOf142
  v105 := Tryd.zeroValue142
  t119 := Tryd.underlying150
  a119 := Tryd.isAgg150
  z119 := Tryd.sizeOf150
  t138 := Tryd.underlying152
  a138 := Tryd.isAgg152
  z138 := Tryd.sizeOf152
  v138 := Tryd.zeroValue152
  t139 := Tryd.underlying153
  a139 := Tryd.isAgg153
  z139 := Tryd.sizeOf153
  v139 := Tryd.zeroValue153
  g3 := by kernel_rfl
  g4 := by kernel_rfl }
def Tryd.lays260_ren : Go.Shelf.Ren := ⟨fun | 260 => 115 | n => n, fun | 9 => 9 | 21 => 21 | 3 => 3 | 4 => 4 | 5 => 5 | 119 => 150 | 0 => 0 | 46 => 124 | 139 => 153 | 138 => 152 | n => n, fun | 3 => 3 | 4 => 4 | n => n⟩
theorem Tryd.lays260 : Go.Proofs.Lays.n260 Tryd.prog Tryd.lays260_ren := {
  mixed := by kernel_rfl
  f260 := Tryd.func115.trans (congrArg some (by kernel_rfl))
  t0 := Tryd.underlying0
  a0 := Tryd.isAgg0
  z0 := Tryd.sizeOf0
  v0 := Tryd.zeroValue0
  t3 := Tryd.underlying3
  a3 := Tryd.isAgg3
  z3 := Tryd.sizeOf3
  v3 := Tryd.zeroValue3
  t4 := Tryd.underlying4
  a4 := Tryd.isAgg4
  z4 := Tryd.sizeOf4
  v4 := Tryd.zeroValue4
  t5 := Tryd.underlying5
  a5 := Tryd.isAgg5
  z5 := Tryd.sizeOf5
  v5 := Tryd.zeroValue5
  t9 := Tryd.underlying9
  a9 := Tryd.isAgg9
  z9 := Tryd.sizeOf9
  v9 := Tryd.zeroValue9
  t21 := Tryd.underlying21
  a21 := Tryd.isAgg21
  z21 := Tryd.sizeOf21
  v21 := Tryd.zeroValue21
  t46 := Tryd.underlying124
  a46 := Tryd.isAgg124
  z46 := Tryd.sizeOf124
  v46 := Tryd.zeroValue124
  t119 := Tryd.underlying150
  a119 := Tryd.isAgg150
  z119 := Tryd.sizeOf150
  t138 := Tryd.underlying152
  a138 := Tryd.isAgg152
  z138 := Tryd.sizeOf152
  v138 := Tryd.zeroValue152
  t139 := Tryd.underlying153
  a139 := Tryd.isAgg153
  z139 := Tryd.sizeOf153
  v139 := Tryd.zeroValue153
  g3 := by kernel_rfl
  g4 := by kernel_rfl }
open Go.RowKit Go.Lib in
theorem Tryd.utf8_decodeRuneInStringSlow (s : ByteArray) (w : World) (hT : Lib.Utf8Tabs 3 4 w) :
    Calls Tryd.prog 115 #[.string s] w fun e w' => e = .returned (.tuple #[.int .i32 (Lib.decodeGo s).1, .int .i64 (Lib.decodeGo s).2]) ∧ Below w.heap.size w w' := Any.utf8_decodeRuneInStringSlow Tryd.lays260 s w hT
open Go.RowKit Go.Lib in
/-- **unicode/utf8.DecodeRuneInString AT EVERY STRING.** (LAID: no walk: one application.) -/
theorem Tryd.utf8_DecodeRuneInString (s : ByteArray) (w : World) (hT : Lib.Utf8Tabs 3 4 w) :
    Calls Tryd.prog 110 #[.string s] w fun e w' => e = .returned (.tuple #[.int .i32 (Lib.decodeGo s).1, .int .i64 (Lib.decodeGo s).2]) ∧ Below w.heap.size w w' := Any.utf8_DecodeRuneInString Tryd.lays197 s w hT
end Go.Proofs
