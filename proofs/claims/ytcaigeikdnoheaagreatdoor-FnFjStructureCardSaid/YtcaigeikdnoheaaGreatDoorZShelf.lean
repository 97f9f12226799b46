/-
  DERIVED: THE SHELF's CONTRACTS AT THIS DUMP, IN PLAIN WORDS (tools/lay-plain.mjs out of 'TryzShelf.lean', which tools/lay-shelf.mjs wrote): THE SAME DECLARATIONS UNDER THE SAME NAMES: 'import', 'namespace', 'open', 'def', 'theorem' AND NOTHING ELSE: no command of the shelf's: FOR A HAND-IN. Each laying: the table of numbers ('.._ren') and one theorem, a field a fact of the dump's own or the kernel's comparison; each contract: ONE APPLICATION.
-/
import Derived.Shelf.Small.Utf8
import Derived.Shelf.Small.Strs
import Derived.Shelf.Strconv.Atoi
import Derived.Shelf.Strconv.AtoiErrFast
import Derived.Shelf.Strconv.ParseIntEmpty
import Derived.Shelf.Strconv.AtoiFail
import Derived.Shelf.LaysM
import Derived.Shelf.Strconv.Clone
import Derived.Shelf.Strconv.SyntaxError
import Derived.Shelf.LaysC
import Derived.Shelf.Strconv.ToError
import Derived.Shelf.Strconv.Lower
import Derived.Shelf.Strconv.ParseUint10
import Derived.Shelf.Strconv.ParseUint10Empty
import Derived.Shelf.Strconv.ParseUint10Any
import Derived.Shelf.Strconv.ParseInt10
import Derived.Shelf.Strconv.AtoiLong
import Derived.Shelf.Strconv.AtoiInnerAll
import Derived.Shelf.Strconv.RangeError
import Derived.Shelf.Strconv.ToErrorRange
import Derived.Shelf.Strconv.AtoiAll
import Derived.Shelf.Strconv.ParseUintEmpty
import Derived.Shelf.Strconv.ParseUint10b64
import Derived.Shelf.Strconv.ParseUint10b32
import Derived.Shelf.Strconv.ParseUint10b16
import Derived.Shelf.Strconv.ParseUint10b8
import Derived.Shelf.Strconv.ParseUint10At
import Derived.Shelf.Strconv.ParseInt10At64
import Derived.Shelf.Strconv.ParseInt10At32
import Derived.Shelf.Strconv.ParseInt10At16
import Derived.Shelf.Strconv.ParseInt10At8
import Derived.Shelf.Strconv.ParseInt10All
import Derived.Shelf.Strings.Search1
import Derived.Shelf.Unicode.Decode
import Derived.Shelf.Unicode.DecodeSlow
import Derived.Shelf.Unicode.DecodeAny
import Derived.Test.YtcaigeikdnoheaaGreatDoorProg
namespace Go.Proofs
open Go.Shelf
def Tryz.lays137_ren : Go.Shelf.Ren := ⟨fun | 137 => 114 | 217 => 129 | 266 => 135 | n => n, fun | 9 => 9 | 5 => 5 | 3 => 3 | n => n, fun | n => n⟩
theorem Tryz.lays137 : Go.Proofs.Lays.n137 Tryz.prog Tryz.lays137_ren := {
  mixed := by kernel_rfl
  f137 := Tryz.func114.trans (congrArg some (by kernel_rfl))
  f217 := Tryz.func129.trans (congrArg some (by kernel_rfl))
  f266 := Tryz.func135.trans (congrArg some (by kernel_rfl))
  t3 := Tryz.underlying3
  a3 := Tryz.isAgg3
  z3 := Tryz.sizeOf3
  v3 := Tryz.zeroValue3
  t5 := Tryz.underlying5
  a5 := Tryz.isAgg5
  z5 := Tryz.sizeOf5
  v5 := Tryz.zeroValue5
  t9 := Tryz.underlying9
  a9 := Tryz.isAgg9
  z9 := Tryz.sizeOf9
  v9 := Tryz.zeroValue9 }
open Go.RowKit in
/-- strings.IndexByte: "IndexByte returns the index of the first instance of c in s, or -1 if c is not present in s.": IT RETURNS 'Lib.indexByte s c'; the world is as it was. (LAID: no walk: one application.) -/
theorem Tryz.strings_IndexByte (s : ByteArray) (c : Int) (w : World) :
    Calls Tryz.prog 114 #[.string s, .int .u8 c] w fun e w' => e = .returned (.int .i64 (Lib.indexByte s.data.toList c.toNat.toUInt8)) ∧ w' = w := Any.strings_IndexByte Tryz.lays137 s c w
def Tryz.laysC245_ren : Go.Shelf.Ren := ⟨fun | 245 => 113 | 279 => 125 | 280 => 126 | 281 => 127 | 282 => 128 | 316 => 133 | 171 => 134 | 205 => 54 | 243 => 143 | 246 => 147 | 283 => 148 | 284 => 149 | 285 => 150 | 286 => 151 | 129 => 153 | 317 => 152 | 318 => 154 | 319 => 155 | 320 => 156 | 337 => 157 | 338 => 158 | n => n, fun | 9 => 9 | 3 => 3 | 75 => 69 | 167 => 157 | 4 => 4 | 168 => 160 | 210 => 167 | 37 => 30 | 0 => 0 | 127 => 170 | 145 => 129 | 143 => 127 | 2 => 2 | 171 => 181 | 53 => 152 | 5 => 5 | 173 => 184 | 212 => 187 | 51 => 177 | 20 => 20 | 213 => 188 | 46 => 151 | 232 => 191 | 233 => 192 | 80 => 193 | n => n, fun | 15 => 0 | 16 => 1 | 17 => 10 | 18 => 11 | 19 => 12 | n => n⟩
theorem Tryz.laysC245 : Go.Proofs.LaysC.n245 Tryz.prog Tryz.laysC245_ren := {
  mixed := by kernel_rfl
  f129 := Tryz.func153.trans (congrArg some (by kernel_rfl))
  f171 := Tryz.func134.trans (congrArg some (by kernel_rfl))
  f205 := Tryz.func54.trans (congrArg some (by kernel_rfl))
  f243 := Tryz.func143.trans (congrArg some (by kernel_rfl))
  f245 := Tryz.func113.trans (congrArg some (by kernel_rfl))
  f246 := Tryz.func147.trans (congrArg some (by kernel_rfl))
  f279 := Tryz.func125.trans (congrArg some (by kernel_rfl))
  f280 := Tryz.func126.trans (congrArg some (by kernel_rfl))
  f281 := Tryz.func127.trans (congrArg some (by kernel_rfl))
  f282 := Tryz.func128.trans (congrArg some (by kernel_rfl))
  f283 := Tryz.func148.trans (congrArg some (by kernel_rfl))
  f284 := Tryz.func149.trans (congrArg some (by kernel_rfl))
  f285 := Tryz.func150.trans (congrArg some (by kernel_rfl))
  f286 := Tryz.func151.trans (congrArg some (by kernel_rfl))
  f316 := Tryz.func133.trans (congrArg some (by kernel_rfl))
  f317 := Tryz.func152.trans (congrArg some (by kernel_rfl))
  f318 := Tryz.func154.trans (congrArg some (by kernel_rfl))
  f319 := Tryz.func155.trans (congrArg some (by kernel_rfl))
  f320 := Tryz.func156.trans (congrArg some (by kernel_rfl))
  f337 := Tryz.func157.trans (congrArg some (by kernel_rfl))
  f338 := Tryz.func158.trans (congrArg some (by kernel_rfl))
  t0 := Tryz.underlying0
  a0 := Tryz.isAgg0
  z0 := Tryz.sizeOf0
  v0 := Tryz.zeroValue0
  t2 := Tryz.underlying2
  a2 := Tryz.isAgg2
  z2 := Tryz.sizeOf2
  v2 := Tryz.zeroValue2
  t3 := Tryz.underlying3
  a3 := Tryz.isAgg3
  z3 := Tryz.sizeOf3
  v3 := Tryz.zeroValue3
  t4 := Tryz.underlying4
  a4 := Tryz.isAgg4
  z4 := Tryz.sizeOf4
  v4 := Tryz.zeroValue4
  t5 := Tryz.underlying5
  a5 := Tryz.isAgg5
  z5 := Tryz.sizeOf5
  v5 := Tryz.zeroValue5
  t9 := Tryz.underlying9
  a9 := Tryz.isAgg9
  z9 := Tryz.sizeOf9
  v9 := Tryz.zeroValue9
  t20 := Tryz.underlying20
  a20 := Tryz.isAgg20
  z20 := Tryz.sizeOf20
  v20 := Tryz.zeroValue20
  t37 := Tryz.underlying30
  a37 := Tryz.isAgg30
  z37 := Tryz.sizeOf30
  v37 := Tryz.zeroValue30
  t46 := Tryz.underlying151
  a46 := Tryz.isAgg151
  z46 := Tryz.sizeOf151
  v46 := Tryz.zeroValue151
  t51 := Tryz.underlying177
  a51 := Tryz.isAgg177
  z51 := Tryz.sizeOf177
  v51 := Tryz.zeroValue177
  t53 := Tryz.underlying152
  a53 := Tryz.isAgg152
  z53 := Tryz.sizeOf152
  v53 := Tryz.zeroValue152
  t75 := Tryz.underlying69
  a75 := Tryz.isAgg69
  z75 := Tryz.sizeOf69
  v75 := Tryz.zeroValue69
  t127 := Tryz.underlying170
  a127 := Tryz.isAgg170
  z127 := Tryz.sizeOf170
  v127 := Tryz.zeroValue170
  t143 := Tryz.underlying127
  a143 := Tryz.isAgg127
  z143 := Tryz.sizeOf127
  v143 := Tryz.zeroValue127
  t145 := Tryz.underlying129
  a145 := Tryz.isAgg129
  z145 := Tryz.sizeOf129
  v145 := Tryz.zeroValue129
  t167 := Tryz.underlying157
  a167 := Tryz.isAgg157
  z167 := Tryz.sizeOf157
  v167 := Tryz.zeroValue157
  t168 := Tryz.underlying160
  a168 := Tryz.isAgg160
  z168 := Tryz.sizeOf160
  v168 := Tryz.zeroValue160
  t171 := Tryz.underlying181
  a171 := Tryz.isAgg181
  z171 := Tryz.sizeOf181
  v171 := Tryz.zeroValue181
  t173 := Tryz.underlying184
  a173 := Tryz.isAgg184
  z173 := Tryz.sizeOf184
  v173 := Tryz.zeroValue184
  t210 := Tryz.underlying167
  a210 := Tryz.isAgg167
  z210 := Tryz.sizeOf167
  v210 := Tryz.zeroValue167
  t212 := Tryz.underlying187
  a212 := Tryz.isAgg187
  z212 := Tryz.sizeOf187
  v212 := Tryz.zeroValue187
  t213 := Tryz.underlying188
  a213 := Tryz.isAgg188
  z213 := Tryz.sizeOf188
  t232 := Tryz.underlying191
  a232 := Tryz.isAgg191
  z232 := Tryz.sizeOf191
  v232 := Tryz.zeroValue191
  t233 := Tryz.underlying192
  a233 := Tryz.isAgg192
  z233 := Tryz.sizeOf192
  v233 := Tryz.zeroValue192
  g15 := by kernel_rfl
  g16 := by kernel_rfl
  g17 := by kernel_rfl
  g18 := by kernel_rfl
  g19 := by kernel_rfl
  t80 := Tryz.underlying193
  a80 := Tryz.isAgg193
  z80 := Tryz.sizeOf193
  v80 := Tryz.zeroValue193
  i0 := by kernel_rfl
  i2 := by kernel_rfl
  i3 := by kernel_rfl
  i4 := by kernel_rfl
  i5 := by kernel_rfl
  i9 := by kernel_rfl
  i20 := by kernel_rfl
  i37 := by kernel_rfl
  i46 := by kernel_rfl
  i51 := by kernel_rfl
  i53 := by kernel_rfl
  i75 := by kernel_rfl
  i80 := by kernel_rfl
  i127 := by kernel_rfl
  i143 := by kernel_rfl
  i145 := by kernel_rfl
  i167 := by kernel_rfl
  i168 := by kernel_rfl
  i171 := by kernel_rfl
  i173 := by kernel_rfl
  i210 := by kernel_rfl
  i212 := by kernel_rfl
  i232 := by kernel_rfl
  i233 := by kernel_rfl
  m15 := by kernel_rfl
  m16 := by kernel_rfl
  m17 := by kernel_rfl
  m18 := by kernel_rfl
  m19 := by kernel_rfl
  c0 := by kernel_rfl
  c2 := by kernel_rfl
  c3 := by kernel_rfl
  c4 := by kernel_rfl
  c5 := by kernel_rfl
  c9 := by kernel_rfl
  c20 := by kernel_rfl
  c37 := by kernel_rfl
  c46 := by kernel_rfl
  c51 := by kernel_rfl
  c53 := by kernel_rfl
  c75 := by kernel_rfl
  c80 := by kernel_rfl
  c127 := by kernel_rfl
  c143 := by kernel_rfl
  c145 := by kernel_rfl
  c167 := by kernel_rfl
  c168 := by kernel_rfl
  c171 := by kernel_rfl
  c173 := by kernel_rfl
  c210 := by kernel_rfl
  c212 := by kernel_rfl
  c213 := by kernel_rfl
  c232 := by kernel_rfl
  c233 := by kernel_rfl }
open Go.RowKit in
/-- strconv.toError, at the inner package's ErrSyntax: 'syntaxError(fn, s)' as an error: A *NumError IN A NEW BLOCK. (LAID: no walk: one application.) -/
theorem Tryz.strconv_toError_syntax (fn s : ByteArray) (base bits : Int) (ev : Value) (w : World) (hlim : s.size ≤ 281474976710656) (hv : w.cell? ⟨0, 0, none⟩ = some ev) (hev : ev = .nilIface ∨ ∃ te pe, ev = .iface te pe) :
    Calls Tryz.prog 113 #[.string fn, .string s, .int .i64 base, .int .i64 bits, .iface 157 (.int .i64 2)] w fun e w' => ∃ N, e = .returned (.iface 160 (.pointer (some ⟨N, 0, none⟩))) ∧ w.heap.size ≤ N ∧ w'.heap[N]? = some (.cells #[.string fn, .string s, ev] 167 (0, 0)) ∧ Below w.heap.size w w' := Any.strconv_toError_syntax Tryz.laysC245 fn s base bits ev w hlim hv hev
def Tryz.lays321_ren : Go.Shelf.Ren := ⟨fun | 321 => 141 | n => n, fun | 5 => 5 | n => n, fun | n => n⟩
theorem Tryz.lays321 : Go.Proofs.Lays.n321 Tryz.prog Tryz.lays321_ren := {
  mixed := by kernel_rfl
  f321 := Tryz.func141.trans (congrArg some (by kernel_rfl))
  t5 := Tryz.underlying5
  a5 := Tryz.isAgg5
  z5 := Tryz.sizeOf5
  v5 := Tryz.zeroValue5 }
open Go.RowKit in
/-- internal/strconv.lower: 'c | ('x' - 'X')': the bit 32 set. The world is as it was. (LAID: no walk: one application.) -/
theorem Tryz.internal_strconv_lower (c : Int) (w : World) :
    Calls Tryz.prog 141 #[.int .u8 c] w fun e w' => e = .returned (.int .u8 (bits .or .u8 c 32)) ∧ w' = w := Any.internal_strconv_lower Tryz.lays321 c w
end Go.Proofs
