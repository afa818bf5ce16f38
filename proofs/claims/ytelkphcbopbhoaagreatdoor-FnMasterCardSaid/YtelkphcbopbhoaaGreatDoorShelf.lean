/-
  DERIVED: THE SHELF's CONTRACTS AT THIS DUMP, IN PLAIN WORDS (tools/lay-plain.mjs out of 'TryzShelf.lean', which tools/lay-shelf.mjs wrote): THE SAME DECLARATIONS UNDER THE SAME NAMES: 'import', 'namespace', 'open', 'def', 'theorem' AND NOTHING ELSE: no command of the shelf's: FOR A HAND-IN. Each laying: the table of numbers ('.._ren') and one theorem, a field a fact of the dump's own or the kernel's comparison; each contract: ONE APPLICATION.
-/
import Derived.Shelf.Strings.TrimSpace
import Derived.Shelf.Small.Utf8
import Derived.Shelf.Strconv.Atoi
import Derived.Shelf.LaysM
import Derived.Shelf.Bytes.Len
import Derived.Shelf.Bytes.TryGrow
import Derived.Shelf.Bytes.GrowSliceCatch
import Derived.Shelf.Bytes.GrowSlice
import Derived.Shelf.Bytes.Reset
import Derived.Shelf.Strconv.AtoiErrFast
import Derived.Shelf.Strconv.ParseIntEmpty
import Derived.Shelf.Strconv.AtoiFail
import Derived.Shelf.Strconv.Clone
import Derived.Shelf.Strconv.SyntaxError
import Derived.Shelf.LaysC
import Derived.Shelf.Strconv.ToError
import Derived.Shelf.Strconv.Lower
import Derived.Shelf.Strconv.ParseUint10
import Derived.Shelf.Strconv.ParseUint10Empty
import Derived.Shelf.Strconv.ParseUint10Any
import Derived.Shelf.Strconv.ParseInt10
import Derived.Shelf.Strconv.AtoiLong
import Derived.Shelf.Strconv.AtoiInnerAll
import Derived.Shelf.Strconv.RangeError
import Derived.Shelf.Strconv.ToErrorRange
import Derived.Shelf.Strconv.AtoiAll
import Derived.Ground.MpProg
import Derived.Shelf.Pu.ParseUintPublic10
import Derived.Shelf.Bytes.GrowRow0Own
import Derived.Shelf.Bytes.GrowRowOwn
import Derived.Shelf.Bytes.GrowNilOwn
import Derived.Shelf.Bytes.GrowOwn
import Derived.Shelf.Strings.Prefix
import Derived.Shelf.Unicode.Latin
import Derived.Shelf.Bits.Mul64
import Derived.Shelf.Unicode.DecodeSlow
import Derived.Shelf.Unicode.Is16White
import Derived.Shelf.Unicode.IsSpaceAny
import Derived.Shelf.Unicode.CaseLookup
import Derived.Shelf.Unicode.CaseConvert
import Derived.Shelf.Unicode.CaseTo
import Derived.Shelf.Unicode.CaseLaid
import Derived.Shelf.Unicode.Is16Any
import Derived.Shelf.Unicode.Is32Any
import Derived.Shelf.Unicode.ExclAny
import Derived.Shelf.Bytes.IndexByte
import Derived.Shelf.Bytes.TrimSpace
import Derived.Test.YtelkphcbopbhoaaGreatDoorProg
namespace Go.Proofs
open Go.Shelf
def Tryz.lays163_ren : Go.Shelf.Ren := ⟨fun | 163 => 45 | 237 => 58 | 199 => 39 | 238 => 59 | 272 => 79 | 261 => 55 | 273 => 80 | 197 => 81 | 315 => 100 | 311 => 76 | 312 => 77 | 271 => 101 | 260 => 102 | 120 => 113 | n => n, fun | 9 => 9 | 37 => 55 | 3 => 3 | 0 => 0 | 5 => 5 | 4 => 4 | 40 => 117 | 119 => 118 | 21 => 21 | 51 => 23 | 141 => 138 | 105 => 155 | 196 => 160 | 193 => 157 | 198 => 163 | 49 => 161 | 194 => 158 | 201 => 166 | 226 => 186 | 46 => 37 | 227 => 187 | 139 => 204 | 138 => 203 | n => n, fun | 0 => 5 | 6 => 4 | 3 => 10 | 4 => 11 | n => n⟩
theorem Tryz.lays163 : Go.Proofs.Lays.n163 Tryz.prog Tryz.lays163_ren := {
  mixed := by kernel_rfl
  f120 := Tryz.func113.trans (congrArg some (by kernel_rfl))
  f163 := Tryz.func45.trans (congrArg some (by kernel_rfl))
  f197 := Tryz.func81.trans (congrArg some (by kernel_rfl))
  f199 := Tryz.func39.trans (congrArg some (by kernel_rfl))
  f237 := Tryz.func58.trans (congrArg some (by kernel_rfl))
  f238 := Tryz.func59.trans (congrArg some (by kernel_rfl))
  f260 := Tryz.func102.trans (congrArg some (by kernel_rfl))
  f261 := Tryz.func55.trans (congrArg some (by kernel_rfl))
  f271 := Tryz.func101.trans (congrArg some (by kernel_rfl))
  f272 := Tryz.func79.trans (congrArg some (by kernel_rfl))
  f273 := Tryz.func80.trans (congrArg some (by kernel_rfl))
  f311 := Tryz.func76.trans (congrArg some (by kernel_rfl))
  f312 := Tryz.func77.trans (congrArg some (by kernel_rfl))
  f315 := Tryz.func100.trans (congrArg some (by kernel_rfl))
  t0 := Tryz.underlying0
  a0 := Tryz.isAgg0
  z0 := Tryz.sizeOf0
  v0 := Tryz.zeroValue0
  t3 := Tryz.underlying3
  a3 := Tryz.isAgg3
  z3 := Tryz.sizeOf3
  v3 := Tryz.zeroValue3
  t4 := Tryz.underlying4
  a4 := Tryz.isAgg4
  z4 := Tryz.sizeOf4
  v4 := Tryz.zeroValue4
  t5 := Tryz.underlying5
  a5 := Tryz.isAgg5
  z5 := Tryz.sizeOf5
  v5 := Tryz.zeroValue5
  t9 := Tryz.underlying9
  a9 := Tryz.isAgg9
  z9 := Tryz.sizeOf9
  v9 := Tryz.zeroValue9
  t21 := Tryz.underlying21
  a21 := Tryz.isAgg21
  z21 := Tryz.sizeOf21
  v21 := Tryz.zeroValue21
  t37 := Tryz.underlying55
  a37 := Tryz.isAgg55
  z37 := Tryz.sizeOf55
  v37 := Tryz.zeroValue55
  t40 := Tryz.underlying117
  a40 := Tryz.isAgg117
  z40 := Tryz.sizeOf117
  v40 := Tryz.zeroValue117
  t46 := Tryz.underlying37
  a46 := Tryz.isAgg37
  z46 := Tryz.sizeOf37
  v46 := Tryz.zeroValue37
  t49 := Tryz.underlying161
  a49 := Tryz.isAgg161
  z49 := Tryz.sizeOf161
  v49 := Tryz.zeroValue161
  t51 := Tryz.underlying23
  a51 := Tryz.isAgg23
  z51 := Tryz.sizeOf23
  v51 := Tryz.zeroValue23
  t105 := Tryz.underlying155
  a105 := Tryz.isAgg155
  z105 := Tryz.sizeOf155
  v105 := Tryz.zeroValue155
  t119 := Tryz.underlying118
  a119 := Tryz.isAgg118
  z119 := Tryz.sizeOf118
  t138 := Tryz.underlying203
  a138 := Tryz.isAgg203
  z138 := Tryz.sizeOf203
  v138 := Tryz.zeroValue203
  t139 := Tryz.underlying204
  a139 := Tryz.isAgg204
  z139 := Tryz.sizeOf204
  v139 := Tryz.zeroValue204
  t141 := Tryz.underlying138
  a141 := Tryz.isAgg138
  z141 := Tryz.sizeOf138
  v141 := Tryz.zeroValue138
  t193 := Tryz.underlying157
  a193 := Tryz.isAgg157
  z193 := Tryz.sizeOf157
  v193 := Tryz.zeroValue157
  t194 := Tryz.underlying158
  a194 := Tryz.isAgg158
  z194 := Tryz.sizeOf158
  v194 := Tryz.zeroValue158
  t196 := Tryz.underlying160
  a196 := Tryz.isAgg160
  z196 := Tryz.sizeOf160
  v196 := Tryz.zeroValue160
  t198 := Tryz.underlying163
  a198 := Tryz.isAgg163
  z198 := Tryz.sizeOf163
  v198 := Tryz.zeroValue163
  t201 := Tryz.underlying166
  a201 := Tryz.isAgg166
  z201 := Tryz.sizeOf166
  v201 := Tryz.zeroValue166
  t226 := Tryz.underlying186
  a226 := Tryz.isAgg186
  z226 := Tryz.sizeOf186
  v226 := Tryz.zeroValue186
  t227 := Tryz.underlying187
  a227 := Tryz.isAgg187
  z227 := Tryz.sizeOf187
  v227 := Tryz.zeroValue187
  g0 := by kernel_rfl
  g3 := by kernel_rfl
  g4 := by kernel_rfl
  g6 := by kernel_rfl }
theorem Tryz.Space_Extra_163 : Space.Extra Tryz.prog Tryz.lays163_ren := {
  gNamed := by kernel_rfl }
open Go.RowKit in
theorem Tryz.strings_TrimSpace (s : ByteArray) (w : World) (hs : s.size ≤ 9223372036854775807) (hascii : ∀ (j : Nat) b, s.data.toList[j]? = some b → b.toNat < 128) (htab : Lib.TabIs Tryz.prog w "strings.asciiSpace" .u8 Lib.asciiSpaceTab) :
    Calls Tryz.prog 45 #[.string s] w fun e w' => e = .returned (.string ⟨(Lib.trimSpace s.data.toList).toArray⟩) ∧ w' = Lib.bytesWorld w 5 s := Any.strings_TrimSpace Tryz.lays163 Tryz.Space_Extra_163 s w hs hascii htab
def Tryz.lays118_ren : Go.Shelf.Ren := ⟨fun | 118 => 88 | n => n, fun | 21 => 21 | 3 => 3 | 4 => 4 | n => n, fun | n => n⟩
theorem Tryz.lays118 : Go.Proofs.Lays.n118 Tryz.prog Tryz.lays118_ren := {
  mixed := by kernel_rfl
  f118 := Tryz.func88.trans (congrArg some (by kernel_rfl))
  t3 := Tryz.underlying3
  a3 := Tryz.isAgg3
  z3 := Tryz.sizeOf3
  v3 := Tryz.zeroValue3
  t4 := Tryz.underlying4
  a4 := Tryz.isAgg4
  z4 := Tryz.sizeOf4
  v4 := Tryz.zeroValue4
  t21 := Tryz.underlying21
  a21 := Tryz.isAgg21
  z21 := Tryz.sizeOf21
  v21 := Tryz.zeroValue21 }
/-- utf8.RuneLen: "RuneLen returns the number of bytes in the UTF-8 encoding of the rune. It returns -1 if the rune is not a valid value to encode in UTF-8.": IT RETURNS 'Lib.runeLen r'; the world is as it was. (LAID: no walk: one application.) -/
theorem Tryz.utf8_RuneLen (r : Int) (w : World) :
    Calls Tryz.prog 88 #[.int .i32 r] w fun e w' => e = .returned (.int .i64 (Lib.runeLen r)) ∧ w' = w := Any.utf8_RuneLen Tryz.lays118 r w
def Tryz.lays120_ren : Go.Shelf.Ren := ⟨fun | 120 => 113 | n => n, fun | 5 => 5 | 4 => 4 | n => n, fun | n => n⟩
theorem Tryz.lays120 : Go.Proofs.Lays.n120 Tryz.prog Tryz.lays120_ren := {
  mixed := by kernel_rfl
  f120 := Tryz.func113.trans (congrArg some (by kernel_rfl))
  t4 := Tryz.underlying4
  a4 := Tryz.isAgg4
  z4 := Tryz.sizeOf4
  v4 := Tryz.zeroValue4
  t5 := Tryz.underlying5
  a5 := Tryz.isAgg5
  z5 := Tryz.sizeOf5
  v5 := Tryz.zeroValue5 }
/-- utf8.RuneStart: "RuneStart reports whether the byte could be the first byte of an encoded, possibly invalid rune. Second and subsequent bytes always have the top two bits set to 10.": IT RETURNS 'Lib.runeStart b'; the world is as it was. ('h0', 'h1': b is a byte: a caller has it of every byte that it was handed.) (LAID: no walk: one application.) -/
theorem Tryz.utf8_RuneStart (b : Int) (w : World) (h0 : 0 ≤ b) (h1 : b < 256) :
    Calls Tryz.prog 113 #[.int .u8 b] w fun e w' => e = .returned (.bool (Lib.runeStart b)) ∧ w' = w := Any.utf8_RuneStart Tryz.lays120 b w h0 h1
def Tryz.lays244_ren : Go.Shelf.Ren := ⟨fun | 244 => 70 | 247 => 92 | 287 => 104 | 321 => 114 | 322 => 115 | n => n, fun | 9 => 9 | 3 => 3 | 75 => 51 | 4 => 4 | 5 => 5 | 167 => 179 | 37 => 55 | 0 => 0 | 85 => 81 | 2 => 2 | 53 => 42 | 175 => 141 | 46 => 37 | 21 => 21 | 80 => 64 | n => n, fun | n => n⟩
theorem Tryz.lays244 : Go.Proofs.Lays.n244 Tryz.prog Tryz.lays244_ren := {
  mixed := by kernel_rfl
  f244 := Tryz.func70.trans (congrArg some (by kernel_rfl))
  f247 := Tryz.func92.trans (congrArg some (by kernel_rfl))
  f287 := Tryz.func104.trans (congrArg some (by kernel_rfl))
  f321 := Tryz.func114.trans (congrArg some (by kernel_rfl))
  f322 := Tryz.func115.trans (congrArg some (by kernel_rfl))
  t0 := Tryz.underlying0
  a0 := Tryz.isAgg0
  z0 := Tryz.sizeOf0
  v0 := Tryz.zeroValue0
  t2 := Tryz.underlying2
  a2 := Tryz.isAgg2
  z2 := Tryz.sizeOf2
  v2 := Tryz.zeroValue2
  t3 := Tryz.underlying3
  a3 := Tryz.isAgg3
  z3 := Tryz.sizeOf3
  v3 := Tryz.zeroValue3
  t4 := Tryz.underlying4
  a4 := Tryz.isAgg4
  z4 := Tryz.sizeOf4
  v4 := Tryz.zeroValue4
  t5 := Tryz.underlying5
  a5 := Tryz.isAgg5
  z5 := Tryz.sizeOf5
  v5 := Tryz.zeroValue5
  t9 := Tryz.underlying9
  a9 := Tryz.isAgg9
  z9 := Tryz.sizeOf9
  v9 := Tryz.zeroValue9
  t21 := Tryz.underlying21
  a21 := Tryz.isAgg21
  z21 := Tryz.sizeOf21
  v21 := Tryz.zeroValue21
  t37 := Tryz.underlying55
  a37 := Tryz.isAgg55
  z37 := Tryz.sizeOf55
  v37 := Tryz.zeroValue55
  t46 := Tryz.underlying37
  a46 := Tryz.isAgg37
  z46 := Tryz.sizeOf37
  v46 := Tryz.zeroValue37
  t53 := Tryz.underlying42
  a53 := Tryz.isAgg42
  z53 := Tryz.sizeOf42
  v53 := Tryz.zeroValue42
  t75 := Tryz.underlying51
  a75 := Tryz.isAgg51
  z75 := Tryz.sizeOf51
  v75 := Tryz.zeroValue51
  t85 := Tryz.underlying81
  a85 := Tryz.isAgg81
  z85 := Tryz.sizeOf81
  v85 := Tryz.zeroValue81
  t167 := Tryz.underlying179
  a167 := Tryz.isAgg179
  z167 := Tryz.sizeOf179
  v167 := Tryz.zeroValue179
  t175 := Tryz.underlying141
  a175 := Tryz.isAgg141
  z175 := Tryz.sizeOf141
  v175 := Tryz.zeroValue141 }
open Go.RowKit in
/-- internal/strconv.Atoi, at a decimal numeral of at most 18 bytes: ITS VALUE, AND NO ERROR. The world behind the call: the one new row that '[]byte(s)' lays. (LAID: no walk: one application.) -/
theorem Tryz.internal_strconv_Atoi (s : ByteArray) (n : Int) (hl : s.size ≤ 18) (h : Lib.atoi s.data.toList = some n) (w : World) :
    Calls Tryz.prog 70 #[.string s] w fun e w' => e = .returned (.tuple #[.int .i64 n, .nilIface]) ∧ ∃ t, w' = Lib.bytesWorld w 5 t := Any.internal_strconv_Atoi Tryz.lays244 s n hl h w
def Tryz.lays172_ren : Go.Shelf.Ren := ⟨fun | 172 => 51 | 244 => 70 | 245 => 71 | 247 => 92 | 279 => 93 | 280 => 94 | 281 => 95 | 282 => 96 | 287 => 104 | 316 => 109 | 171 => 110 | 205 => 37 | 321 => 114 | 322 => 115 | 243 => 119 | 246 => 133 | 283 => 148 | 284 => 149 | 285 => 150 | 286 => 151 | 129 => 137 | 317 => 156 | 318 => 141 | 319 => 157 | 320 => 158 | 337 => 161 | 338 => 162 | n => n, fun | 9 => 9 | 3 => 3 | 75 => 51 | 76 => 102 | 4 => 4 | 5 => 5 | 167 => 179 | 37 => 55 | 0 => 0 | 85 => 81 | 2 => 2 | 168 => 181 | 53 => 42 | 175 => 141 | 46 => 37 | 210 => 197 | 127 => 175 | 145 => 136 | 143 => 134 | 21 => 21 | 171 => 256 | 173 => 258 | 212 => 267 | 51 => 23 | 20 => 20 | 213 => 268 | 232 => 277 | 233 => 278 | 80 => 64 | n => n, fun | 15 => 8 | 16 => 9 | 17 => 19 | 18 => 21 | 19 => 22 | n => n⟩
theorem Tryz.lays172 : Go.Proofs.Lays.n172 Tryz.prog Tryz.lays172_ren := {
  mixed := by kernel_rfl
  f129 := Tryz.func137.trans (congrArg some (by kernel_rfl))
  f171 := Tryz.func110.trans (congrArg some (by kernel_rfl))
  f172 := Tryz.func51.trans (congrArg some (by kernel_rfl))
  f205 := Tryz.func37.trans (congrArg some (by kernel_rfl))
  f243 := Tryz.func119.trans (congrArg some (by kernel_rfl))
  f244 := Tryz.func70.trans (congrArg some (by kernel_rfl))
  f245 := Tryz.func71.trans (congrArg some (by kernel_rfl))
  f246 := Tryz.func133.trans (congrArg some (by kernel_rfl))
  f247 := Tryz.func92.trans (congrArg some (by kernel_rfl))
  f279 := Tryz.func93.trans (congrArg some (by kernel_rfl))
  f280 := Tryz.func94.trans (congrArg some (by kernel_rfl))
  f281 := Tryz.func95.trans (congrArg some (by kernel_rfl))
  f282 := Tryz.func96.trans (congrArg some (by kernel_rfl))
  f283 := Tryz.func148.trans (congrArg some (by kernel_rfl))
  f284 := Tryz.func149.trans (congrArg some (by kernel_rfl))
  f285 := Tryz.func150.trans (congrArg some (by kernel_rfl))
  f286 := Tryz.func151.trans (congrArg some (by kernel_rfl))
  f287 := Tryz.func104.trans (congrArg some (by kernel_rfl))
  f316 := Tryz.func109.trans (congrArg some (by kernel_rfl))
  f317 := Tryz.func156.trans (congrArg some (by kernel_rfl))
  f318 := Tryz.func141.trans (congrArg some (by kernel_rfl))
  f319 := Tryz.func157.trans (congrArg some (by kernel_rfl))
  f320 := Tryz.func158.trans (congrArg some (by kernel_rfl))
  f321 := Tryz.func114.trans (congrArg some (by kernel_rfl))
  f322 := Tryz.func115.trans (congrArg some (by kernel_rfl))
  f337 := Tryz.func161.trans (congrArg some (by kernel_rfl))
  f338 := Tryz.func162.trans (congrArg some (by kernel_rfl))
  t0 := Tryz.underlying0
  a0 := Tryz.isAgg0
  z0 := Tryz.sizeOf0
  v0 := Tryz.zeroValue0
  t2 := Tryz.underlying2
  a2 := Tryz.isAgg2
  z2 := Tryz.sizeOf2
  v2 := Tryz.zeroValue2
  t3 := Tryz.underlying3
  a3 := Tryz.isAgg3
  z3 := Tryz.sizeOf3
  v3 := Tryz.zeroValue3
  t4 := Tryz.underlying4
  a4 := Tryz.isAgg4
  z4 := Tryz.sizeOf4
  v4 := Tryz.zeroValue4
  t5 := Tryz.underlying5
  a5 := Tryz.isAgg5
  z5 := Tryz.sizeOf5
  v5 := Tryz.zeroValue5
  t9 := Tryz.underlying9
  a9 := Tryz.isAgg9
  z9 := Tryz.sizeOf9
  v9 := Tryz.zeroValue9
  t20 := Tryz.underlying20
  a20 := Tryz.isAgg20
  z20 := Tryz.sizeOf20
  v20 := Tryz.zeroValue20
  t21 := Tryz.underlying21
  a21 := Tryz.isAgg21
  z21 := Tryz.sizeOf21
  v21 := Tryz.zeroValue21
  t37 := Tryz.underlying55
  a37 := Tryz.isAgg55
  z37 := Tryz.sizeOf55
  v37 := Tryz.zeroValue55
  t46 := Tryz.underlying37
  a46 := Tryz.isAgg37
  z46 := Tryz.sizeOf37
  v46 := Tryz.zeroValue37
  t51 := Tryz.underlying23
  a51 := Tryz.isAgg23
  z51 := Tryz.sizeOf23
  v51 := Tryz.zeroValue23
  t53 := Tryz.underlying42
  a53 := Tryz.isAgg42
  z53 := Tryz.sizeOf42
  v53 := Tryz.zeroValue42
  t75 := Tryz.underlying51
  a75 := Tryz.isAgg51
  z75 := Tryz.sizeOf51
  v75 := Tryz.zeroValue51
  t76 := Tryz.underlying102
  a76 := Tryz.isAgg102
  z76 := Tryz.sizeOf102
  v76 := Tryz.zeroValue102
  t85 := Tryz.underlying81
  a85 := Tryz.isAgg81
  z85 := Tryz.sizeOf81
  v85 := Tryz.zeroValue81
  t127 := Tryz.underlying175
  a127 := Tryz.isAgg175
  z127 := Tryz.sizeOf175
  v127 := Tryz.zeroValue175
  t143 := Tryz.underlying134
  a143 := Tryz.isAgg134
  z143 := Tryz.sizeOf134
  v143 := Tryz.zeroValue134
  t145 := Tryz.underlying136
  a145 := Tryz.isAgg136
  z145 := Tryz.sizeOf136
  v145 := Tryz.zeroValue136
  t167 := Tryz.underlying179
  a167 := Tryz.isAgg179
  z167 := Tryz.sizeOf179
  v167 := Tryz.zeroValue179
  t168 := Tryz.underlying181
  a168 := Tryz.isAgg181
  z168 := Tryz.sizeOf181
  v168 := Tryz.zeroValue181
  t171 := Tryz.underlying256
  a171 := Tryz.isAgg256
  z171 := Tryz.sizeOf256
  v171 := Tryz.zeroValue256
  t173 := Tryz.underlying258
  a173 := Tryz.isAgg258
  z173 := Tryz.sizeOf258
  v173 := Tryz.zeroValue258
  t175 := Tryz.underlying141
  a175 := Tryz.isAgg141
  z175 := Tryz.sizeOf141
  v175 := Tryz.zeroValue141
  t210 := Tryz.underlying197
  a210 := Tryz.isAgg197
  z210 := Tryz.sizeOf197
  v210 := Tryz.zeroValue197
  t212 := Tryz.underlying267
  a212 := Tryz.isAgg267
  z212 := Tryz.sizeOf267
  v212 := Tryz.zeroValue267
  t213 := Tryz.underlying268
  a213 := Tryz.isAgg268
  z213 := Tryz.sizeOf268
  t232 := Tryz.underlying277
  a232 := Tryz.isAgg277
  z232 := Tryz.sizeOf277
  v232 := Tryz.zeroValue277
  t233 := Tryz.underlying278
  a233 := Tryz.isAgg278
  z233 := Tryz.sizeOf278
  v233 := Tryz.zeroValue278
  g15 := by kernel_rfl
  g16 := by kernel_rfl
  g17 := by kernel_rfl
  g18 := by kernel_rfl
  g19 := by kernel_rfl }
open Go.RowKit in
/-- strconv.Atoi: "Atoi is equivalent to ParseInt(s, 10, 0), converted to type int.": AT A DECIMAL NUMERAL OF AT MOST 18 BYTES: its value, and a nil error. The world behind the call: the one new row that the library's '[]byte(s)' lays. (LAID: no walk: one application.) -/
theorem Tryz.strconv_Atoi (s : ByteArray) (n : Int) (hl : s.size ≤ 18) (h : Lib.atoi s.data.toList = some n) (w : World) :
    Calls Tryz.prog 51 #[.string s] w fun e w' => e = .returned (.tuple #[.int .i64 n, .nilIface]) ∧ ∃ t, w' = Lib.bytesWorld w 5 t := Any.strconv_Atoi Tryz.lays172 s n hl h w
def Tryz.laysM181_ren : Go.Shelf.Ren := ⟨fun | 181 => 40 | n => n, fun | 130 => 80 | 3 => 3 | 0 => 0 | 93 => 75 | 37 => 55 | 91 => 73 | 5 => 5 | n => n, fun | n => n⟩
theorem Tryz.laysM181 : Go.Proofs.LaysM.n181 Tryz.prog Tryz.laysM181_ren := {
  mixed := by kernel_rfl
  f181 := Tryz.func40.trans (congrArg some (by kernel_rfl))
  t0 := Tryz.underlying0
  a0 := Tryz.isAgg0
  z0 := Tryz.sizeOf0
  v0 := Tryz.zeroValue0
  t3 := Tryz.underlying3
  a3 := Tryz.isAgg3
  z3 := Tryz.sizeOf3
  v3 := Tryz.zeroValue3
  t37 := Tryz.underlying55
  a37 := Tryz.isAgg55
  z37 := Tryz.sizeOf55
  v37 := Tryz.zeroValue55
  t93 := Tryz.underlying75
  a93 := Tryz.isAgg75
  z93 := Tryz.sizeOf75
  v93 := Tryz.zeroValue75
  t130 := Tryz.underlying80
  a130 := Tryz.isAgg80
  z130 := Tryz.sizeOf80
  v130 := Tryz.zeroValue80
  t5 := Tryz.underlying5
  a5 := Tryz.isAgg5
  z5 := Tryz.sizeOf5
  v5 := Tryz.zeroValue5
  t91 := Tryz.underlying73
  a91 := Tryz.isAgg73
  z91 := Tryz.sizeOf73
  v91 := Tryz.zeroValue73
  i0 := by kernel_rfl
  i3 := by kernel_rfl
  i5 := by kernel_rfl
  i37 := by kernel_rfl
  i91 := by kernel_rfl
  i93 := by kernel_rfl
  i130 := by kernel_rfl }
open Go.RowKit in
/-- (*bytes.Buffer).Len: "Len returns the number of bytes of the unread portion of the buffer; b.Len() == len(b.Bytes()).": the world is as it was but for the count of draws (the statement has two reads: its order is drawn). (LAID: no walk: one application.) -/
theorem Tryz.Buffer_Len (B b : Nat) (bs : List Value) (w : World) (h : Lib.IsBuffer 75 5 B b bs w) :
    Calls Tryz.prog 40 #[.pointer (some ⟨b, 0, none⟩)] w fun e w' => e = .returned (.int .i64 bs.length) ∧ ∃ n, w' = w.drewN n := Any.Buffer_Len Tryz.laysM181 B b bs w h
def Tryz.laysM251_ren : Go.Shelf.Ren := ⟨fun | 251 => 42 | n => n, fun | 130 => 80 | 3 => 3 | 4 => 4 | 0 => 0 | 93 => 75 | 37 => 55 | 91 => 73 | 5 => 5 | n => n, fun | n => n⟩
theorem Tryz.laysM251 : Go.Proofs.LaysM.n251 Tryz.prog Tryz.laysM251_ren := {
  mixed := by kernel_rfl
  f251 := Tryz.func42.trans (congrArg some (by kernel_rfl))
  t0 := Tryz.underlying0
  a0 := Tryz.isAgg0
  z0 := Tryz.sizeOf0
  v0 := Tryz.zeroValue0
  t3 := Tryz.underlying3
  a3 := Tryz.isAgg3
  z3 := Tryz.sizeOf3
  v3 := Tryz.zeroValue3
  t4 := Tryz.underlying4
  a4 := Tryz.isAgg4
  z4 := Tryz.sizeOf4
  v4 := Tryz.zeroValue4
  t37 := Tryz.underlying55
  a37 := Tryz.isAgg55
  z37 := Tryz.sizeOf55
  v37 := Tryz.zeroValue55
  t93 := Tryz.underlying75
  a93 := Tryz.isAgg75
  z93 := Tryz.sizeOf75
  v93 := Tryz.zeroValue75
  t130 := Tryz.underlying80
  a130 := Tryz.isAgg80
  z130 := Tryz.sizeOf80
  v130 := Tryz.zeroValue80
  t5 := Tryz.underlying5
  a5 := Tryz.isAgg5
  z5 := Tryz.sizeOf5
  v5 := Tryz.zeroValue5
  t91 := Tryz.underlying73
  a91 := Tryz.isAgg73
  z91 := Tryz.sizeOf73
  v91 := Tryz.zeroValue73
  i0 := by kernel_rfl
  i3 := by kernel_rfl
  i4 := by kernel_rfl
  i5 := by kernel_rfl
  i37 := by kernel_rfl
  i91 := by kernel_rfl
  i93 := by kernel_rfl
  i130 := by kernel_rfl }
open Go.RowKit in
/-- (*bytes.Buffer).tryGrowByReslice: "tryGrowByReslice is an inlineable version of grow for the fast-case where the internal buffer only needs to be resliced. It returns the index where bytes should be written and whether it succeeded.": THERE IS ROOM: 'buf' is resliced to l + n. (LAID: no walk: one application.) -/
theorem Tryz.Buffer_tryGrow_room (b : Nat) (ao : Option Addr) (l cap n : Nat) (w : World) (c0 : w.cell? ⟨b, 0, none⟩ = some (.slice ao l cap)) (f0 : w.frozen? ⟨b, 0, none⟩ = false) (hlc : l ≤ cap) (hcap : cap ≤ maxLen) (hn : n ≤ cap - l) :
    Calls Tryz.prog 42 #[.pointer (some ⟨b, 0, none⟩), .int .i64 n] w fun e w' => e = .returned (.tuple #[.int .i64 l, .bool true]) ∧ w' = w.setCell ⟨b, 0, none⟩ (.slice ao (l + n) cap) := Any.Buffer_tryGrow_room Tryz.laysM251 b ao l cap n w c0 f0 hlc hcap hn
open Go.RowKit in
/-- .. THERE IS NONE: nothing turns. (LAID: no walk: one application.) -/
theorem Tryz.Buffer_tryGrow_none (b : Nat) (ao : Option Addr) (l cap n : Nat) (w : World) (c0 : w.cell? ⟨b, 0, none⟩ = some (.slice ao l cap)) (hlc : l ≤ cap) (hcap : cap ≤ maxLen) (hn : cap - l < n) :
    Calls Tryz.prog 42 #[.pointer (some ⟨b, 0, none⟩), .int .i64 n] w fun e w' => e = .returned (.tuple #[.int .i64 0, .bool false]) ∧ w' = w := Any.Buffer_tryGrow_none Tryz.laysM251 b ao l cap n w c0 hlc hcap hn
def Tryz.laysM324_ren : Go.Shelf.Ren := ⟨fun | 324 => 56 | n => n, fun | 20 => 20 | 4 => 4 | 75 => 51 | 0 => 0 | 80 => 64 | 9 => 9 | n => n, fun | 14 => 3 | n => n⟩
theorem Tryz.laysM324 : Go.Proofs.LaysM.n324 Tryz.prog Tryz.laysM324_ren := {
  mixed := by kernel_rfl
  f324 := Tryz.func56.trans (congrArg some (by kernel_rfl))
  t0 := Tryz.underlying0
  a0 := Tryz.isAgg0
  z0 := Tryz.sizeOf0
  v0 := Tryz.zeroValue0
  t4 := Tryz.underlying4
  a4 := Tryz.isAgg4
  z4 := Tryz.sizeOf4
  v4 := Tryz.zeroValue4
  t20 := Tryz.underlying20
  a20 := Tryz.isAgg20
  z20 := Tryz.sizeOf20
  v20 := Tryz.zeroValue20
  t75 := Tryz.underlying51
  a75 := Tryz.isAgg51
  z75 := Tryz.sizeOf51
  v75 := Tryz.zeroValue51
  g14 := by kernel_rfl
  t9 := Tryz.underlying9
  a9 := Tryz.isAgg9
  z9 := Tryz.sizeOf9
  v9 := Tryz.zeroValue9
  t80 := Tryz.underlying64
  a80 := Tryz.isAgg64
  z80 := Tryz.sizeOf64
  v80 := Tryz.zeroValue64
  i0 := by kernel_rfl
  i4 := by kernel_rfl
  i9 := by kernel_rfl
  i20 := by kernel_rfl
  i75 := by kernel_rfl
  i80 := by kernel_rfl
  m14 := by kernel_rfl }
theorem Tryz.growSlice_catch_idle (w : World) :
    CallsD Tryz.prog 56 #[] .returning w fun e u' w' => e = .returned (.tuple #[]) ∧ u' = .returning ∧ w' = w := Any.growSlice_catch_idle Tryz.laysM324 w
def Tryz.laysM290_ren : Go.Shelf.Ren := ⟨fun | 290 => 43 | 324 => 56 | n => n, fun | 37 => 55 | 3 => 3 | 0 => 0 | 4 => 4 | 20 => 20 | 75 => 51 | 5 => 5 | 80 => 64 | 9 => 9 | n => n, fun | 14 => 3 | n => n⟩
theorem Tryz.laysM290 : Go.Proofs.LaysM.n290 Tryz.prog Tryz.laysM290_ren := {
  mixed := by kernel_rfl
  f290 := Tryz.func43.trans (congrArg some (by kernel_rfl))
  f324 := Tryz.func56.trans (congrArg some (by kernel_rfl))
  t0 := Tryz.underlying0
  a0 := Tryz.isAgg0
  z0 := Tryz.sizeOf0
  v0 := Tryz.zeroValue0
  t3 := Tryz.underlying3
  a3 := Tryz.isAgg3
  z3 := Tryz.sizeOf3
  v3 := Tryz.zeroValue3
  t4 := Tryz.underlying4
  a4 := Tryz.isAgg4
  z4 := Tryz.sizeOf4
  v4 := Tryz.zeroValue4
  t20 := Tryz.underlying20
  a20 := Tryz.isAgg20
  z20 := Tryz.sizeOf20
  v20 := Tryz.zeroValue20
  t37 := Tryz.underlying55
  a37 := Tryz.isAgg55
  z37 := Tryz.sizeOf55
  v37 := Tryz.zeroValue55
  t75 := Tryz.underlying51
  a75 := Tryz.isAgg51
  z75 := Tryz.sizeOf51
  v75 := Tryz.zeroValue51
  g14 := by kernel_rfl
  t5 := Tryz.underlying5
  a5 := Tryz.isAgg5
  z5 := Tryz.sizeOf5
  v5 := Tryz.zeroValue5
  t9 := Tryz.underlying9
  a9 := Tryz.isAgg9
  z9 := Tryz.sizeOf9
  v9 := Tryz.zeroValue9
  t80 := Tryz.underlying64
  a80 := Tryz.isAgg64
  z80 := Tryz.sizeOf64
  v80 := Tryz.zeroValue64
  i0 := by kernel_rfl
  i3 := by kernel_rfl
  i4 := by kernel_rfl
  i5 := by kernel_rfl
  i9 := by kernel_rfl
  i20 := by kernel_rfl
  i37 := by kernel_rfl
  i75 := by kernel_rfl
  i80 := by kernel_rfl
  m14 := by kernel_rfl }
open Go.RowKit in
/-- bytes.growSlice: "growSlice grows b by n, preserving the original content of b.": OF A SLICE THAT LIES AT THE HEAD OF A ROW: a new row, number 'w.heap.size': it begins with b's l cells; its capacity has room for n more; whatever lay below is as it was. (LAID: no walk: one application.) -/
theorem Tryz.bytes_growSlice_row (g l c n : Nat) (cur : Array Value) (w : World) (hg : w.heap[g]? = some (.cells cur 5 (0, 0))) (hcs : cur.size = c) (hlc : l ≤ c) (hn : 1 ≤ n) (hlim : l + n ≤ 140737488355328) (hc2 : c ≤ 140737488355328) (h1 : ∀ v ∈ cur.toList.take l, v.oneCell' = true) :
    Calls Tryz.prog 43 #[.slice (some ⟨g, 0, none⟩) l c, .int .i64 n] w fun e w' => ∃ cap2 cells, e = .returned (.slice (some ⟨w.heap.size, 0, none⟩) l cap2) ∧ w'.heap[w.heap.size]? = some (.cells cells 5 (0, 0)) ∧
      cells.size = cap2 ∧ cells.toList.take l = cur.toList.take l ∧ l + n ≤ cap2 ∧ cap2 ≤ maxLen ∧ Below w.heap.size w w' := Any.bytes_growSlice_row Tryz.laysM290 g l c n cur w hg hcs hlc hn hlim hc2 h1
open Go.RowKit in
/-- .. OF THE NIL SLICE: a new row with room for n. (LAID: no walk: one application.) -/
theorem Tryz.bytes_growSlice_nil (n : Nat) (w : World) (hn : 1 ≤ n) (hlim : n ≤ 140737488355328) :
    Calls Tryz.prog 43 #[.slice none 0 0, .int .i64 n] w fun e w' => ∃ cap2 cells, e = .returned (.slice (some ⟨w.heap.size, 0, none⟩) 0 cap2) ∧ w'.heap[w.heap.size]? = some (.cells cells 5 (0, 0)) ∧
      cells.size = cap2 ∧ n ≤ cap2 ∧ cap2 ≤ maxLen ∧ Below w.heap.size w w' := Any.bytes_growSlice_nil Tryz.laysM290 n w hn hlim
def Tryz.laysM184_ren : Go.Shelf.Ren := ⟨fun | 184 => 41 | n => n, fun | 130 => 80 | 0 => 0 | 93 => 75 | 37 => 55 | 3 => 3 | 91 => 73 | 5 => 5 | n => n, fun | n => n⟩
theorem Tryz.laysM184 : Go.Proofs.LaysM.n184 Tryz.prog Tryz.laysM184_ren := {
  mixed := by kernel_rfl
  f184 := Tryz.func41.trans (congrArg some (by kernel_rfl))
  t0 := Tryz.underlying0
  a0 := Tryz.isAgg0
  z0 := Tryz.sizeOf0
  v0 := Tryz.zeroValue0
  t3 := Tryz.underlying3
  a3 := Tryz.isAgg3
  z3 := Tryz.sizeOf3
  v3 := Tryz.zeroValue3
  t37 := Tryz.underlying55
  a37 := Tryz.isAgg55
  z37 := Tryz.sizeOf55
  v37 := Tryz.zeroValue55
  t91 := Tryz.underlying73
  a91 := Tryz.isAgg73
  z91 := Tryz.sizeOf73
  v91 := Tryz.zeroValue73
  t93 := Tryz.underlying75
  a93 := Tryz.isAgg75
  z93 := Tryz.sizeOf75
  v93 := Tryz.zeroValue75
  t130 := Tryz.underlying80
  a130 := Tryz.isAgg80
  z130 := Tryz.sizeOf80
  v130 := Tryz.zeroValue80
  t5 := Tryz.underlying5
  a5 := Tryz.isAgg5
  z5 := Tryz.sizeOf5
  v5 := Tryz.zeroValue5
  i0 := by kernel_rfl
  i3 := by kernel_rfl
  i5 := by kernel_rfl
  i37 := by kernel_rfl
  i91 := by kernel_rfl
  i93 := by kernel_rfl
  i130 := by kernel_rfl }
open Go.RowKit in
/-- (*bytes.Buffer).Reset: "Reset resets the buffer to be empty, but it retains the underlying storage for use by future writes." (LAID: no walk: one application.) -/
theorem Tryz.Buffer_Reset (B b : Nat) (bs : List Value) (w : World) (h : Lib.IsBuffer 75 5 B b bs w) :
    Calls Tryz.prog 41 #[.pointer (some ⟨b, 0, none⟩)] w fun e w' => e = .returned (.tuple #[]) ∧ Lib.IsBuffer 75 5 B b [] w' ∧ Below B w w' := Any.Buffer_Reset Tryz.laysM184 B b bs w h
open Go.RowKit in
/-- internal/strconv.Atoi, at a string of 1 to 18 bytes THAT IS NO DECIMAL NUMERAL: 0, AND ErrSyntax (the package's own error number 2). The world behind the call: as it was, or with the one new row that '[]byte(s)' lays. (LAID: no walk: one application.) -/
theorem Tryz.internal_strconv_Atoi_err (s : ByteArray) (hl0 : 1 ≤ s.size) (hl : s.size ≤ 18) (h : Lib.atoi s.data.toList = none) (w : World) :
    Calls Tryz.prog 70 #[.string s] w fun e w' => e = .returned (.tuple #[.int .i64 0, (.iface 179 (.int .i64 2))]) ∧ (w' = w ∨ ∃ t, w' = Lib.bytesWorld w 5 t) := Any.internal_strconv_Atoi_err Tryz.lays244 s hl0 hl h w
def Tryz.lays247_ren : Go.Shelf.Ren := ⟨fun | 247 => 92 | 287 => 104 | 321 => 114 | 322 => 115 | n => n, fun | 9 => 9 | 3 => 3 | 2 => 2 | 75 => 51 | 4 => 4 | 167 => 179 | 5 => 5 | 53 => 42 | 175 => 141 | 46 => 37 | 37 => 55 | 0 => 0 | 21 => 21 | 80 => 64 | n => n, fun | n => n⟩
theorem Tryz.lays247 : Go.Proofs.Lays.n247 Tryz.prog Tryz.lays247_ren := {
  mixed := by kernel_rfl
  f247 := Tryz.func92.trans (congrArg some (by kernel_rfl))
  f287 := Tryz.func104.trans (congrArg some (by kernel_rfl))
  f321 := Tryz.func114.trans (congrArg some (by kernel_rfl))
  f322 := Tryz.func115.trans (congrArg some (by kernel_rfl))
  t0 := Tryz.underlying0
  a0 := Tryz.isAgg0
  z0 := Tryz.sizeOf0
  v0 := Tryz.zeroValue0
  t2 := Tryz.underlying2
  a2 := Tryz.isAgg2
  z2 := Tryz.sizeOf2
  v2 := Tryz.zeroValue2
  t3 := Tryz.underlying3
  a3 := Tryz.isAgg3
  z3 := Tryz.sizeOf3
  v3 := Tryz.zeroValue3
  t4 := Tryz.underlying4
  a4 := Tryz.isAgg4
  z4 := Tryz.sizeOf4
  v4 := Tryz.zeroValue4
  t5 := Tryz.underlying5
  a5 := Tryz.isAgg5
  z5 := Tryz.sizeOf5
  v5 := Tryz.zeroValue5
  t9 := Tryz.underlying9
  a9 := Tryz.isAgg9
  z9 := Tryz.sizeOf9
  v9 := Tryz.zeroValue9
  t21 := Tryz.underlying21
  a21 := Tryz.isAgg21
  z21 := Tryz.sizeOf21
  v21 := Tryz.zeroValue21
  t37 := Tryz.underlying55
  a37 := Tryz.isAgg55
  z37 := Tryz.sizeOf55
  v37 := Tryz.zeroValue55
  t46 := Tryz.underlying37
  a46 := Tryz.isAgg37
  z46 := Tryz.sizeOf37
  v46 := Tryz.zeroValue37
  t53 := Tryz.underlying42
  a53 := Tryz.isAgg42
  z53 := Tryz.sizeOf42
  v53 := Tryz.zeroValue42
  t75 := Tryz.underlying51
  a75 := Tryz.isAgg51
  z75 := Tryz.sizeOf51
  v75 := Tryz.zeroValue51
  t167 := Tryz.underlying179
  a167 := Tryz.isAgg179
  z167 := Tryz.sizeOf179
  v167 := Tryz.zeroValue179
  t175 := Tryz.underlying141
  a175 := Tryz.isAgg141
  z175 := Tryz.sizeOf141
  v175 := Tryz.zeroValue141 }
open Go.RowKit in
/-- internal/strconv.ParseInt at "": 'if s == "" { return 0, ErrSyntax }'. The world is as it was. (LAID: no walk: one application.) -/
theorem Tryz.internal_strconv_ParseInt_empty (base bits : Int) (w : World) :
    Calls Tryz.prog 92 #[.string ⟨#[]⟩, .int .i64 base, .int .i64 bits] w fun e w' => e = .returned (.tuple #[.int .i64 0, (.iface 179 (.int .i64 2))]) ∧ w' = w := Any.internal_strconv_ParseInt_empty Tryz.lays247 base bits w
open Go.RowKit in
/-- internal/strconv.Atoi at "". (LAID: no walk: one application.) -/
theorem Tryz.internal_strconv_Atoi_empty (w : World) :
    Calls Tryz.prog 70 #[.string ⟨#[]⟩] w fun e w' => e = .returned (.tuple #[.int .i64 0, (.iface 179 (.int .i64 2))]) ∧ w' = w := Any.internal_strconv_Atoi_empty Tryz.lays244 w
open Go.RowKit in
/-- internal/strconv.Atoi, AT EVERY STRING OF AT MOST 18 BYTES THAT IS NO DECIMAL NUMERAL: 0, and ErrSyntax. (LAID: no walk: one application.) -/
theorem Tryz.internal_strconv_Atoi_fail (s : ByteArray) (hl : s.size ≤ 18) (h : Lib.atoi s.data.toList = none) (w : World) :
    Calls Tryz.prog 70 #[.string s] w fun e w' => e = .returned (.tuple #[.int .i64 0, (.iface 179 (.int .i64 2))]) ∧ (w' = w ∨ ∃ t, w' = Lib.bytesWorld w 5 t) := Any.internal_strconv_Atoi_fail Tryz.lays244 s hl h w
def Tryz.laysM316_ren : Go.Shelf.Ren := ⟨fun | 316 => 109 | n => n, fun | 9 => 9 | 3 => 3 | 4 => 4 | 37 => 55 | 0 => 0 | 127 => 175 | 5 => 5 | n => n, fun | n => n⟩
theorem Tryz.laysM316 : Go.Proofs.LaysM.n316 Tryz.prog Tryz.laysM316_ren := {
  mixed := by kernel_rfl
  f316 := Tryz.func109.trans (congrArg some (by kernel_rfl))
  t0 := Tryz.underlying0
  a0 := Tryz.isAgg0
  z0 := Tryz.sizeOf0
  v0 := Tryz.zeroValue0
  t3 := Tryz.underlying3
  a3 := Tryz.isAgg3
  z3 := Tryz.sizeOf3
  v3 := Tryz.zeroValue3
  t4 := Tryz.underlying4
  a4 := Tryz.isAgg4
  z4 := Tryz.sizeOf4
  v4 := Tryz.zeroValue4
  t9 := Tryz.underlying9
  a9 := Tryz.isAgg9
  z9 := Tryz.sizeOf9
  v9 := Tryz.zeroValue9
  t37 := Tryz.underlying55
  a37 := Tryz.isAgg55
  z37 := Tryz.sizeOf55
  v37 := Tryz.zeroValue55
  t127 := Tryz.underlying175
  a127 := Tryz.isAgg175
  z127 := Tryz.sizeOf175
  v127 := Tryz.zeroValue175
  t5 := Tryz.underlying5
  a5 := Tryz.isAgg5
  z5 := Tryz.sizeOf5
  v5 := Tryz.zeroValue5
  i0 := by kernel_rfl
  i3 := by kernel_rfl
  i4 := by kernel_rfl
  i5 := by kernel_rfl
  i9 := by kernel_rfl
  i37 := by kernel_rfl
  i127 := by kernel_rfl }
open Go.RowKit in
/-- internal/stringslite.Clone (what strings.Clone calls): "Clone returns a fresh copy of s.": THE SAME BYTES. Of what was there nothing has turned (a new row is laid, and frozen, where s is not empty). (LAID: no walk: one application.) -/
theorem Tryz.stringslite_Clone (s : ByteArray) (w : World) (hlim : s.size ≤ 281474976710656) :
    Calls Tryz.prog 109 #[.string s] w fun e w' => e = .returned (.string s) ∧ Below w.heap.size w w' := Any.stringslite_Clone Tryz.laysM316 s w hlim
def Tryz.laysM279_ren : Go.Shelf.Ren := ⟨fun | 279 => 93 | 316 => 109 | n => n, fun | 9 => 9 | 168 => 181 | 75 => 51 | 210 => 197 | 3 => 3 | 4 => 4 | 37 => 55 | 0 => 0 | 127 => 175 | 80 => 64 | 5 => 5 | n => n, fun | 15 => 8 | n => n⟩
theorem Tryz.laysM279 : Go.Proofs.LaysM.n279 Tryz.prog Tryz.laysM279_ren := {
  mixed := by kernel_rfl
  f279 := Tryz.func93.trans (congrArg some (by kernel_rfl))
  f316 := Tryz.func109.trans (congrArg some (by kernel_rfl))
  t0 := Tryz.underlying0
  a0 := Tryz.isAgg0
  z0 := Tryz.sizeOf0
  v0 := Tryz.zeroValue0
  t3 := Tryz.underlying3
  a3 := Tryz.isAgg3
  z3 := Tryz.sizeOf3
  v3 := Tryz.zeroValue3
  t4 := Tryz.underlying4
  a4 := Tryz.isAgg4
  z4 := Tryz.sizeOf4
  v4 := Tryz.zeroValue4
  t9 := Tryz.underlying9
  a9 := Tryz.isAgg9
  z9 := Tryz.sizeOf9
  v9 := Tryz.zeroValue9
  t37 := Tryz.underlying55
  a37 := Tryz.isAgg55
  z37 := Tryz.sizeOf55
  v37 := Tryz.zeroValue55
  t75 := Tryz.underlying51
  a75 := Tryz.isAgg51
  z75 := Tryz.sizeOf51
  v75 := Tryz.zeroValue51
  t127 := Tryz.underlying175
  a127 := Tryz.isAgg175
  z127 := Tryz.sizeOf175
  v127 := Tryz.zeroValue175
  t168 := Tryz.underlying181
  a168 := Tryz.isAgg181
  z168 := Tryz.sizeOf181
  v168 := Tryz.zeroValue181
  t210 := Tryz.underlying197
  a210 := Tryz.isAgg197
  z210 := Tryz.sizeOf197
  v210 := Tryz.zeroValue197
  g15 := by kernel_rfl
  t5 := Tryz.underlying5
  a5 := Tryz.isAgg5
  z5 := Tryz.sizeOf5
  v5 := Tryz.zeroValue5
  t80 := Tryz.underlying64
  a80 := Tryz.isAgg64
  z80 := Tryz.sizeOf64
  v80 := Tryz.zeroValue64
  i0 := by kernel_rfl
  i3 := by kernel_rfl
  i4 := by kernel_rfl
  i5 := by kernel_rfl
  i9 := by kernel_rfl
  i37 := by kernel_rfl
  i75 := by kernel_rfl
  i80 := by kernel_rfl
  i127 := by kernel_rfl
  i168 := by kernel_rfl
  i210 := by kernel_rfl
  m15 := by kernel_rfl }
open Go.RowKit in
/-- strconv.syntaxError: '&NumError{fn, stringslite.Clone(str), ErrSyntax}': A POINTER TO A NEW BLOCK that holds fn, str's bytes, and what the variable ErrSyntax holds. Of what was there nothing has turned. (LAID: no walk: one application.) -/
theorem Tryz.strconv_syntaxError (fn s : ByteArray) (ev : Value) (w : World) (hlim : s.size ≤ 281474976710656) (hv : w.cell? ⟨8, 0, none⟩ = some ev) (hev : ev = .nilIface ∨ ∃ te pe, ev = .iface te pe) :
    Calls Tryz.prog 93 #[.string fn, .string s] w fun e w' => ∃ N, e = .returned (.pointer (some ⟨N, 0, none⟩)) ∧ w.heap.size ≤ N ∧ w'.heap[N]? = some (.cells #[.string fn, .string s, ev] 197 (0, 0)) ∧ Below w.heap.size w w' := Any.strconv_syntaxError Tryz.laysM279 fn s ev w hlim hv hev
def Tryz.laysC245_ren : Go.Shelf.Ren := ⟨fun | 245 => 71 | 279 => 93 | 280 => 94 | 281 => 95 | 282 => 96 | 316 => 109 | 171 => 110 | 205 => 37 | 243 => 119 | 246 => 133 | 283 => 148 | 284 => 149 | 285 => 150 | 286 => 151 | 129 => 137 | 317 => 156 | 318 => 141 | 319 => 157 | 320 => 158 | 337 => 161 | 338 => 162 | n => n, fun | 9 => 9 | 3 => 3 | 75 => 51 | 167 => 179 | 4 => 4 | 168 => 181 | 210 => 197 | 37 => 55 | 0 => 0 | 127 => 175 | 145 => 136 | 143 => 134 | 2 => 2 | 171 => 256 | 53 => 42 | 5 => 5 | 173 => 258 | 212 => 267 | 51 => 23 | 20 => 20 | 213 => 268 | 46 => 37 | 232 => 277 | 233 => 278 | 80 => 64 | n => n, fun | 15 => 8 | 16 => 9 | 17 => 19 | 18 => 21 | 19 => 22 | n => n⟩
theorem Tryz.laysC245 : Go.Proofs.LaysC.n245 Tryz.prog Tryz.laysC245_ren := {
  mixed := by kernel_rfl
  f129 := Tryz.func137.trans (congrArg some (by kernel_rfl))
  f171 := Tryz.func110.trans (congrArg some (by kernel_rfl))
  f205 := Tryz.func37.trans (congrArg some (by kernel_rfl))
  f243 := Tryz.func119.trans (congrArg some (by kernel_rfl))
  f245 := Tryz.func71.trans (congrArg some (by kernel_rfl))
  f246 := Tryz.func133.trans (congrArg some (by kernel_rfl))
  f279 := Tryz.func93.trans (congrArg some (by kernel_rfl))
  f280 := Tryz.func94.trans (congrArg some (by kernel_rfl))
  f281 := Tryz.func95.trans (congrArg some (by kernel_rfl))
  f282 := Tryz.func96.trans (congrArg some (by kernel_rfl))
  f283 := Tryz.func148.trans (congrArg some (by kernel_rfl))
  f284 := Tryz.func149.trans (congrArg some (by kernel_rfl))
  f285 := Tryz.func150.trans (congrArg some (by kernel_rfl))
  f286 := Tryz.func151.trans (congrArg some (by kernel_rfl))
  f316 := Tryz.func109.trans (congrArg some (by kernel_rfl))
  f317 := Tryz.func156.trans (congrArg some (by kernel_rfl))
  f318 := Tryz.func141.trans (congrArg some (by kernel_rfl))
  f319 := Tryz.func157.trans (congrArg some (by kernel_rfl))
  f320 := Tryz.func158.trans (congrArg some (by kernel_rfl))
  f337 := Tryz.func161.trans (congrArg some (by kernel_rfl))
  f338 := Tryz.func162.trans (congrArg some (by kernel_rfl))
  t0 := Tryz.underlying0
  a0 := Tryz.isAgg0
  z0 := Tryz.sizeOf0
  v0 := Tryz.zeroValue0
  t2 := Tryz.underlying2
  a2 := Tryz.isAgg2
  z2 := Tryz.sizeOf2
  v2 := Tryz.zeroValue2
  t3 := Tryz.underlying3
  a3 := Tryz.isAgg3
  z3 := Tryz.sizeOf3
  v3 := Tryz.zeroValue3
  t4 := Tryz.underlying4
  a4 := Tryz.isAgg4
  z4 := Tryz.sizeOf4
  v4 := Tryz.zeroValue4
  t5 := Tryz.underlying5
  a5 := Tryz.isAgg5
  z5 := Tryz.sizeOf5
  v5 := Tryz.zeroValue5
  t9 := Tryz.underlying9
  a9 := Tryz.isAgg9
  z9 := Tryz.sizeOf9
  v9 := Tryz.zeroValue9
  t20 := Tryz.underlying20
  a20 := Tryz.isAgg20
  z20 := Tryz.sizeOf20
  v20 := Tryz.zeroValue20
  t37 := Tryz.underlying55
  a37 := Tryz.isAgg55
  z37 := Tryz.sizeOf55
  v37 := Tryz.zeroValue55
  t46 := Tryz.underlying37
  a46 := Tryz.isAgg37
  z46 := Tryz.sizeOf37
  v46 := Tryz.zeroValue37
  t51 := Tryz.underlying23
  a51 := Tryz.isAgg23
  z51 := Tryz.sizeOf23
  v51 := Tryz.zeroValue23
  t53 := Tryz.underlying42
  a53 := Tryz.isAgg42
  z53 := Tryz.sizeOf42
  v53 := Tryz.zeroValue42
  t75 := Tryz.underlying51
  a75 := Tryz.isAgg51
  z75 := Tryz.sizeOf51
  v75 := Tryz.zeroValue51
  t127 := Tryz.underlying175
  a127 := Tryz.isAgg175
  z127 := Tryz.sizeOf175
  v127 := Tryz.zeroValue175
  t143 := Tryz.underlying134
  a143 := Tryz.isAgg134
  z143 := Tryz.sizeOf134
  v143 := Tryz.zeroValue134
  t145 := Tryz.underlying136
  a145 := Tryz.isAgg136
  z145 := Tryz.sizeOf136
  v145 := Tryz.zeroValue136
  t167 := Tryz.underlying179
  a167 := Tryz.isAgg179
  z167 := Tryz.sizeOf179
  v167 := Tryz.zeroValue179
  t168 := Tryz.underlying181
  a168 := Tryz.isAgg181
  z168 := Tryz.sizeOf181
  v168 := Tryz.zeroValue181
  t171 := Tryz.underlying256
  a171 := Tryz.isAgg256
  z171 := Tryz.sizeOf256
  v171 := Tryz.zeroValue256
  t173 := Tryz.underlying258
  a173 := Tryz.isAgg258
  z173 := Tryz.sizeOf258
  v173 := Tryz.zeroValue258
  t210 := Tryz.underlying197
  a210 := Tryz.isAgg197
  z210 := Tryz.sizeOf197
  v210 := Tryz.zeroValue197
  t212 := Tryz.underlying267
  a212 := Tryz.isAgg267
  z212 := Tryz.sizeOf267
  v212 := Tryz.zeroValue267
  t213 := Tryz.underlying268
  a213 := Tryz.isAgg268
  z213 := Tryz.sizeOf268
  t232 := Tryz.underlying277
  a232 := Tryz.isAgg277
  z232 := Tryz.sizeOf277
  v232 := Tryz.zeroValue277
  t233 := Tryz.underlying278
  a233 := Tryz.isAgg278
  z233 := Tryz.sizeOf278
  v233 := Tryz.zeroValue278
  g15 := by kernel_rfl
  g16 := by kernel_rfl
  g17 := by kernel_rfl
  g18 := by kernel_rfl
  g19 := by kernel_rfl
  t80 := Tryz.underlying64
  a80 := Tryz.isAgg64
  z80 := Tryz.sizeOf64
  v80 := Tryz.zeroValue64
  i0 := by kernel_rfl
  i2 := by kernel_rfl
  i3 := by kernel_rfl
  i4 := by kernel_rfl
  i5 := by kernel_rfl
  i9 := by kernel_rfl
  i20 := by kernel_rfl
  i37 := by kernel_rfl
  i46 := by kernel_rfl
  i51 := by kernel_rfl
  i53 := by kernel_rfl
  i75 := by kernel_rfl
  i80 := by kernel_rfl
  i127 := by kernel_rfl
  i143 := by kernel_rfl
  i145 := by kernel_rfl
  i167 := by kernel_rfl
  i168 := by kernel_rfl
  i171 := by kernel_rfl
  i173 := by kernel_rfl
  i210 := by kernel_rfl
  i212 := by kernel_rfl
  i232 := by kernel_rfl
  i233 := by kernel_rfl
  m15 := by kernel_rfl
  m16 := by kernel_rfl
  m17 := by kernel_rfl
  m18 := by kernel_rfl
  m19 := by kernel_rfl
  c0 := by kernel_rfl
  c2 := by kernel_rfl
  c3 := by kernel_rfl
  c4 := by kernel_rfl
  c5 := by kernel_rfl
  c9 := by kernel_rfl
  c20 := by kernel_rfl
  c37 := by kernel_rfl
  c46 := by kernel_rfl
  c51 := by kernel_rfl
  c53 := by kernel_rfl
  c75 := by kernel_rfl
  c80 := by kernel_rfl
  c127 := by kernel_rfl
  c143 := by kernel_rfl
  c145 := by kernel_rfl
  c167 := by kernel_rfl
  c168 := by kernel_rfl
  c171 := by kernel_rfl
  c173 := by kernel_rfl
  c210 := by kernel_rfl
  c212 := by kernel_rfl
  c213 := by kernel_rfl
  c232 := by kernel_rfl
  c233 := by kernel_rfl }
open Go.RowKit in
/-- strconv.toError, at the inner package's ErrSyntax: 'syntaxError(fn, s)' as an error: A *NumError IN A NEW BLOCK. (LAID: no walk: one application.) -/
theorem Tryz.strconv_toError_syntax (fn s : ByteArray) (base bits : Int) (ev : Value) (w : World) (hlim : s.size ≤ 281474976710656) (hv : w.cell? ⟨8, 0, none⟩ = some ev) (hev : ev = .nilIface ∨ ∃ te pe, ev = .iface te pe) :
    Calls Tryz.prog 71 #[.string fn, .string s, .int .i64 base, .int .i64 bits, .iface 179 (.int .i64 2)] w fun e w' => ∃ N, e = .returned (.iface 181 (.pointer (some ⟨N, 0, none⟩))) ∧ w.heap.size ≤ N ∧ w'.heap[N]? = some (.cells #[.string fn, .string s, ev] 197 (0, 0)) ∧ Below w.heap.size w w' := Any.strconv_toError_syntax Tryz.laysC245 fn s base bits ev w hlim hv hev
def Tryz.lays321_ren : Go.Shelf.Ren := ⟨fun | 321 => 114 | n => n, fun | 5 => 5 | n => n, fun | n => n⟩
theorem Tryz.lays321 : Go.Proofs.Lays.n321 Tryz.prog Tryz.lays321_ren := {
  mixed := by kernel_rfl
  f321 := Tryz.func114.trans (congrArg some (by kernel_rfl))
  t5 := Tryz.underlying5
  a5 := Tryz.isAgg5
  z5 := Tryz.sizeOf5
  v5 := Tryz.zeroValue5 }
open Go.RowKit in
/-- internal/strconv.lower: 'c | ('x' - 'X')': the bit 32 set. The world is as it was. (LAID: no walk: one application.) -/
theorem Tryz.internal_strconv_lower (c : Int) (w : World) :
    Calls Tryz.prog 114 #[.int .u8 c] w fun e w' => e = .returned (.int .u8 (bits .or .u8 c 32)) ∧ w' = w := Any.internal_strconv_lower Tryz.lays321 c w
def Tryz.lays287_ren : Go.Shelf.Ren := ⟨fun | 287 => 104 | 321 => 114 | 322 => 115 | n => n, fun | 9 => 9 | 3 => 3 | 53 => 42 | 75 => 51 | 4 => 4 | 167 => 179 | 5 => 5 | 46 => 37 | 37 => 55 | 0 => 0 | 21 => 21 | 80 => 64 | n => n, fun | n => n⟩
theorem Tryz.lays287 : Go.Proofs.Lays.n287 Tryz.prog Tryz.lays287_ren := {
  mixed := by kernel_rfl
  f287 := Tryz.func104.trans (congrArg some (by kernel_rfl))
  f321 := Tryz.func114.trans (congrArg some (by kernel_rfl))
  f322 := Tryz.func115.trans (congrArg some (by kernel_rfl))
  t0 := Tryz.underlying0
  a0 := Tryz.isAgg0
  z0 := Tryz.sizeOf0
  v0 := Tryz.zeroValue0
  t3 := Tryz.underlying3
  a3 := Tryz.isAgg3
  z3 := Tryz.sizeOf3
  v3 := Tryz.zeroValue3
  t4 := Tryz.underlying4
  a4 := Tryz.isAgg4
  z4 := Tryz.sizeOf4
  v4 := Tryz.zeroValue4
  t5 := Tryz.underlying5
  a5 := Tryz.isAgg5
  z5 := Tryz.sizeOf5
  v5 := Tryz.zeroValue5
  t9 := Tryz.underlying9
  a9 := Tryz.isAgg9
  z9 := Tryz.sizeOf9
  v9 := Tryz.zeroValue9
  t21 := Tryz.underlying21
  a21 := Tryz.isAgg21
  z21 := Tryz.sizeOf21
  v21 := Tryz.zeroValue21
  t37 := Tryz.underlying55
  a37 := Tryz.isAgg55
  z37 := Tryz.sizeOf55
  v37 := Tryz.zeroValue55
  t46 := Tryz.underlying37
  a46 := Tryz.isAgg37
  z46 := Tryz.sizeOf37
  v46 := Tryz.zeroValue37
  t53 := Tryz.underlying42
  a53 := Tryz.isAgg42
  z53 := Tryz.sizeOf42
  v53 := Tryz.zeroValue42
  t75 := Tryz.underlying51
  a75 := Tryz.isAgg51
  z75 := Tryz.sizeOf51
  v75 := Tryz.zeroValue51
  t167 := Tryz.underlying179
  a167 := Tryz.isAgg179
  z167 := Tryz.sizeOf179
  v167 := Tryz.zeroValue179 }
open Go.RowKit in
/-- internal/strconv.ParseUint(s, 10, 0), s NOT EMPTY: 'Lib.parseUint10 0' OF ITS BYTES: the number; or (0, ErrSyntax); or (the greatest uint64, ErrRange). The world behind the call: the one new row that '[]byte(s)' lays. (LAID: no walk: one application.) -/
theorem Tryz.internal_strconv_ParseUint_10 (t : ByteArray) (hne : t.size ≠ 0) (hmax : t.size ≤ 9223372036854775806) (w : World) :
    Calls Tryz.prog 104 #[.string t, .int .i64 10, .int .i64 0] w fun e w' => e = .returned (Lib.uintTuple 179 (Lib.parseUint10 0 t.data.toList)) ∧ w' = Lib.bytesWorld w 5 t := Any.internal_strconv_ParseUint_10 Tryz.lays287 t hne hmax w
open Go.RowKit in
/-- internal/strconv.ParseUint(s, 10, 0): 'Lib.parseMag' OF ITS BYTES. The world: as it was (the empty string), or with the one new row that '[]byte(s)' lays. (LAID: no walk: one application.) -/
theorem Tryz.internal_strconv_ParseUint_10_any (t : ByteArray) (hmax : t.size ≤ 9223372036854775806) (w : World) :
    Calls Tryz.prog 104 #[.string t, .int .i64 10, .int .i64 0] w fun e w' => e = .returned (Lib.uintTuple 179 (Lib.parseMag t.data.toList)) ∧ (w' = w ∨ w' = Lib.bytesWorld w 5 t) := Any.internal_strconv_ParseUint_10_any Tryz.lays287 t hmax w
def Tryz.laysC247_ren : Go.Shelf.Ren := ⟨fun | 247 => 92 | 287 => 104 | 321 => 114 | 322 => 115 | n => n, fun | 9 => 9 | 3 => 3 | 2 => 2 | 75 => 51 | 4 => 4 | 167 => 179 | 5 => 5 | 53 => 42 | 175 => 141 | 46 => 37 | 37 => 55 | 0 => 0 | 21 => 21 | 80 => 64 | n => n, fun | n => n⟩
theorem Tryz.laysC247 : Go.Proofs.LaysC.n247 Tryz.prog Tryz.laysC247_ren := {
  mixed := by kernel_rfl
  f247 := Tryz.func92.trans (congrArg some (by kernel_rfl))
  f287 := Tryz.func104.trans (congrArg some (by kernel_rfl))
  f321 := Tryz.func114.trans (congrArg some (by kernel_rfl))
  f322 := Tryz.func115.trans (congrArg some (by kernel_rfl))
  t0 := Tryz.underlying0
  a0 := Tryz.isAgg0
  z0 := Tryz.sizeOf0
  v0 := Tryz.zeroValue0
  t2 := Tryz.underlying2
  a2 := Tryz.isAgg2
  z2 := Tryz.sizeOf2
  v2 := Tryz.zeroValue2
  t3 := Tryz.underlying3
  a3 := Tryz.isAgg3
  z3 := Tryz.sizeOf3
  v3 := Tryz.zeroValue3
  t4 := Tryz.underlying4
  a4 := Tryz.isAgg4
  z4 := Tryz.sizeOf4
  v4 := Tryz.zeroValue4
  t5 := Tryz.underlying5
  a5 := Tryz.isAgg5
  z5 := Tryz.sizeOf5
  v5 := Tryz.zeroValue5
  t9 := Tryz.underlying9
  a9 := Tryz.isAgg9
  z9 := Tryz.sizeOf9
  v9 := Tryz.zeroValue9
  t21 := Tryz.underlying21
  a21 := Tryz.isAgg21
  z21 := Tryz.sizeOf21
  v21 := Tryz.zeroValue21
  t37 := Tryz.underlying55
  a37 := Tryz.isAgg55
  z37 := Tryz.sizeOf55
  v37 := Tryz.zeroValue55
  t46 := Tryz.underlying37
  a46 := Tryz.isAgg37
  z46 := Tryz.sizeOf37
  v46 := Tryz.zeroValue37
  t53 := Tryz.underlying42
  a53 := Tryz.isAgg42
  z53 := Tryz.sizeOf42
  v53 := Tryz.zeroValue42
  t75 := Tryz.underlying51
  a75 := Tryz.isAgg51
  z75 := Tryz.sizeOf51
  v75 := Tryz.zeroValue51
  t167 := Tryz.underlying179
  a167 := Tryz.isAgg179
  z167 := Tryz.sizeOf179
  v167 := Tryz.zeroValue179
  t175 := Tryz.underlying141
  a175 := Tryz.isAgg141
  z175 := Tryz.sizeOf141
  v175 := Tryz.zeroValue141
  t80 := Tryz.underlying64
  a80 := Tryz.isAgg64
  z80 := Tryz.sizeOf64
  v80 := Tryz.zeroValue64
  i0 := by kernel_rfl
  i2 := by kernel_rfl
  i3 := by kernel_rfl
  i4 := by kernel_rfl
  i5 := by kernel_rfl
  i9 := by kernel_rfl
  i21 := by kernel_rfl
  i37 := by kernel_rfl
  i46 := by kernel_rfl
  i53 := by kernel_rfl
  i75 := by kernel_rfl
  i80 := by kernel_rfl
  i167 := by kernel_rfl
  i175 := by kernel_rfl
  c0 := by kernel_rfl
  c2 := by kernel_rfl
  c3 := by kernel_rfl
  c4 := by kernel_rfl
  c5 := by kernel_rfl
  c9 := by kernel_rfl
  c21 := by kernel_rfl
  c37 := by kernel_rfl
  c46 := by kernel_rfl
  c53 := by kernel_rfl
  c75 := by kernel_rfl
  c80 := by kernel_rfl
  c167 := by kernel_rfl
  c175 := by kernel_rfl }
open Go.RowKit in
/-- internal/strconv.ParseInt(s, 10, 0), s NOT EMPTY: 'Lib.atoiAll' OF ITS BYTES: (the number, nil); (0, ErrSyntax); (the greatest or the least int64 by the sign, ErrRange). The world: as it was, or with the one new row that '[]byte(..)' lays. (LAID: no walk: one application.) -/
theorem Tryz.internal_strconv_ParseInt_10 (s : ByteArray) (hne : s.size ≠ 0) (hmax : s.size ≤ 9223372036854775806) (w : World) :
    Calls Tryz.prog 92 #[.string s, .int .i64 10, .int .i64 0] w fun e w' => e = .returned (Lib.intTuple 179 (Lib.atoiSat s.data.toList) (Lib.atoiAll s.data.toList)) ∧ (w' = w ∨ ∃ t, w' = Lib.bytesWorld w 5 t) := Any.internal_strconv_ParseInt_10 Tryz.laysC247 s hne hmax w
def Tryz.laysC244_ren : Go.Shelf.Ren := ⟨fun | 244 => 70 | 247 => 92 | 287 => 104 | 321 => 114 | 322 => 115 | n => n, fun | 9 => 9 | 3 => 3 | 75 => 51 | 4 => 4 | 5 => 5 | 167 => 179 | 37 => 55 | 0 => 0 | 85 => 81 | 2 => 2 | 53 => 42 | 175 => 141 | 46 => 37 | 21 => 21 | 80 => 64 | n => n, fun | n => n⟩
theorem Tryz.laysC244 : Go.Proofs.LaysC.n244 Tryz.prog Tryz.laysC244_ren := {
  mixed := by kernel_rfl
  f244 := Tryz.func70.trans (congrArg some (by kernel_rfl))
  f247 := Tryz.func92.trans (congrArg some (by kernel_rfl))
  f287 := Tryz.func104.trans (congrArg some (by kernel_rfl))
  f321 := Tryz.func114.trans (congrArg some (by kernel_rfl))
  f322 := Tryz.func115.trans (congrArg some (by kernel_rfl))
  t0 := Tryz.underlying0
  a0 := Tryz.isAgg0
  z0 := Tryz.sizeOf0
  v0 := Tryz.zeroValue0
  t2 := Tryz.underlying2
  a2 := Tryz.isAgg2
  z2 := Tryz.sizeOf2
  v2 := Tryz.zeroValue2
  t3 := Tryz.underlying3
  a3 := Tryz.isAgg3
  z3 := Tryz.sizeOf3
  v3 := Tryz.zeroValue3
  t4 := Tryz.underlying4
  a4 := Tryz.isAgg4
  z4 := Tryz.sizeOf4
  v4 := Tryz.zeroValue4
  t5 := Tryz.underlying5
  a5 := Tryz.isAgg5
  z5 := Tryz.sizeOf5
  v5 := Tryz.zeroValue5
  t9 := Tryz.underlying9
  a9 := Tryz.isAgg9
  z9 := Tryz.sizeOf9
  v9 := Tryz.zeroValue9
  t21 := Tryz.underlying21
  a21 := Tryz.isAgg21
  z21 := Tryz.sizeOf21
  v21 := Tryz.zeroValue21
  t37 := Tryz.underlying55
  a37 := Tryz.isAgg55
  z37 := Tryz.sizeOf55
  v37 := Tryz.zeroValue55
  t46 := Tryz.underlying37
  a46 := Tryz.isAgg37
  z46 := Tryz.sizeOf37
  v46 := Tryz.zeroValue37
  t53 := Tryz.underlying42
  a53 := Tryz.isAgg42
  z53 := Tryz.sizeOf42
  v53 := Tryz.zeroValue42
  t75 := Tryz.underlying51
  a75 := Tryz.isAgg51
  z75 := Tryz.sizeOf51
  v75 := Tryz.zeroValue51
  t85 := Tryz.underlying81
  a85 := Tryz.isAgg81
  z85 := Tryz.sizeOf81
  v85 := Tryz.zeroValue81
  t167 := Tryz.underlying179
  a167 := Tryz.isAgg179
  z167 := Tryz.sizeOf179
  v167 := Tryz.zeroValue179
  t175 := Tryz.underlying141
  a175 := Tryz.isAgg141
  z175 := Tryz.sizeOf141
  v175 := Tryz.zeroValue141
  t80 := Tryz.underlying64
  a80 := Tryz.isAgg64
  z80 := Tryz.sizeOf64
  v80 := Tryz.zeroValue64
  i0 := by kernel_rfl
  i2 := by kernel_rfl
  i3 := by kernel_rfl
  i4 := by kernel_rfl
  i5 := by kernel_rfl
  i9 := by kernel_rfl
  i21 := by kernel_rfl
  i37 := by kernel_rfl
  i46 := by kernel_rfl
  i53 := by kernel_rfl
  i75 := by kernel_rfl
  i80 := by kernel_rfl
  i85 := by kernel_rfl
  i167 := by kernel_rfl
  i175 := by kernel_rfl
  c0 := by kernel_rfl
  c2 := by kernel_rfl
  c3 := by kernel_rfl
  c4 := by kernel_rfl
  c5 := by kernel_rfl
  c9 := by kernel_rfl
  c21 := by kernel_rfl
  c37 := by kernel_rfl
  c46 := by kernel_rfl
  c53 := by kernel_rfl
  c75 := by kernel_rfl
  c80 := by kernel_rfl
  c85 := by kernel_rfl
  c167 := by kernel_rfl
  c175 := by kernel_rfl }
open Go.RowKit in
/-- internal/strconv.Atoi, AT EVERY STRING OF 19 BYTES OR MORE: 'Lib.atoiAll' OF ITS BYTES: (the number, nil); (0, ErrSyntax); (the greatest or the least int by the sign, ErrRange). (LAID: no walk: one application.) -/
theorem Tryz.internal_strconv_Atoi_long (s : ByteArray) (h19 : 19 ≤ s.size) (hmax : s.size ≤ 9223372036854775806) (w : World) :
    Calls Tryz.prog 70 #[.string s] w fun e w' => e = .returned (Lib.intTuple 179 (Lib.atoiSat s.data.toList) (Lib.atoiAll s.data.toList)) ∧ (w' = w ∨ ∃ t, w' = Lib.bytesWorld w 5 t) := Any.internal_strconv_Atoi_long Tryz.laysC244 s h19 hmax w
open Go.RowKit in
/-- internal/strconv.Atoi, AT EVERY STRING: 'Lib.atoiAll' OF ITS BYTES: (the number, nil); (0, ErrSyntax); (the greatest or the least int by the sign, ErrRange). The world: as it was, or with the one new row that '[]byte(..)' lays. (LAID: no walk: one application.) -/
theorem Tryz.internal_strconv_Atoi_all (s : ByteArray) (hmax : s.size ≤ 9223372036854775806) (w : World) :
    Calls Tryz.prog 70 #[.string s] w fun e w' => e = .returned (Lib.intTuple 179 (Lib.atoiSat s.data.toList) (Lib.atoiAll s.data.toList)) ∧ (w' = w ∨ ∃ t, w' = Lib.bytesWorld w 5 t) := Any.internal_strconv_Atoi_all Tryz.laysC244 s hmax w
def Tryz.laysM280_ren : Go.Shelf.Ren := ⟨fun | 280 => 94 | 316 => 109 | n => n, fun | 9 => 9 | 168 => 181 | 75 => 51 | 210 => 197 | 3 => 3 | 4 => 4 | 37 => 55 | 0 => 0 | 127 => 175 | 80 => 64 | 5 => 5 | n => n, fun | 16 => 9 | n => n⟩
theorem Tryz.laysM280 : Go.Proofs.LaysM.n280 Tryz.prog Tryz.laysM280_ren := {
  mixed := by kernel_rfl
  f280 := Tryz.func94.trans (congrArg some (by kernel_rfl))
  f316 := Tryz.func109.trans (congrArg some (by kernel_rfl))
  t0 := Tryz.underlying0
  a0 := Tryz.isAgg0
  z0 := Tryz.sizeOf0
  v0 := Tryz.zeroValue0
  t3 := Tryz.underlying3
  a3 := Tryz.isAgg3
  z3 := Tryz.sizeOf3
  v3 := Tryz.zeroValue3
  t4 := Tryz.underlying4
  a4 := Tryz.isAgg4
  z4 := Tryz.sizeOf4
  v4 := Tryz.zeroValue4
  t9 := Tryz.underlying9
  a9 := Tryz.isAgg9
  z9 := Tryz.sizeOf9
  v9 := Tryz.zeroValue9
  t37 := Tryz.underlying55
  a37 := Tryz.isAgg55
  z37 := Tryz.sizeOf55
  v37 := Tryz.zeroValue55
  t75 := Tryz.underlying51
  a75 := Tryz.isAgg51
  z75 := Tryz.sizeOf51
  v75 := Tryz.zeroValue51
  t127 := Tryz.underlying175
  a127 := Tryz.isAgg175
  z127 := Tryz.sizeOf175
  v127 := Tryz.zeroValue175
  t168 := Tryz.underlying181
  a168 := Tryz.isAgg181
  z168 := Tryz.sizeOf181
  v168 := Tryz.zeroValue181
  t210 := Tryz.underlying197
  a210 := Tryz.isAgg197
  z210 := Tryz.sizeOf197
  v210 := Tryz.zeroValue197
  g16 := by kernel_rfl
  t5 := Tryz.underlying5
  a5 := Tryz.isAgg5
  z5 := Tryz.sizeOf5
  v5 := Tryz.zeroValue5
  t80 := Tryz.underlying64
  a80 := Tryz.isAgg64
  z80 := Tryz.sizeOf64
  v80 := Tryz.zeroValue64
  i0 := by kernel_rfl
  i3 := by kernel_rfl
  i4 := by kernel_rfl
  i5 := by kernel_rfl
  i9 := by kernel_rfl
  i37 := by kernel_rfl
  i75 := by kernel_rfl
  i80 := by kernel_rfl
  i127 := by kernel_rfl
  i168 := by kernel_rfl
  i210 := by kernel_rfl
  m16 := by kernel_rfl }
open Go.RowKit in
/-- strconv.rangeError: '&NumError{fn, stringslite.Clone(str), ErrRange}': A POINTER TO A NEW BLOCK that holds fn, str's bytes, and what the variable ErrRange holds. Of what was there nothing has turned. (LAID: no walk: one application.) -/
theorem Tryz.strconv_rangeError (fn s : ByteArray) (ev : Value) (w : World) (hlim : s.size ≤ 281474976710656) (hv : w.cell? ⟨9, 0, none⟩ = some ev) (hev : ev = .nilIface ∨ ∃ te pe, ev = .iface te pe) :
    Calls Tryz.prog 94 #[.string fn, .string s] w fun e w' => ∃ N, e = .returned (.pointer (some ⟨N, 0, none⟩)) ∧ w.heap.size ≤ N ∧ w'.heap[N]? = some (.cells #[.string fn, .string s, ev] 197 (0, 0)) ∧ Below w.heap.size w w' := Any.strconv_rangeError Tryz.laysM280 fn s ev w hlim hv hev
open Go.RowKit in
/-- strconv.toError, at the inner package's ErrRange: 'rangeError(fn, s)' as an error: A *NumError IN A NEW BLOCK. (LAID: no walk: one application.) -/
theorem Tryz.strconv_toError_range (fn s : ByteArray) (base bits : Int) (ev : Value) (w : World) (hlim : s.size ≤ 281474976710656) (hv : w.cell? ⟨9, 0, none⟩ = some ev) (hev : ev = .nilIface ∨ ∃ te pe, ev = .iface te pe) :
    Calls Tryz.prog 71 #[.string fn, .string s, .int .i64 base, .int .i64 bits, .iface 179 (.int .i64 1)] w fun e w' => ∃ N, e = .returned (.iface 181 (.pointer (some ⟨N, 0, none⟩))) ∧ w.heap.size ≤ N ∧ w'.heap[N]? = some (.cells #[.string fn, .string s, ev] 197 (0, 0)) ∧ Below w.heap.size w w' := Any.strconv_toError_range Tryz.laysC245 fn s base bits ev w hlim hv hev
def Tryz.laysC172_ren : Go.Shelf.Ren := ⟨fun | 172 => 51 | 244 => 70 | 245 => 71 | 247 => 92 | 279 => 93 | 280 => 94 | 281 => 95 | 282 => 96 | 287 => 104 | 316 => 109 | 171 => 110 | 205 => 37 | 321 => 114 | 322 => 115 | 243 => 119 | 246 => 133 | 283 => 148 | 284 => 149 | 285 => 150 | 286 => 151 | 129 => 137 | 317 => 156 | 318 => 141 | 319 => 157 | 320 => 158 | 337 => 161 | 338 => 162 | n => n, fun | 9 => 9 | 3 => 3 | 75 => 51 | 76 => 102 | 4 => 4 | 5 => 5 | 167 => 179 | 37 => 55 | 0 => 0 | 85 => 81 | 2 => 2 | 168 => 181 | 53 => 42 | 175 => 141 | 46 => 37 | 210 => 197 | 127 => 175 | 145 => 136 | 143 => 134 | 21 => 21 | 171 => 256 | 173 => 258 | 212 => 267 | 51 => 23 | 20 => 20 | 213 => 268 | 232 => 277 | 233 => 278 | 80 => 64 | n => n, fun | 15 => 8 | 16 => 9 | 17 => 19 | 18 => 21 | 19 => 22 | n => n⟩
theorem Tryz.laysC172 : Go.Proofs.LaysC.n172 Tryz.prog Tryz.laysC172_ren := {
  mixed := by kernel_rfl
  f129 := Tryz.func137.trans (congrArg some (by kernel_rfl))
  f171 := Tryz.func110.trans (congrArg some (by kernel_rfl))
  f172 := Tryz.func51.trans (congrArg some (by kernel_rfl))
  f205 := Tryz.func37.trans (congrArg some (by kernel_rfl))
  f243 := Tryz.func119.trans (congrArg some (by kernel_rfl))
  f244 := Tryz.func70.trans (congrArg some (by kernel_rfl))
  f245 := Tryz.func71.trans (congrArg some (by kernel_rfl))
  f246 := Tryz.func133.trans (congrArg some (by kernel_rfl))
  f247 := Tryz.func92.trans (congrArg some (by kernel_rfl))
  f279 := Tryz.func93.trans (congrArg some (by kernel_rfl))
  f280 := Tryz.func94.trans (congrArg some (by kernel_rfl))
  f281 := Tryz.func95.trans (congrArg some (by kernel_rfl))
  f282 := Tryz.func96.trans (congrArg some (by kernel_rfl))
  f283 := Tryz.func148.trans (congrArg some (by kernel_rfl))
  f284 := Tryz.func149.trans (congrArg some (by kernel_rfl))
  f285 := Tryz.func150.trans (congrArg some (by kernel_rfl))
  f286 := Tryz.func151.trans (congrArg some (by kernel_rfl))
  f287 := Tryz.func104.trans (congrArg some (by kernel_rfl))
  f316 := Tryz.func109.trans (congrArg some (by kernel_rfl))
  f317 := Tryz.func156.trans (congrArg some (by kernel_rfl))
  f318 := Tryz.func141.trans (congrArg some (by kernel_rfl))
  f319 := Tryz.func157.trans (congrArg some (by kernel_rfl))
  f320 := Tryz.func158.trans (congrArg some (by kernel_rfl))
  f321 := Tryz.func114.trans (congrArg some (by kernel_rfl))
  f322 := Tryz.func115.trans (congrArg some (by kernel_rfl))
  f337 := Tryz.func161.trans (congrArg some (by kernel_rfl))
  f338 := Tryz.func162.trans (congrArg some (by kernel_rfl))
  t0 := Tryz.underlying0
  a0 := Tryz.isAgg0
  z0 := Tryz.sizeOf0
  v0 := Tryz.zeroValue0
  t2 := Tryz.underlying2
  a2 := Tryz.isAgg2
  z2 := Tryz.sizeOf2
  v2 := Tryz.zeroValue2
  t3 := Tryz.underlying3
  a3 := Tryz.isAgg3
  z3 := Tryz.sizeOf3
  v3 := Tryz.zeroValue3
  t4 := Tryz.underlying4
  a4 := Tryz.isAgg4
  z4 := Tryz.sizeOf4
  v4 := Tryz.zeroValue4
  t5 := Tryz.underlying5
  a5 := Tryz.isAgg5
  z5 := Tryz.sizeOf5
  v5 := Tryz.zeroValue5
  t9 := Tryz.underlying9
  a9 := Tryz.isAgg9
  z9 := Tryz.sizeOf9
  v9 := Tryz.zeroValue9
  t20 := Tryz.underlying20
  a20 := Tryz.isAgg20
  z20 := Tryz.sizeOf20
  v20 := Tryz.zeroValue20
  t21 := Tryz.underlying21
  a21 := Tryz.isAgg21
  z21 := Tryz.sizeOf21
  v21 := Tryz.zeroValue21
  t37 := Tryz.underlying55
  a37 := Tryz.isAgg55
  z37 := Tryz.sizeOf55
  v37 := Tryz.zeroValue55
  t46 := Tryz.underlying37
  a46 := Tryz.isAgg37
  z46 := Tryz.sizeOf37
  v46 := Tryz.zeroValue37
  t51 := Tryz.underlying23
  a51 := Tryz.isAgg23
  z51 := Tryz.sizeOf23
  v51 := Tryz.zeroValue23
  t53 := Tryz.underlying42
  a53 := Tryz.isAgg42
  z53 := Tryz.sizeOf42
  v53 := Tryz.zeroValue42
  t75 := Tryz.underlying51
  a75 := Tryz.isAgg51
  z75 := Tryz.sizeOf51
  v75 := Tryz.zeroValue51
  t76 := Tryz.underlying102
  a76 := Tryz.isAgg102
  z76 := Tryz.sizeOf102
  v76 := Tryz.zeroValue102
  t85 := Tryz.underlying81
  a85 := Tryz.isAgg81
  z85 := Tryz.sizeOf81
  v85 := Tryz.zeroValue81
  t127 := Tryz.underlying175
  a127 := Tryz.isAgg175
  z127 := Tryz.sizeOf175
  v127 := Tryz.zeroValue175
  t143 := Tryz.underlying134
  a143 := Tryz.isAgg134
  z143 := Tryz.sizeOf134
  v143 := Tryz.zeroValue134
  t145 := Tryz.underlying136
  a145 := Tryz.isAgg136
  z145 := Tryz.sizeOf136
  v145 := Tryz.zeroValue136
  t167 := Tryz.underlying179
  a167 := Tryz.isAgg179
  z167 := Tryz.sizeOf179
  v167 := Tryz.zeroValue179
  t168 := Tryz.underlying181
  a168 := Tryz.isAgg181
  z168 := Tryz.sizeOf181
  v168 := Tryz.zeroValue181
  t171 := Tryz.underlying256
  a171 := Tryz.isAgg256
  z171 := Tryz.sizeOf256
  v171 := Tryz.zeroValue256
  t173 := Tryz.underlying258
  a173 := Tryz.isAgg258
  z173 := Tryz.sizeOf258
  v173 := Tryz.zeroValue258
  t175 := Tryz.underlying141
  a175 := Tryz.isAgg141
  z175 := Tryz.sizeOf141
  v175 := Tryz.zeroValue141
  t210 := Tryz.underlying197
  a210 := Tryz.isAgg197
  z210 := Tryz.sizeOf197
  v210 := Tryz.zeroValue197
  t212 := Tryz.underlying267
  a212 := Tryz.isAgg267
  z212 := Tryz.sizeOf267
  v212 := Tryz.zeroValue267
  t213 := Tryz.underlying268
  a213 := Tryz.isAgg268
  z213 := Tryz.sizeOf268
  t232 := Tryz.underlying277
  a232 := Tryz.isAgg277
  z232 := Tryz.sizeOf277
  v232 := Tryz.zeroValue277
  t233 := Tryz.underlying278
  a233 := Tryz.isAgg278
  z233 := Tryz.sizeOf278
  v233 := Tryz.zeroValue278
  g15 := by kernel_rfl
  g16 := by kernel_rfl
  g17 := by kernel_rfl
  g18 := by kernel_rfl
  g19 := by kernel_rfl
  t80 := Tryz.underlying64
  a80 := Tryz.isAgg64
  z80 := Tryz.sizeOf64
  v80 := Tryz.zeroValue64
  i0 := by kernel_rfl
  i2 := by kernel_rfl
  i3 := by kernel_rfl
  i4 := by kernel_rfl
  i5 := by kernel_rfl
  i9 := by kernel_rfl
  i20 := by kernel_rfl
  i21 := by kernel_rfl
  i37 := by kernel_rfl
  i46 := by kernel_rfl
  i51 := by kernel_rfl
  i53 := by kernel_rfl
  i75 := by kernel_rfl
  i76 := by kernel_rfl
  i80 := by kernel_rfl
  i85 := by kernel_rfl
  i127 := by kernel_rfl
  i143 := by kernel_rfl
  i145 := by kernel_rfl
  i167 := by kernel_rfl
  i168 := by kernel_rfl
  i171 := by kernel_rfl
  i173 := by kernel_rfl
  i175 := by kernel_rfl
  i210 := by kernel_rfl
  i212 := by kernel_rfl
  i232 := by kernel_rfl
  i233 := by kernel_rfl
  m15 := by kernel_rfl
  m16 := by kernel_rfl
  m17 := by kernel_rfl
  m18 := by kernel_rfl
  m19 := by kernel_rfl
  c0 := by kernel_rfl
  c2 := by kernel_rfl
  c3 := by kernel_rfl
  c4 := by kernel_rfl
  c5 := by kernel_rfl
  c9 := by kernel_rfl
  c20 := by kernel_rfl
  c21 := by kernel_rfl
  c37 := by kernel_rfl
  c46 := by kernel_rfl
  c51 := by kernel_rfl
  c53 := by kernel_rfl
  c75 := by kernel_rfl
  c76 := by kernel_rfl
  c80 := by kernel_rfl
  c85 := by kernel_rfl
  c127 := by kernel_rfl
  c143 := by kernel_rfl
  c145 := by kernel_rfl
  c167 := by kernel_rfl
  c168 := by kernel_rfl
  c171 := by kernel_rfl
  c173 := by kernel_rfl
  c175 := by kernel_rfl
  c210 := by kernel_rfl
  c212 := by kernel_rfl
  c213 := by kernel_rfl
  c232 := by kernel_rfl
  c233 := by kernel_rfl }
open Go.RowKit in
/-- strconv.Atoi, AT EVERY STRING THAT SPELLS AN int ('Lib.atoiAll .. = .ok v'; of whatever length: leading zeros count): v, AND NO ERROR. The world: as it was, or with the one new row that '[]byte(..)' lays. (LAID: no walk: one application.) -/
theorem Tryz.strconv_Atoi_ok (s : ByteArray) (hmax : s.size ≤ 9223372036854775806) (v : Int) (h : Lib.atoiAll s.data.toList = .ok v) (w : World) :
    Calls Tryz.prog 51 #[.string s] w fun e w' => e = .returned (.tuple #[.int .i64 v, .nilIface]) ∧ (w' = w ∨ ∃ t, w' = Lib.bytesWorld w 5 t) := Any.strconv_Atoi_ok Tryz.laysC172 s hmax v h w
open Go.RowKit in
/-- strconv.Atoi, AT EVERY NUMERAL THAT NO int HOLDS ('.range'): THE GREATEST OR THE LEAST int, BY THE SIGN ('Lib.atoiSat'), AND AN ERROR THAT IS NOT nil: a *NumError in a new block N: {Func: "Atoi", Num: s's bytes, Err: what the variable ErrRange holds}. Of what was there nothing has turned. (LAID: no walk: one application.) -/
theorem Tryz.strconv_Atoi_range (s : ByteArray) (hlim : s.size ≤ 281474976710656) (h : Lib.atoiAll s.data.toList = .range) (ev : Value) (w : World) (hv : w.cell? ⟨9, 0, none⟩ = some ev) (hev : ev = .nilIface ∨ ∃ te pe, ev = .iface te pe) :
    Calls Tryz.prog 51 #[.string s] w fun e w' => ∃ N, e = .returned (.tuple #[.int .i64 (Lib.atoiSat s.data.toList), .iface 181 (.pointer (some ⟨N, 0, none⟩))]) ∧ w.heap.size ≤ N ∧ w'.heap[N]? = some (.cells #[.string ⟨#[65, 116, 111, 105]⟩, .string s, ev] 197 (0, 0)) ∧ Below w.heap.size w w' := Any.strconv_Atoi_range Tryz.laysC172 s hlim h ev w hv hev
def Tryz.laysPu14_ren : Go.Shelf.Ren := ⟨fun | 14 => 83 | 16 => 104 | 17 => 71 | 19 => 114 | 20 => 115 | 21 => 93 | 22 => 94 | 23 => 95 | 24 => 96 | 25 => 109 | 27 => 110 | 26 => 37 | 28 => 119 | 29 => 133 | 30 => 148 | 31 => 149 | 32 => 150 | 33 => 151 | 35 => 137 | 34 => 156 | 36 => 141 | 37 => 157 | 38 => 158 | 39 => 161 | 40 => 162 | n => n, fun | 9 => 9 | 3 => 3 | 22 => 42 | 24 => 51 | 25 => 141 | 4 => 4 | 34 => 179 | 5 => 5 | 36 => 37 | 37 => 55 | 0 => 0 | 39 => 181 | 21 => 21 | 44 => 197 | 47 => 175 | 50 => 136 | 48 => 134 | 2 => 2 | 52 => 256 | 55 => 258 | 59 => 267 | 60 => 23 | 20 => 20 | 61 => 268 | 65 => 277 | 66 => 278 | 67 => 64 | n => n, fun | 0 => 8 | 1 => 9 | 2 => 19 | 3 => 21 | 4 => 22 | n => n⟩
theorem Tryz.laysPu14 : Go.Proofs.LaysPu.n14 Tryz.prog Tryz.laysPu14_ren := {
  mixed := by kernel_rfl
  f14 := Tryz.func83.trans (congrArg some (by kernel_rfl))
  f16 := Tryz.func104.trans (congrArg some (by kernel_rfl))
  f17 := Tryz.func71.trans (congrArg some (by kernel_rfl))
  f19 := Tryz.func114.trans (congrArg some (by kernel_rfl))
  f20 := Tryz.func115.trans (congrArg some (by kernel_rfl))
  f21 := Tryz.func93.trans (congrArg some (by kernel_rfl))
  f22 := Tryz.func94.trans (congrArg some (by kernel_rfl))
  f23 := Tryz.func95.trans (congrArg some (by kernel_rfl))
  f24 := Tryz.func96.trans (congrArg some (by kernel_rfl))
  f25 := Tryz.func109.trans (congrArg some (by kernel_rfl))
  f26 := Tryz.func37.trans (congrArg some (by kernel_rfl))
  f27 := Tryz.func110.trans (congrArg some (by kernel_rfl))
  f28 := Tryz.func119.trans (congrArg some (by kernel_rfl))
  f29 := Tryz.func133.trans (congrArg some (by kernel_rfl))
  f30 := Tryz.func148.trans (congrArg some (by kernel_rfl))
  f31 := Tryz.func149.trans (congrArg some (by kernel_rfl))
  f32 := Tryz.func150.trans (congrArg some (by kernel_rfl))
  f33 := Tryz.func151.trans (congrArg some (by kernel_rfl))
  f34 := Tryz.func156.trans (congrArg some (by kernel_rfl))
  f35 := Tryz.func137.trans (congrArg some (by kernel_rfl))
  f36 := Tryz.func141.trans (congrArg some (by kernel_rfl))
  f37 := Tryz.func157.trans (congrArg some (by kernel_rfl))
  f38 := Tryz.func158.trans (congrArg some (by kernel_rfl))
  f39 := Tryz.func161.trans (congrArg some (by kernel_rfl))
  f40 := Tryz.func162.trans (congrArg some (by kernel_rfl))
  t0 := Tryz.underlying0
  a0 := Tryz.isAgg0
  z0 := Tryz.sizeOf0
  v0 := Tryz.zeroValue0
  i0 := by kernel_rfl
  t2 := Tryz.underlying2
  a2 := Tryz.isAgg2
  z2 := Tryz.sizeOf2
  v2 := Tryz.zeroValue2
  i2 := by kernel_rfl
  t3 := Tryz.underlying3
  a3 := Tryz.isAgg3
  z3 := Tryz.sizeOf3
  v3 := Tryz.zeroValue3
  i3 := by kernel_rfl
  t4 := Tryz.underlying4
  a4 := Tryz.isAgg4
  z4 := Tryz.sizeOf4
  v4 := Tryz.zeroValue4
  i4 := by kernel_rfl
  t5 := Tryz.underlying5
  a5 := Tryz.isAgg5
  z5 := Tryz.sizeOf5
  v5 := Tryz.zeroValue5
  i5 := by kernel_rfl
  t9 := Tryz.underlying9
  a9 := Tryz.isAgg9
  z9 := Tryz.sizeOf9
  v9 := Tryz.zeroValue9
  i9 := by kernel_rfl
  t20 := Tryz.underlying20
  a20 := Tryz.isAgg20
  z20 := Tryz.sizeOf20
  v20 := Tryz.zeroValue20
  i20 := by kernel_rfl
  t21 := Tryz.underlying21
  a21 := Tryz.isAgg21
  z21 := Tryz.sizeOf21
  v21 := Tryz.zeroValue21
  i21 := by kernel_rfl
  t22 := Tryz.underlying42
  a22 := Tryz.isAgg42
  z22 := Tryz.sizeOf42
  v22 := Tryz.zeroValue42
  i22 := by kernel_rfl
  t24 := Tryz.underlying51
  a24 := Tryz.isAgg51
  z24 := Tryz.sizeOf51
  v24 := Tryz.zeroValue51
  i24 := by kernel_rfl
  t25 := Tryz.underlying141
  a25 := Tryz.isAgg141
  z25 := Tryz.sizeOf141
  v25 := Tryz.zeroValue141
  i25 := by kernel_rfl
  t34 := Tryz.underlying179
  a34 := Tryz.isAgg179
  z34 := Tryz.sizeOf179
  v34 := Tryz.zeroValue179
  i34 := by kernel_rfl
  c34 := by kernel_rfl
  t36 := Tryz.underlying37
  a36 := Tryz.isAgg37
  z36 := Tryz.sizeOf37
  v36 := Tryz.zeroValue37
  i36 := by kernel_rfl
  t37 := Tryz.underlying55
  a37 := Tryz.isAgg55
  z37 := Tryz.sizeOf55
  v37 := Tryz.zeroValue55
  i37 := by kernel_rfl
  t39 := Tryz.underlying181
  a39 := Tryz.isAgg181
  z39 := Tryz.sizeOf181
  v39 := Tryz.zeroValue181
  i39 := by kernel_rfl
  t44 := Tryz.underlying197
  a44 := Tryz.isAgg197
  z44 := Tryz.sizeOf197
  v44 := Tryz.zeroValue197
  i44 := by kernel_rfl
  t47 := Tryz.underlying175
  a47 := Tryz.isAgg175
  z47 := Tryz.sizeOf175
  v47 := Tryz.zeroValue175
  i47 := by kernel_rfl
  t48 := Tryz.underlying134
  a48 := Tryz.isAgg134
  z48 := Tryz.sizeOf134
  v48 := Tryz.zeroValue134
  i48 := by kernel_rfl
  t50 := Tryz.underlying136
  a50 := Tryz.isAgg136
  z50 := Tryz.sizeOf136
  v50 := Tryz.zeroValue136
  i50 := by kernel_rfl
  t52 := Tryz.underlying256
  a52 := Tryz.isAgg256
  z52 := Tryz.sizeOf256
  v52 := Tryz.zeroValue256
  i52 := by kernel_rfl
  t55 := Tryz.underlying258
  a55 := Tryz.isAgg258
  z55 := Tryz.sizeOf258
  v55 := Tryz.zeroValue258
  i55 := by kernel_rfl
  t59 := Tryz.underlying267
  a59 := Tryz.isAgg267
  z59 := Tryz.sizeOf267
  v59 := Tryz.zeroValue267
  i59 := by kernel_rfl
  t60 := Tryz.underlying23
  a60 := Tryz.isAgg23
  z60 := Tryz.sizeOf23
  v60 := Tryz.zeroValue23
  i60 := by kernel_rfl
  t61 := Tryz.underlying268
  a61 := Tryz.isAgg268
  z61 := Tryz.sizeOf268
  t65 := Tryz.underlying277
  a65 := Tryz.isAgg277
  z65 := Tryz.sizeOf277
  v65 := Tryz.zeroValue277
  i65 := by kernel_rfl
  t66 := Tryz.underlying278
  a66 := Tryz.isAgg278
  z66 := Tryz.sizeOf278
  v66 := Tryz.zeroValue278
  i66 := by kernel_rfl
  t67 := Tryz.underlying64
  a67 := Tryz.isAgg64
  z67 := Tryz.sizeOf64
  v67 := Tryz.zeroValue64
  i67 := by kernel_rfl
  g0 := by kernel_rfl
  m0 := by kernel_rfl
  g1 := by kernel_rfl
  m1 := by kernel_rfl
  g2 := by kernel_rfl
  m2 := by kernel_rfl
  g3 := by kernel_rfl
  m3 := by kernel_rfl
  g4 := by kernel_rfl
  m4 := by kernel_rfl }
open Go.RowKit in
/-- strconv.ParseUint(s, 10, 0), AT EVERY STRING THAT SPELLS A uint64 ('Lib.parseUintB 64 s.data.toList = .ok u'): u, AND NO ERROR. (LAID: no walk: one application.) -/
theorem Tryz.strconv_ParseUint_10_at0_ok (s : ByteArray) (hmax : s.size ≤ 9223372036854775806) (u : Nat) (h : Lib.parseUintB 64 s.data.toList = .ok u) (w : World) :
    Calls Tryz.prog 83 #[.string s, .int .i64 10, .int .i64 0] w fun e w' => e = .returned (.tuple #[.int .u64 u, .nilIface]) ∧ (w' = w ∨ w' = Lib.bytesWorld w 5 s) := Any.strconv_ParseUint_10_at0_ok Tryz.laysPu14 s hmax u h w
open Go.RowKit in
/-- strconv.ParseUint(s, 10, 0), AT EVERY NUMERAL THAT NO uint64 HOLDS: THE GREATEST uint64, AND AN ERROR THAT IS NOT nil: a *NumError in a new block N: {Func: "ParseUint", Num: s's bytes, Err: what the variable ErrRange holds}. Of what was there nothing has turned. (LAID: no walk: one application.) -/
theorem Tryz.strconv_ParseUint_10_at0_range (s : ByteArray) (hlim : s.size ≤ 281474976710656) (h : Lib.parseUintB 64 s.data.toList = .range) (ev : Value) (w : World) (hv : w.cell? ⟨9, 0, none⟩ = some ev) (hev : ev = .nilIface ∨ ∃ te pe, ev = .iface te pe) :
    Calls Tryz.prog 83 #[.string s, .int .i64 10, .int .i64 0] w fun e w' => ∃ N, e = .returned (.tuple #[.int .u64 18446744073709551615, .iface 181 (.pointer (some ⟨N, 0, none⟩))]) ∧ w.heap.size ≤ N ∧ w'.heap[N]? = some (.cells #[.string ⟨#[80, 97, 114, 115, 101, 85, 105, 110, 116]⟩, .string s, ev] 197 (0, 0)) ∧ Below w.heap.size w w' := Any.strconv_ParseUint_10_at0_range Tryz.laysPu14 s hlim h ev w hv hev
open Go.RowKit in
/-- strconv.ParseUint(s, 10, 64), AT EVERY STRING THAT SPELLS A uint64 ('Lib.parseUintB 64 s.data.toList = .ok u'): u, AND NO ERROR. (LAID: no walk: one application.) -/
theorem Tryz.strconv_ParseUint_10_at64_ok (s : ByteArray) (hmax : s.size ≤ 9223372036854775806) (u : Nat) (h : Lib.parseUintB 64 s.data.toList = .ok u) (w : World) :
    Calls Tryz.prog 83 #[.string s, .int .i64 10, .int .i64 64] w fun e w' => e = .returned (.tuple #[.int .u64 u, .nilIface]) ∧ (w' = w ∨ w' = Lib.bytesWorld w 5 s) := Any.strconv_ParseUint_10_at64_ok Tryz.laysPu14 s hmax u h w
open Go.RowKit in
/-- strconv.ParseUint(s, 10, 64), AT EVERY NUMERAL THAT NO uint64 HOLDS: THE GREATEST uint64, AND AN ERROR THAT IS NOT nil: a *NumError in a new block N: {Func: "ParseUint", Num: s's bytes, Err: what the variable ErrRange holds}. Of what was there nothing has turned. (LAID: no walk: one application.) -/
theorem Tryz.strconv_ParseUint_10_at64_range (s : ByteArray) (hlim : s.size ≤ 281474976710656) (h : Lib.parseUintB 64 s.data.toList = .range) (ev : Value) (w : World) (hv : w.cell? ⟨9, 0, none⟩ = some ev) (hev : ev = .nilIface ∨ ∃ te pe, ev = .iface te pe) :
    Calls Tryz.prog 83 #[.string s, .int .i64 10, .int .i64 64] w fun e w' => ∃ N, e = .returned (.tuple #[.int .u64 18446744073709551615, .iface 181 (.pointer (some ⟨N, 0, none⟩))]) ∧ w.heap.size ≤ N ∧ w'.heap[N]? = some (.cells #[.string ⟨#[80, 97, 114, 115, 101, 85, 105, 110, 116]⟩, .string s, ev] 197 (0, 0)) ∧ Below w.heap.size w w' := Any.strconv_ParseUint_10_at64_range Tryz.laysPu14 s hlim h ev w hv hev
open Go.RowKit in
/-- strconv.ParseUint(s, 10, 32), AT EVERY STRING THAT SPELLS A uint32 ('Lib.parseUintB 32 s.data.toList = .ok u'): u, AND NO ERROR. (LAID: no walk: one application.) -/
theorem Tryz.strconv_ParseUint_10_at32_ok (s : ByteArray) (hmax : s.size ≤ 9223372036854775806) (u : Nat) (h : Lib.parseUintB 32 s.data.toList = .ok u) (w : World) :
    Calls Tryz.prog 83 #[.string s, .int .i64 10, .int .i64 32] w fun e w' => e = .returned (.tuple #[.int .u64 u, .nilIface]) ∧ (w' = w ∨ w' = Lib.bytesWorld w 5 s) := Any.strconv_ParseUint_10_at32_ok Tryz.laysPu14 s hmax u h w
open Go.RowKit in
/-- strconv.ParseUint(s, 10, 32), AT EVERY NUMERAL THAT NO uint32 HOLDS: THE GREATEST uint32, AND AN ERROR THAT IS NOT nil: a *NumError in a new block N: {Func: "ParseUint", Num: s's bytes, Err: what the variable ErrRange holds}. Of what was there nothing has turned. (LAID: no walk: one application.) -/
theorem Tryz.strconv_ParseUint_10_at32_range (s : ByteArray) (hlim : s.size ≤ 281474976710656) (h : Lib.parseUintB 32 s.data.toList = .range) (ev : Value) (w : World) (hv : w.cell? ⟨9, 0, none⟩ = some ev) (hev : ev = .nilIface ∨ ∃ te pe, ev = .iface te pe) :
    Calls Tryz.prog 83 #[.string s, .int .i64 10, .int .i64 32] w fun e w' => ∃ N, e = .returned (.tuple #[.int .u64 4294967295, .iface 181 (.pointer (some ⟨N, 0, none⟩))]) ∧ w.heap.size ≤ N ∧ w'.heap[N]? = some (.cells #[.string ⟨#[80, 97, 114, 115, 101, 85, 105, 110, 116]⟩, .string s, ev] 197 (0, 0)) ∧ Below w.heap.size w w' := Any.strconv_ParseUint_10_at32_range Tryz.laysPu14 s hlim h ev w hv hev
open Go.RowKit in
/-- strconv.ParseUint(s, 10, 16), AT EVERY STRING THAT SPELLS A uint16 ('Lib.parseUintB 16 s.data.toList = .ok u'): u, AND NO ERROR. (LAID: no walk: one application.) -/
theorem Tryz.strconv_ParseUint_10_at16_ok (s : ByteArray) (hmax : s.size ≤ 9223372036854775806) (u : Nat) (h : Lib.parseUintB 16 s.data.toList = .ok u) (w : World) :
    Calls Tryz.prog 83 #[.string s, .int .i64 10, .int .i64 16] w fun e w' => e = .returned (.tuple #[.int .u64 u, .nilIface]) ∧ (w' = w ∨ w' = Lib.bytesWorld w 5 s) := Any.strconv_ParseUint_10_at16_ok Tryz.laysPu14 s hmax u h w
open Go.RowKit in
/-- strconv.ParseUint(s, 10, 16), AT EVERY NUMERAL THAT NO uint16 HOLDS: THE GREATEST uint16, AND AN ERROR THAT IS NOT nil: a *NumError in a new block N: {Func: "ParseUint", Num: s's bytes, Err: what the variable ErrRange holds}. Of what was there nothing has turned. (LAID: no walk: one application.) -/
theorem Tryz.strconv_ParseUint_10_at16_range (s : ByteArray) (hlim : s.size ≤ 281474976710656) (h : Lib.parseUintB 16 s.data.toList = .range) (ev : Value) (w : World) (hv : w.cell? ⟨9, 0, none⟩ = some ev) (hev : ev = .nilIface ∨ ∃ te pe, ev = .iface te pe) :
    Calls Tryz.prog 83 #[.string s, .int .i64 10, .int .i64 16] w fun e w' => ∃ N, e = .returned (.tuple #[.int .u64 65535, .iface 181 (.pointer (some ⟨N, 0, none⟩))]) ∧ w.heap.size ≤ N ∧ w'.heap[N]? = some (.cells #[.string ⟨#[80, 97, 114, 115, 101, 85, 105, 110, 116]⟩, .string s, ev] 197 (0, 0)) ∧ Below w.heap.size w w' := Any.strconv_ParseUint_10_at16_range Tryz.laysPu14 s hlim h ev w hv hev
open Go.RowKit in
/-- strconv.ParseUint(s, 10, 8), AT EVERY STRING THAT SPELLS A uint8 ('Lib.parseUintB 8 s.data.toList = .ok u'): u, AND NO ERROR. (LAID: no walk: one application.) -/
theorem Tryz.strconv_ParseUint_10_at8_ok (s : ByteArray) (hmax : s.size ≤ 9223372036854775806) (u : Nat) (h : Lib.parseUintB 8 s.data.toList = .ok u) (w : World) :
    Calls Tryz.prog 83 #[.string s, .int .i64 10, .int .i64 8] w fun e w' => e = .returned (.tuple #[.int .u64 u, .nilIface]) ∧ (w' = w ∨ w' = Lib.bytesWorld w 5 s) := Any.strconv_ParseUint_10_at8_ok Tryz.laysPu14 s hmax u h w
open Go.RowKit in
/-- strconv.ParseUint(s, 10, 8), AT EVERY NUMERAL THAT NO uint8 HOLDS: THE GREATEST uint8, AND AN ERROR THAT IS NOT nil: a *NumError in a new block N: {Func: "ParseUint", Num: s's bytes, Err: what the variable ErrRange holds}. Of what was there nothing has turned. (LAID: no walk: one application.) -/
theorem Tryz.strconv_ParseUint_10_at8_range (s : ByteArray) (hlim : s.size ≤ 281474976710656) (h : Lib.parseUintB 8 s.data.toList = .range) (ev : Value) (w : World) (hv : w.cell? ⟨9, 0, none⟩ = some ev) (hev : ev = .nilIface ∨ ∃ te pe, ev = .iface te pe) :
    Calls Tryz.prog 83 #[.string s, .int .i64 10, .int .i64 8] w fun e w' => ∃ N, e = .returned (.tuple #[.int .u64 255, .iface 181 (.pointer (some ⟨N, 0, none⟩))]) ∧ w.heap.size ≤ N ∧ w'.heap[N]? = some (.cells #[.string ⟨#[80, 97, 114, 115, 101, 85, 105, 110, 116]⟩, .string s, ev] 197 (0, 0)) ∧ Below w.heap.size w w' := Any.strconv_ParseUint_10_at8_range Tryz.laysPu14 s hlim h ev w hv hev
def Tryz.laysM252_ren : Go.Shelf.Ren := ⟨fun | 252 => 33 | 181 => 40 | 184 => 41 | 251 => 42 | 290 => 43 | 324 => 56 | n => n, fun | 130 => 80 | 3 => 3 | 4 => 4 | 0 => 0 | 93 => 75 | 131 => 120 | 37 => 55 | 75 => 51 | 91 => 73 | 20 => 20 | 5 => 5 | 80 => 64 | 9 => 9 | n => n, fun | 14 => 3 | n => n⟩
theorem Tryz.laysM252 : Go.Proofs.LaysM.n252 Tryz.prog Tryz.laysM252_ren := {
  mixed := by kernel_rfl
  f181 := Tryz.func40.trans (congrArg some (by kernel_rfl))
  f184 := Tryz.func41.trans (congrArg some (by kernel_rfl))
  f251 := Tryz.func42.trans (congrArg some (by kernel_rfl))
  f252 := Tryz.func33.trans (congrArg some (by kernel_rfl))
  f290 := Tryz.func43.trans (congrArg some (by kernel_rfl))
  f324 := Tryz.func56.trans (congrArg some (by kernel_rfl))
  t0 := Tryz.underlying0
  a0 := Tryz.isAgg0
  z0 := Tryz.sizeOf0
  v0 := Tryz.zeroValue0
  t3 := Tryz.underlying3
  a3 := Tryz.isAgg3
  z3 := Tryz.sizeOf3
  v3 := Tryz.zeroValue3
  t4 := Tryz.underlying4
  a4 := Tryz.isAgg4
  z4 := Tryz.sizeOf4
  v4 := Tryz.zeroValue4
  t20 := Tryz.underlying20
  a20 := Tryz.isAgg20
  z20 := Tryz.sizeOf20
  v20 := Tryz.zeroValue20
  t37 := Tryz.underlying55
  a37 := Tryz.isAgg55
  z37 := Tryz.sizeOf55
  v37 := Tryz.zeroValue55
  t75 := Tryz.underlying51
  a75 := Tryz.isAgg51
  z75 := Tryz.sizeOf51
  v75 := Tryz.zeroValue51
  t91 := Tryz.underlying73
  a91 := Tryz.isAgg73
  z91 := Tryz.sizeOf73
  v91 := Tryz.zeroValue73
  t93 := Tryz.underlying75
  a93 := Tryz.isAgg75
  z93 := Tryz.sizeOf75
  v93 := Tryz.zeroValue75
  t130 := Tryz.underlying80
  a130 := Tryz.isAgg80
  z130 := Tryz.sizeOf80
  v130 := Tryz.zeroValue80
  t131 := Tryz.underlying120
  a131 := Tryz.isAgg120
  z131 := Tryz.sizeOf120
  v131 := Tryz.zeroValue120
  g14 := by kernel_rfl
  t5 := Tryz.underlying5
  a5 := Tryz.isAgg5
  z5 := Tryz.sizeOf5
  v5 := Tryz.zeroValue5
  t9 := Tryz.underlying9
  a9 := Tryz.isAgg9
  z9 := Tryz.sizeOf9
  v9 := Tryz.zeroValue9
  t80 := Tryz.underlying64
  a80 := Tryz.isAgg64
  z80 := Tryz.sizeOf64
  v80 := Tryz.zeroValue64
  i0 := by kernel_rfl
  i3 := by kernel_rfl
  i4 := by kernel_rfl
  i5 := by kernel_rfl
  i9 := by kernel_rfl
  i20 := by kernel_rfl
  i37 := by kernel_rfl
  i75 := by kernel_rfl
  i80 := by kernel_rfl
  i91 := by kernel_rfl
  i93 := by kernel_rfl
  i130 := by kernel_rfl
  i131 := by kernel_rfl
  m14 := by kernel_rfl }
open Go.RowKit in
/-- grow, WHERE THE BUFFER HOLDS A ROW, NO BYTE IN IT (behind a Reset), AND THE ROW HAS NO ROOM: growSlice. (THE TEXT OF 'Buffer_grow_row' WITH 0 FOR l, BY PROGRAM: the walk parts on 'm == 0' and writes 0 for l throughout the goal: facts that still say l then do not strike: so l is laid in ahead of the walk.) (LAID: no walk: one application.) -/
theorem Tryz.Buffer_grow_row0_own (B b g cap n : Nat) (lr : Int) (cur : Array Value) (bs : List Value) (w : World) (hB : B ≤ b) (hBw : B ≤ w.heap.size) (hbk : w.heap[b]? = some (.cells #[.slice (some ⟨g, 0, none⟩) 0 cap, .int .i64 0, .int .i8 lr] 75 (0, 0))) (hl : bs.length = 0) (hBg : B ≤ g) (hg : w.heap[g]? = some (.cells cur 5 (0, 0))) (hlc : 0 ≤ cap) (hcm : cap ≤ maxLen) (hcs : cur.size = cap) (htake : cur.toList.take 0 = bs) (hgb : g ≠ b) (h1 : ∀ v ∈ bs, v.oneCell' = true) (hn : 1 ≤ n) (hroom : cap - 0 < n) (hlim : 0 + n ≤ 140737488355328) :
    Calls Tryz.prog 33 #[.pointer (some ⟨b, 0, none⟩), .int .i64 n] w fun e w' => e = .returned (.int .i64 0) ∧ ∃ xs, xs.length = n ∧ Lib.IsBuffer 75 5 B b (bs ++ xs) w' ∧ Below B w w' ∧ Lib.OthersKept 5 (some b) w w' ∧ w.grownBy w' (some b) := Any.Buffer_grow_row0_own Tryz.laysM252 B b g cap n lr cur bs w hB hBw hbk hl hBg hg hlc hcm hcs htake hgb h1 hn hroom hlim
open Go.RowKit in
/-- grow, WHERE THE BUFFER HOLDS A ROW THAT HAS NO ROOM: growSlice. (LAID: no walk: one application.) -/
theorem Tryz.Buffer_grow_row_own (B b g l cap n : Nat) (lr : Int) (cur : Array Value) (bs : List Value) (w : World) (hB : B ≤ b) (hBw : B ≤ w.heap.size) (hbk : w.heap[b]? = some (.cells #[.slice (some ⟨g, 0, none⟩) l cap, .int .i64 0, .int .i8 lr] 75 (0, 0))) (hl : bs.length = l) (hBg : B ≤ g) (hg : w.heap[g]? = some (.cells cur 5 (0, 0))) (hlc : l ≤ cap) (hcm : cap ≤ maxLen) (hcs : cur.size = cap) (htake : cur.toList.take l = bs) (hgb : g ≠ b) (h1 : ∀ v ∈ bs, v.oneCell' = true) (hn : 1 ≤ n) (hroom : cap - l < n) (hlim : l + n ≤ 140737488355328) :
    Calls Tryz.prog 33 #[.pointer (some ⟨b, 0, none⟩), .int .i64 n] w fun e w' => e = .returned (.int .i64 l) ∧ ∃ xs, xs.length = n ∧ Lib.IsBuffer 75 5 B b (bs ++ xs) w' ∧ Below B w w' ∧ Lib.OthersKept 5 (some b) w w' ∧ w.grownBy w' (some b) := Any.Buffer_grow_row_own Tryz.laysM252 B b g l cap n lr cur bs w hB hBw hbk hl hBg hg hlc hcm hcs htake hgb h1 hn hroom hlim
open Go.RowKit in
/-- grow, 'buf' nil, n AT MOST 64: 'b.buf = make([]byte, n, smallBufferSize)'. (LAID: no walk: one application.) -/
theorem Tryz.Buffer_grow_nil_small_own (B b n : Nat) (lr : Int) (w : World) (hB : B ≤ b) (hBw : B ≤ w.heap.size) (hbk : w.heap[b]? = some (.cells #[.slice none 0 0, .int .i64 0, .int .i8 lr] 75 (0, 0))) (hn : 1 ≤ n) (h64 : n ≤ 64) :
    Calls Tryz.prog 33 #[.pointer (some ⟨b, 0, none⟩), .int .i64 n] w fun e w' => e = .returned (.int .i64 0) ∧ ∃ xs, xs.length = n ∧ Lib.IsBuffer 75 5 B b xs w' ∧ Below B w w' ∧ Lib.OthersKept 5 (some b) w w' ∧ w.grownBy w' (some b) := Any.Buffer_grow_nil_small_own Tryz.laysM252 B b n lr w hB hBw hbk hn h64
open Go.RowKit in
/-- grow, 'buf' nil, n ABOVE 64: growSlice of the nil slice. (LAID: no walk: one application.) -/
theorem Tryz.Buffer_grow_nil_big_own (B b n : Nat) (lr : Int) (w : World) (hB : B ≤ b) (hBw : B ≤ w.heap.size) (hbk : w.heap[b]? = some (.cells #[.slice none 0 0, .int .i64 0, .int .i8 lr] 75 (0, 0))) (h64 : 64 < n) (hlim : n ≤ 140737488355328) :
    Calls Tryz.prog 33 #[.pointer (some ⟨b, 0, none⟩), .int .i64 n] w fun e w' => e = .returned (.int .i64 0) ∧ ∃ xs, xs.length = n ∧ Lib.IsBuffer 75 5 B b xs w' ∧ Below B w w' ∧ Lib.OthersKept 5 (some b) w w' ∧ w.grownBy w' (some b) := Any.Buffer_grow_nil_big_own Tryz.laysM252 B b n lr w hB hBw hbk h64 hlim
open Go.RowKit in
/-- tryGrowByReslice: EITHER there is room: the place to write at is the old length, and the buffer holds the old bytes and n more of whatever lay there; OR there is none: nothing turns, and 'Lib.NoRoom' is what grow asks. (LAID: no walk: one application.) -/
theorem Tryz.Buffer_tryGrow_own (B b n : Nat) (bs : List Value) (w : World) (h : Lib.IsBuffer 75 5 B b bs w) :
    Calls Tryz.prog 42 #[.pointer (some ⟨b, 0, none⟩), .int .i64 n] w fun e w' =>
      (e = .returned (.tuple #[.int .i64 bs.length, .bool true]) ∧ ∃ xs, xs.length = n ∧ Lib.IsBuffer 75 5 B b (bs ++ xs) w' ∧ Below B w w' ∧ Lib.OthersKept 5 (some b) w w' ∧ w.grownBy w' (some b)) ∨
      (e = .returned (.tuple #[.int .i64 0, .bool false]) ∧ w' = w ∧ Lib.NoRoom b n w) := Any.Buffer_tryGrow_own Tryz.laysM251 B b n bs w h
open Go.RowKit in
/-- (*bytes.Buffer).grow: "grow grows the buffer to guarantee space for n more bytes. It returns the index where bytes should be written.": WHERE THERE IS NO ROOM; UNDER Go's OWN LIMIT (the new length takes at most 2^47 bytes): the old length; the buffer holds the old bytes and n more of whatever. (LAID: no walk: one application.) -/
theorem Tryz.Buffer_grow_own (B b n : Nat) (bs : List Value) (w : World) (h : Lib.IsBuffer 75 5 B b bs w) (hnr : Lib.NoRoom b n w) (hBw : B ≤ w.heap.size) (h1 : ∀ v ∈ bs, v.oneCell' = true) (hlim : bs.length + n ≤ 140737488355328) :
    Calls Tryz.prog 33 #[.pointer (some ⟨b, 0, none⟩), .int .i64 n] w fun e w' => e = .returned (.int .i64 bs.length) ∧ ∃ xs, xs.length = n ∧ Lib.IsBuffer 75 5 B b (bs ++ xs) w' ∧ Below B w w' ∧ Lib.OthersKept 5 (some b) w w' ∧ w.grownBy w' (some b) := Any.Buffer_grow_own Tryz.laysM252 B b n bs w h hnr hBw h1 hlim
def Tryz.lays206_ren : Go.Shelf.Ren := ⟨fun | 206 => 60 | n => n, fun | 9 => 9 | 4 => 4 | 3 => 3 | n => n, fun | n => n⟩
theorem Tryz.lays206 : Go.Proofs.Lays.n206 Tryz.prog Tryz.lays206_ren := {
  mixed := by kernel_rfl
  f206 := Tryz.func60.trans (congrArg some (by kernel_rfl))
  t3 := Tryz.underlying3
  a3 := Tryz.isAgg3
  z3 := Tryz.sizeOf3
  v3 := Tryz.zeroValue3
  t4 := Tryz.underlying4
  a4 := Tryz.isAgg4
  z4 := Tryz.sizeOf4
  v4 := Tryz.zeroValue4
  t9 := Tryz.underlying9
  a9 := Tryz.isAgg9
  z9 := Tryz.sizeOf9
  v9 := Tryz.zeroValue9 }
open Go.RowKit Go.Lib in
/-- internal/stringslite.HasPrefix (what strings.HasPrefix calls). (LAID: no walk: one application.) -/
theorem Tryz.stringslite_HasPrefix (s p : ByteArray) (w : World) :
    Calls Tryz.prog 60 #[.string s, .string p] w fun e w' => e = .returned (.bool (Lib.hasPrefix s.data.toList p.data.toList)) ∧ w' = w := Any.stringslite_HasPrefix Tryz.lays206 s p w
def Tryz.lays99_ren : Go.Shelf.Ren := ⟨fun | 99 => 46 | 206 => 60 | n => n, fun | 9 => 9 | 4 => 4 | 3 => 3 | n => n, fun | n => n⟩
theorem Tryz.lays99 : Go.Proofs.Lays.n99 Tryz.prog Tryz.lays99_ren := {
  mixed := by kernel_rfl
  f99 := Tryz.func46.trans (congrArg some (by kernel_rfl))
  f206 := Tryz.func60.trans (congrArg some (by kernel_rfl))
  t3 := Tryz.underlying3
  a3 := Tryz.isAgg3
  z3 := Tryz.sizeOf3
  v3 := Tryz.zeroValue3
  t4 := Tryz.underlying4
  a4 := Tryz.isAgg4
  z4 := Tryz.sizeOf4
  v4 := Tryz.zeroValue4
  t9 := Tryz.underlying9
  a9 := Tryz.isAgg9
  z9 := Tryz.sizeOf9
  v9 := Tryz.zeroValue9 }
open Go.RowKit Go.Lib in
/-- strings.HasPrefix: "HasPrefix reports whether the string s begins with prefix.": IT RETURNS 'Lib.hasPrefix s prefix'; the world is as it was. (LAID: no walk: one application.) -/
theorem Tryz.strings_HasPrefix (s p : ByteArray) (w : World) :
    Calls Tryz.prog 46 #[.string s, .string p] w fun e w' => e = .returned (.bool (Lib.hasPrefix s.data.toList p.data.toList)) ∧ w' = w := Any.strings_HasPrefix Tryz.lays99 s p w
def Tryz.lays199_ren : Go.Shelf.Ren := ⟨fun | 199 => 39 | 261 => 55 | 311 => 76 | 312 => 77 | n => n, fun | 21 => 21 | 4 => 4 | 51 => 23 | 141 => 138 | 0 => 0 | 196 => 160 | 193 => 157 | 3 => 3 | 198 => 163 | 49 => 161 | 194 => 158 | 201 => 166 | 226 => 186 | 46 => 37 | 227 => 187 | n => n, fun | 6 => 4 | n => n⟩
theorem Tryz.lays199 : Go.Proofs.Lays.n199 Tryz.prog Tryz.lays199_ren := {
  mixed := by kernel_rfl
  f199 := Tryz.func39.trans (congrArg some (by kernel_rfl))
  f261 := Tryz.func55.trans (congrArg some (by kernel_rfl))
  f311 := Tryz.func76.trans (congrArg some (by kernel_rfl))
  f312 := Tryz.func77.trans (congrArg some (by kernel_rfl))
  t0 := Tryz.underlying0
  a0 := Tryz.isAgg0
  z0 := Tryz.sizeOf0
  v0 := Tryz.zeroValue0
  t3 := Tryz.underlying3
  a3 := Tryz.isAgg3
  z3 := Tryz.sizeOf3
  v3 := Tryz.zeroValue3
  t4 := Tryz.underlying4
  a4 := Tryz.isAgg4
  z4 := Tryz.sizeOf4
  v4 := Tryz.zeroValue4
  t21 := Tryz.underlying21
  a21 := Tryz.isAgg21
  z21 := Tryz.sizeOf21
  v21 := Tryz.zeroValue21
  t46 := Tryz.underlying37
  a46 := Tryz.isAgg37
  z46 := Tryz.sizeOf37
  v46 := Tryz.zeroValue37
  t49 := Tryz.underlying161
  a49 := Tryz.isAgg161
  z49 := Tryz.sizeOf161
  v49 := Tryz.zeroValue161
  t51 := Tryz.underlying23
  a51 := Tryz.isAgg23
  z51 := Tryz.sizeOf23
  v51 := Tryz.zeroValue23
  t141 := Tryz.underlying138
  a141 := Tryz.isAgg138
  z141 := Tryz.sizeOf138
  v141 := Tryz.zeroValue138
  t193 := Tryz.underlying157
  a193 := Tryz.isAgg157
  z193 := Tryz.sizeOf157
  v193 := Tryz.zeroValue157
  t194 := Tryz.underlying158
  a194 := Tryz.isAgg158
  z194 := Tryz.sizeOf158
  v194 := Tryz.zeroValue158
  t196 := Tryz.underlying160
  a196 := Tryz.isAgg160
  z196 := Tryz.sizeOf160
  v196 := Tryz.zeroValue160
  t198 := Tryz.underlying163
  a198 := Tryz.isAgg163
  z198 := Tryz.sizeOf163
  v198 := Tryz.zeroValue163
  t201 := Tryz.underlying166
  a201 := Tryz.isAgg166
  z201 := Tryz.sizeOf166
  v201 := Tryz.zeroValue166
  t226 := Tryz.underlying186
  a226 := Tryz.isAgg186
  z226 := Tryz.sizeOf186
  v226 := Tryz.zeroValue186
  t227 := Tryz.underlying187
  a227 := Tryz.isAgg187
  z227 := Tryz.sizeOf187
  v227 := Tryz.zeroValue187
  g6 := by kernel_rfl }
open Go.RowKit Go.Lib in
theorem Tryz.unicode_IsSpace (r : Int) (w : World) (h0 : 0 ≤ r) (h : r ≤ 255) :
    Calls Tryz.prog 39 #[.int .i32 r] w fun e w' => e = .returned (.bool (Lib.isSpaceL r)) ∧ w' = w := Any.unicode_IsSpace Tryz.lays199 r w h0 h
def Tryz.lays203_ren : Go.Shelf.Ren := ⟨fun | 203 => 69 | 262 => 91 | 313 => 108 | 274 => 117 | 275 => 118 | n => n, fun | 21 => 21 | 4 => 4 | 3 => 3 | 162 => 195 | 203 => 193 | 160 => 206 | 46 => 37 | 0 => 0 | 208 => 236 | 51 => 23 | 206 => 234 | n => n, fun | 13 => 7 | n => n⟩
theorem Tryz.lays203 : Go.Proofs.Lays.n203 Tryz.prog Tryz.lays203_ren := {
  mixed := by kernel_rfl
  f203 := Tryz.func69.trans (congrArg some (by kernel_rfl))
  f262 := Tryz.func91.trans (congrArg some (by kernel_rfl))
  f274 := Tryz.func117.trans (congrArg some (by kernel_rfl))
  f275 := Tryz.func118.trans (congrArg some (by kernel_rfl))
  f313 := Tryz.func108.trans (congrArg some (by kernel_rfl))
  t0 := Tryz.underlying0
  a0 := Tryz.isAgg0
  z0 := Tryz.sizeOf0
  v0 := Tryz.zeroValue0
  t3 := Tryz.underlying3
  a3 := Tryz.isAgg3
  z3 := Tryz.sizeOf3
  v3 := Tryz.zeroValue3
  t4 := Tryz.underlying4
  a4 := Tryz.isAgg4
  z4 := Tryz.sizeOf4
  v4 := Tryz.zeroValue4
  t21 := Tryz.underlying21
  a21 := Tryz.isAgg21
  z21 := Tryz.sizeOf21
  v21 := Tryz.zeroValue21
  t46 := Tryz.underlying37
  a46 := Tryz.isAgg37
  z46 := Tryz.sizeOf37
  v46 := Tryz.zeroValue37
  t51 := Tryz.underlying23
  a51 := Tryz.isAgg23
  z51 := Tryz.sizeOf23
  v51 := Tryz.zeroValue23
  t160 := Tryz.underlying206
  a160 := Tryz.isAgg206
  z160 := Tryz.sizeOf206
  v160 := Tryz.zeroValue206
  t162 := Tryz.underlying195
  a162 := Tryz.isAgg195
  z162 := Tryz.sizeOf195
  v162 := Tryz.zeroValue195
  t203 := Tryz.underlying193
  a203 := Tryz.isAgg193
  z203 := Tryz.sizeOf193
  v203 := Tryz.zeroValue193
  t206 := Tryz.underlying234
  a206 := Tryz.isAgg234
  z206 := Tryz.sizeOf234
  v206 := Tryz.zeroValue234
  t208 := Tryz.underlying236
  a208 := Tryz.isAgg236
  z208 := Tryz.sizeOf236
  v208 := Tryz.zeroValue236
  g13 := by kernel_rfl }
open Go.RowKit Go.Lib in
theorem Tryz.unicode_ToUpper (r : Int) (w : World) (h : r ≤ 127) :
    Calls Tryz.prog 69 #[.int .i32 r] w fun e w' => e = .returned (.int .i32 (Lib.toUpperR r)) ∧ w' = w := Any.unicode_ToUpper Tryz.lays203 r w h
def Tryz.lays264_ren : Go.Shelf.Ren := ⟨fun | 264 => 152 | n => n, fun | 53 => 42 | 46 => 37 | n => n, fun | n => n⟩
theorem Tryz.lays264 : Go.Proofs.Lays.n264 Tryz.prog Tryz.lays264_ren := {
  mixed := by kernel_rfl
  f264 := Tryz.func152.trans (congrArg some (by kernel_rfl))
  t46 := Tryz.underlying37
  a46 := Tryz.isAgg37
  z46 := Tryz.sizeOf37
  v46 := Tryz.zeroValue37
  t53 := Tryz.underlying42
  a53 := Tryz.isAgg42
  z53 := Tryz.sizeOf42
  v53 := Tryz.zeroValue42 }
open Go.RowKit Go.Lib in
theorem Tryz.bits_Mul64 (x y : Nat) (hx : x < 18446744073709551616) (hy : y < 18446744073709551616) (w : World) :
    Calls Tryz.prog 152 #[.int .u64 x, .int .u64 y] w fun e w' => e = .returned (.tuple #[.int .u64 ((x * y / 18446744073709551616 : Nat) : Int), .int .u64 ((x * y % 18446744073709551616 : Nat) : Int)]) ∧ w' = w := Any.bits_Mul64 Tryz.lays264 x y hx hy w
def Tryz.lays260_ren : Go.Shelf.Ren := ⟨fun | 260 => 102 | n => n, fun | 9 => 9 | 21 => 21 | 3 => 3 | 4 => 4 | 5 => 5 | 119 => 118 | 0 => 0 | 46 => 37 | 139 => 204 | 138 => 203 | n => n, fun | 3 => 10 | 4 => 11 | n => n⟩
theorem Tryz.lays260 : Go.Proofs.Lays.n260 Tryz.prog Tryz.lays260_ren := {
  mixed := by kernel_rfl
  f260 := Tryz.func102.trans (congrArg some (by kernel_rfl))
  t0 := Tryz.underlying0
  a0 := Tryz.isAgg0
  z0 := Tryz.sizeOf0
  v0 := Tryz.zeroValue0
  t3 := Tryz.underlying3
  a3 := Tryz.isAgg3
  z3 := Tryz.sizeOf3
  v3 := Tryz.zeroValue3
  t4 := Tryz.underlying4
  a4 := Tryz.isAgg4
  z4 := Tryz.sizeOf4
  v4 := Tryz.zeroValue4
  t5 := Tryz.underlying5
  a5 := Tryz.isAgg5
  z5 := Tryz.sizeOf5
  v5 := Tryz.zeroValue5
  t9 := Tryz.underlying9
  a9 := Tryz.isAgg9
  z9 := Tryz.sizeOf9
  v9 := Tryz.zeroValue9
  t21 := Tryz.underlying21
  a21 := Tryz.isAgg21
  z21 := Tryz.sizeOf21
  v21 := Tryz.zeroValue21
  t46 := Tryz.underlying37
  a46 := Tryz.isAgg37
  z46 := Tryz.sizeOf37
  v46 := Tryz.zeroValue37
  t119 := Tryz.underlying118
  a119 := Tryz.isAgg118
  z119 := Tryz.sizeOf118
  t138 := Tryz.underlying203
  a138 := Tryz.isAgg203
  z138 := Tryz.sizeOf203
  v138 := Tryz.zeroValue203
  t139 := Tryz.underlying204
  a139 := Tryz.isAgg204
  z139 := Tryz.sizeOf204
  v139 := Tryz.zeroValue204
  g3 := by kernel_rfl
  g4 := by kernel_rfl }
open Go.RowKit Go.Lib in
theorem Tryz.utf8_decodeRuneInStringSlow (s : ByteArray) (w : World) (hT : Lib.Utf8Tabs 10 11 w) :
    Calls Tryz.prog 102 #[.string s] w fun e w' => e = .returned (.tuple #[.int .i32 (Lib.decodeGo s).1, .int .i64 (Lib.decodeGo s).2]) ∧ Below w.heap.size w w' := Any.utf8_decodeRuneInStringSlow Tryz.lays260 s w hT
def Tryz.lays311_ren : Go.Shelf.Ren := ⟨fun | 311 => 76 | n => n, fun | 193 => 157 | 49 => 161 | 4 => 4 | 3 => 3 | 0 => 0 | 226 => 186 | 198 => 163 | 46 => 37 | n => n, fun | n => n⟩
theorem Tryz.lays311 : Go.Proofs.Lays.n311 Tryz.prog Tryz.lays311_ren := {
  mixed := by kernel_rfl
  f311 := Tryz.func76.trans (congrArg some (by kernel_rfl))
  t0 := Tryz.underlying0
  a0 := Tryz.isAgg0
  z0 := Tryz.sizeOf0
  v0 := Tryz.zeroValue0
  t3 := Tryz.underlying3
  a3 := Tryz.isAgg3
  z3 := Tryz.sizeOf3
  v3 := Tryz.zeroValue3
  t4 := Tryz.underlying4
  a4 := Tryz.isAgg4
  z4 := Tryz.sizeOf4
  v4 := Tryz.zeroValue4
  t46 := Tryz.underlying37
  a46 := Tryz.isAgg37
  z46 := Tryz.sizeOf37
  v46 := Tryz.zeroValue37
  t49 := Tryz.underlying161
  a49 := Tryz.isAgg161
  z49 := Tryz.sizeOf161
  v49 := Tryz.zeroValue161
  t193 := Tryz.underlying157
  a193 := Tryz.isAgg157
  z193 := Tryz.sizeOf157
  v193 := Tryz.zeroValue157
  t198 := Tryz.underlying163
  a198 := Tryz.isAgg163
  z198 := Tryz.sizeOf163
  v198 := Tryz.zeroValue163
  t226 := Tryz.underlying186
  a226 := Tryz.isAgg186
  z226 := Tryz.sizeOf186
  v226 := Tryz.zeroValue186 }
open Go.RowKit Go.Lib in
theorem Tryz.unicode_is16_white (R oR : Nat) (z : Nat) (w : World) (hz : z < 65536) (hz0 : 255 < z) (c6 : w.cell? ⟨R, oR + 6, none⟩ = some (.int .u16 160)) (c7 : w.cell? ⟨R, oR + 7, none⟩ = some (.int .u16 5760)) (c8 : w.cell? ⟨R, oR + 8, none⟩ = some (.int .u16 5600)) (c9 : w.cell? ⟨R, oR + 9, none⟩ = some (.int .u16 8192)) (c10 : w.cell? ⟨R, oR + 10, none⟩ = some (.int .u16 8202)) (c11 : w.cell? ⟨R, oR + 11, none⟩ = some (.int .u16 1)) (c12 : w.cell? ⟨R, oR + 12, none⟩ = some (.int .u16 8232)) (c13 : w.cell? ⟨R, oR + 13, none⟩ = some (.int .u16 8233)) (c14 : w.cell? ⟨R, oR + 14, none⟩ = some (.int .u16 1)) (c15 : w.cell? ⟨R, oR + 15, none⟩ = some (.int .u16 8239)) (c16 : w.cell? ⟨R, oR + 16, none⟩ = some (.int .u16 8287)) (c17 : w.cell? ⟨R, oR + 17, none⟩ = some (.int .u16 48)) (c18 : w.cell? ⟨R, oR + 18, none⟩ = some (.int .u16 12288)) (c19 : w.cell? ⟨R, oR + 19, none⟩ = some (.int .u16 12288)) (c20 : w.cell? ⟨R, oR + 20, none⟩ = some (.int .u16 1)) :
    Calls Tryz.prog 76 #[.slice (some ⟨R, oR + 6, none⟩) 5 5, .int .u16 z] w fun e w' => e = .returned (.bool (Lib.isSpaceR z)) ∧ Below w.heap.size w w' := Any.unicode_is16_white Tryz.lays311 R oR z w hz hz0 c6 c7 c8 c9 c10 c11 c12 c13 c14 c15 c16 c17 c18 c19 c20
def Tryz.lays261_ren : Go.Shelf.Ren := ⟨fun | 261 => 55 | 311 => 76 | 312 => 77 | n => n, fun | 141 => 138 | 21 => 21 | 4 => 4 | 0 => 0 | 196 => 160 | 193 => 157 | 3 => 3 | 51 => 23 | 198 => 163 | 49 => 161 | 194 => 158 | 201 => 166 | 226 => 186 | 46 => 37 | 227 => 187 | n => n, fun | n => n⟩
theorem Tryz.lays261 : Go.Proofs.Lays.n261 Tryz.prog Tryz.lays261_ren := {
  mixed := by kernel_rfl
  f261 := Tryz.func55.trans (congrArg some (by kernel_rfl))
  f311 := Tryz.func76.trans (congrArg some (by kernel_rfl))
  f312 := Tryz.func77.trans (congrArg some (by kernel_rfl))
  t0 := Tryz.underlying0
  a0 := Tryz.isAgg0
  z0 := Tryz.sizeOf0
  v0 := Tryz.zeroValue0
  t3 := Tryz.underlying3
  a3 := Tryz.isAgg3
  z3 := Tryz.sizeOf3
  v3 := Tryz.zeroValue3
  t4 := Tryz.underlying4
  a4 := Tryz.isAgg4
  z4 := Tryz.sizeOf4
  v4 := Tryz.zeroValue4
  t21 := Tryz.underlying21
  a21 := Tryz.isAgg21
  z21 := Tryz.sizeOf21
  v21 := Tryz.zeroValue21
  t46 := Tryz.underlying37
  a46 := Tryz.isAgg37
  z46 := Tryz.sizeOf37
  v46 := Tryz.zeroValue37
  t49 := Tryz.underlying161
  a49 := Tryz.isAgg161
  z49 := Tryz.sizeOf161
  v49 := Tryz.zeroValue161
  t51 := Tryz.underlying23
  a51 := Tryz.isAgg23
  z51 := Tryz.sizeOf23
  v51 := Tryz.zeroValue23
  t141 := Tryz.underlying138
  a141 := Tryz.isAgg138
  z141 := Tryz.sizeOf138
  v141 := Tryz.zeroValue138
  t193 := Tryz.underlying157
  a193 := Tryz.isAgg157
  z193 := Tryz.sizeOf157
  v193 := Tryz.zeroValue157
  t194 := Tryz.underlying158
  a194 := Tryz.isAgg158
  z194 := Tryz.sizeOf158
  v194 := Tryz.zeroValue158
  t196 := Tryz.underlying160
  a196 := Tryz.isAgg160
  z196 := Tryz.sizeOf160
  v196 := Tryz.zeroValue160
  t198 := Tryz.underlying163
  a198 := Tryz.isAgg163
  z198 := Tryz.sizeOf163
  v198 := Tryz.zeroValue163
  t201 := Tryz.underlying166
  a201 := Tryz.isAgg166
  z201 := Tryz.sizeOf166
  v201 := Tryz.zeroValue166
  t226 := Tryz.underlying186
  a226 := Tryz.isAgg186
  z226 := Tryz.sizeOf186
  v226 := Tryz.zeroValue186
  t227 := Tryz.underlying187
  a227 := Tryz.isAgg187
  z227 := Tryz.sizeOf187
  v227 := Tryz.zeroValue187 }
open Go.RowKit Go.Lib in
/-- unicode.isExcludingLatin(White_Space, r), r beyond U+00FF or negative. (LAID: no walk: one application.) -/
theorem Tryz.unicode_isExcludingLatin_white (T oT R oR : Nat) (r : Int) (w : World) (hlo : -2147483648 ≤ r) (hhi : r ≤ 2147483647) (hr : r < 0 ∨ 255 < r) (h2 : w.cell? ⟨T, oT, none⟩ = some (.slice (some ⟨R, oR, none⟩) 7 7)) (h3 : w.cell? ⟨T, oT + 1, none⟩ = some (.slice none 0 0)) (h4 : w.cell? ⟨T, oT + 2, none⟩ = some (.int .i64 2)) (h5 : ∀ i, i < 21 → w.cell? ⟨R, oR + i, none⟩ = some (.int .u16 (whiteT.getD i 0))) :
    Calls Tryz.prog 55 #[.pointer (some ⟨T, oT, none⟩), .int .i32 r] w fun e w' => e = .returned (.bool (Lib.isSpaceZ r)) ∧ Below w.heap.size w w' := Any.unicode_isExcludingLatin_white Tryz.lays261 T oT R oR r w hlo hhi hr h2 h3 h4 h5
open Go.RowKit Go.Lib in
/-- **unicode.IsSpace AT EVERY int32.** (LAID: no walk: one application.) -/
theorem Tryz.unicode_IsSpace_any (r : Int) (w : World) (hlo : -2147483648 ≤ r) (hhi : r ≤ 2147483647) (hW : Lib.WhiteTab 4 w) :
    Calls Tryz.prog 39 #[.int .i32 r] w fun e w' => e = .returned (.bool (Lib.isSpaceZ r)) ∧ Below w.heap.size w w' := Any.unicode_IsSpace_any Tryz.lays199 r w hlo hhi hW
def Tryz.lays274_ren : Go.Shelf.Ren := ⟨fun | 274 => 117 | n => n, fun | 21 => 21 | 162 => 195 | 160 => 206 | 3 => 3 | 4 => 4 | 46 => 37 | 0 => 0 | 208 => 236 | 51 => 23 | 206 => 234 | n => n, fun | n => n⟩
theorem Tryz.lays274 : Go.Proofs.Lays.n274 Tryz.prog Tryz.lays274_ren := {
  mixed := by kernel_rfl
  f274 := Tryz.func117.trans (congrArg some (by kernel_rfl))
  t0 := Tryz.underlying0
  a0 := Tryz.isAgg0
  z0 := Tryz.sizeOf0
  v0 := Tryz.zeroValue0
  t3 := Tryz.underlying3
  a3 := Tryz.isAgg3
  z3 := Tryz.sizeOf3
  v3 := Tryz.zeroValue3
  t4 := Tryz.underlying4
  a4 := Tryz.isAgg4
  z4 := Tryz.sizeOf4
  v4 := Tryz.zeroValue4
  t21 := Tryz.underlying21
  a21 := Tryz.isAgg21
  z21 := Tryz.sizeOf21
  v21 := Tryz.zeroValue21
  t46 := Tryz.underlying37
  a46 := Tryz.isAgg37
  z46 := Tryz.sizeOf37
  v46 := Tryz.zeroValue37
  t51 := Tryz.underlying23
  a51 := Tryz.isAgg23
  z51 := Tryz.sizeOf23
  v51 := Tryz.zeroValue23
  t160 := Tryz.underlying206
  a160 := Tryz.isAgg206
  z160 := Tryz.sizeOf206
  v160 := Tryz.zeroValue206
  t162 := Tryz.underlying195
  a162 := Tryz.isAgg195
  z162 := Tryz.sizeOf195
  v162 := Tryz.zeroValue195
  t208 := Tryz.underlying236
  a208 := Tryz.isAgg236
  z208 := Tryz.sizeOf236
  v208 := Tryz.zeroValue236 }
open Go.RowKit Go.Lib in
theorem Tryz.unicode_lookupCaseRange (T : Array CaseRow) (R oR cap : Nat) (r : Int) (w : World) (hT : CaseTab R oR T w) (hok : CaseOk T) (hn : T.size ≤ 1000000000) :
    Calls Tryz.prog 117 #[.int .i32 r, .slice (some ⟨R, oR, none⟩) T.size cap] w fun e w' =>
      e = .returned (match lookupIdx T r (T.size + 1) 0 T.size with | some i => .pointer (some ⟨R, oR + i * 5, none⟩) | none => .pointer none) ∧ w' = w := Any.unicode_lookupCaseRange Tryz.lays274 T R oR cap r w hT hok hn
def Tryz.lays275_ren : Go.Shelf.Ren := ⟨fun | 275 => 118 | n => n, fun | 3 => 3 | 21 => 21 | 160 => 206 | 0 => 0 | 208 => 236 | 206 => 234 | 4 => 4 | 51 => 23 | n => n, fun | n => n⟩
theorem Tryz.lays275 : Go.Proofs.Lays.n275 Tryz.prog Tryz.lays275_ren := {
  mixed := by kernel_rfl
  f275 := Tryz.func118.trans (congrArg some (by kernel_rfl))
  t0 := Tryz.underlying0
  a0 := Tryz.isAgg0
  z0 := Tryz.sizeOf0
  v0 := Tryz.zeroValue0
  t3 := Tryz.underlying3
  a3 := Tryz.isAgg3
  z3 := Tryz.sizeOf3
  v3 := Tryz.zeroValue3
  t4 := Tryz.underlying4
  a4 := Tryz.isAgg4
  z4 := Tryz.sizeOf4
  v4 := Tryz.zeroValue4
  t21 := Tryz.underlying21
  a21 := Tryz.isAgg21
  z21 := Tryz.sizeOf21
  v21 := Tryz.zeroValue21
  t51 := Tryz.underlying23
  a51 := Tryz.isAgg23
  z51 := Tryz.sizeOf23
  v51 := Tryz.zeroValue23
  t160 := Tryz.underlying206
  a160 := Tryz.isAgg206
  z160 := Tryz.sizeOf206
  v160 := Tryz.zeroValue206
  t206 := Tryz.underlying234
  a206 := Tryz.isAgg234
  z206 := Tryz.sizeOf234
  v206 := Tryz.zeroValue234
  t208 := Tryz.underlying236
  a208 := Tryz.isAgg236
  z208 := Tryz.sizeOf236
  v208 := Tryz.zeroValue236 }
open Go.RowKit Go.Lib in
theorem Tryz.unicode_convertCase (c : Nat) (hc : c < 3) (r : Int) (A o : Nat) (x : CaseRow) (w : World) (hlo : (x.1 : Int) ≤ r) (hhi : r ≤ (x.2.1 : Int)) (hH : x.2.1 < 2147483647) (c0 : w.cell? ⟨A, o, none⟩ = some (.int .u32 x.1)) (cD : w.cell? ⟨A, o + 2 + c, none⟩ = some (.int .i32 (x.delta c))) :
    Calls Tryz.prog 118 #[.int .i64 c, .int .i32 r, .pointer (some ⟨A, o, none⟩)] w fun e w' => e = .returned (.int .i32 (wrap32 (convertR c r x))) ∧ ∃ q, w' = w.drewN q := Any.unicode_convertCase Tryz.lays275 c hc r A o x w hlo hhi hH c0 cD
def Tryz.lays313_ren : Go.Shelf.Ren := ⟨fun | 313 => 108 | 274 => 117 | 275 => 118 | n => n, fun | 3 => 3 | 21 => 21 | 162 => 195 | 4 => 4 | 160 => 206 | 46 => 37 | 0 => 0 | 208 => 236 | 51 => 23 | 206 => 234 | n => n, fun | n => n⟩
theorem Tryz.lays313 : Go.Proofs.Lays.n313 Tryz.prog Tryz.lays313_ren := {
  mixed := by kernel_rfl
  f274 := Tryz.func117.trans (congrArg some (by kernel_rfl))
  f275 := Tryz.func118.trans (congrArg some (by kernel_rfl))
  f313 := Tryz.func108.trans (congrArg some (by kernel_rfl))
  t0 := Tryz.underlying0
  a0 := Tryz.isAgg0
  z0 := Tryz.sizeOf0
  v0 := Tryz.zeroValue0
  t3 := Tryz.underlying3
  a3 := Tryz.isAgg3
  z3 := Tryz.sizeOf3
  v3 := Tryz.zeroValue3
  t4 := Tryz.underlying4
  a4 := Tryz.isAgg4
  z4 := Tryz.sizeOf4
  v4 := Tryz.zeroValue4
  t21 := Tryz.underlying21
  a21 := Tryz.isAgg21
  z21 := Tryz.sizeOf21
  v21 := Tryz.zeroValue21
  t46 := Tryz.underlying37
  a46 := Tryz.isAgg37
  z46 := Tryz.sizeOf37
  v46 := Tryz.zeroValue37
  t51 := Tryz.underlying23
  a51 := Tryz.isAgg23
  z51 := Tryz.sizeOf23
  v51 := Tryz.zeroValue23
  t160 := Tryz.underlying206
  a160 := Tryz.isAgg206
  z160 := Tryz.sizeOf206
  v160 := Tryz.zeroValue206
  t162 := Tryz.underlying195
  a162 := Tryz.isAgg195
  z162 := Tryz.sizeOf195
  v162 := Tryz.zeroValue195
  t206 := Tryz.underlying234
  a206 := Tryz.isAgg234
  z206 := Tryz.sizeOf234
  v206 := Tryz.zeroValue234
  t208 := Tryz.underlying236
  a208 := Tryz.isAgg236
  z208 := Tryz.sizeOf236
  v208 := Tryz.zeroValue236 }
open Go.RowKit Go.Lib in
theorem Tryz.unicode_to (c : Nat) (hc : c < 3) (r : Int) (T : Array CaseRow) (R oR cap : Nat) (w : World) (hT : CaseTab R oR T w) (hok : CaseOk2 T) (hn : T.size ≤ 1000000000) :
    Calls Tryz.prog 108 #[.int .i64 c, .int .i32 r, .slice (some ⟨R, oR, none⟩) T.size cap] w fun e w' => e = .returned (.tuple #[.int .i32 (toW T c r), .bool (lookupIdx T r (T.size + 1) 0 T.size).isSome]) ∧ ∃ q, w' = w.drewN q := Any.unicode_to Tryz.lays313 c hc r T R oR cap w hT hok hn
def Tryz.lays262_ren : Go.Shelf.Ren := ⟨fun | 262 => 91 | 313 => 108 | 274 => 117 | 275 => 118 | n => n, fun | 3 => 3 | 21 => 21 | 162 => 195 | 203 => 193 | 4 => 4 | 160 => 206 | 46 => 37 | 0 => 0 | 208 => 236 | 51 => 23 | 206 => 234 | n => n, fun | 13 => 7 | n => n⟩
theorem Tryz.lays262 : Go.Proofs.Lays.n262 Tryz.prog Tryz.lays262_ren := {
  mixed := by kernel_rfl
  f262 := Tryz.func91.trans (congrArg some (by kernel_rfl))
  f274 := Tryz.func117.trans (congrArg some (by kernel_rfl))
  f275 := Tryz.func118.trans (congrArg some (by kernel_rfl))
  f313 := Tryz.func108.trans (congrArg some (by kernel_rfl))
  t0 := Tryz.underlying0
  a0 := Tryz.isAgg0
  z0 := Tryz.sizeOf0
  v0 := Tryz.zeroValue0
  t3 := Tryz.underlying3
  a3 := Tryz.isAgg3
  z3 := Tryz.sizeOf3
  v3 := Tryz.zeroValue3
  t4 := Tryz.underlying4
  a4 := Tryz.isAgg4
  z4 := Tryz.sizeOf4
  v4 := Tryz.zeroValue4
  t21 := Tryz.underlying21
  a21 := Tryz.isAgg21
  z21 := Tryz.sizeOf21
  v21 := Tryz.zeroValue21
  t46 := Tryz.underlying37
  a46 := Tryz.isAgg37
  z46 := Tryz.sizeOf37
  v46 := Tryz.zeroValue37
  t51 := Tryz.underlying23
  a51 := Tryz.isAgg23
  z51 := Tryz.sizeOf23
  v51 := Tryz.zeroValue23
  t160 := Tryz.underlying206
  a160 := Tryz.isAgg206
  z160 := Tryz.sizeOf206
  v160 := Tryz.zeroValue206
  t162 := Tryz.underlying195
  a162 := Tryz.isAgg195
  z162 := Tryz.sizeOf195
  v162 := Tryz.zeroValue195
  t203 := Tryz.underlying193
  a203 := Tryz.isAgg193
  z203 := Tryz.sizeOf193
  v203 := Tryz.zeroValue193
  t206 := Tryz.underlying234
  a206 := Tryz.isAgg234
  z206 := Tryz.sizeOf234
  v206 := Tryz.zeroValue234
  t208 := Tryz.underlying236
  a208 := Tryz.isAgg236
  z208 := Tryz.sizeOf236
  v208 := Tryz.zeroValue236
  g13 := by kernel_rfl }
open Go.RowKit Go.Lib in
theorem Tryz.unicode_To (c : Nat) (hc : c < 3) (r : Int) (T : Array CaseRow) (w : World) (hV : CaseVar 7 T w) (hok : CaseOk2 T) (hn : T.size ≤ 1000000000) :
    Calls Tryz.prog 91 #[.int .i64 c, .int .i32 r] w fun e w' => e = .returned (.int .i32 (toW T c r)) ∧ ∃ q, w' = w.drewN q := Any.unicode_To Tryz.lays262 c hc r T w hV hok hn
open Go.RowKit Go.Lib in
theorem Tryz.unicode_ToUpper_any (r : Int) (T : Array CaseRow) (w : World) (hV : CaseVar 7 T w) (hok : CaseOk2 T) (hn : T.size ≤ 1000000000) :
    Calls Tryz.prog 69 #[.int .i32 r] w fun e w' => e = .returned (.int .i32 (Lib.toUpperW T r)) ∧ ∃ q, w' = w.drewN q := Any.unicode_ToUpper_any Tryz.lays203 r T w hV hok hn
open Go.RowKit Go.Lib in
theorem Tryz.unicode_ToUpper_laid (r : Int) (w : World) (hV : CaseVar 7 caseA w) :
    Calls Tryz.prog 69 #[.int .i32 r] w fun e w' => e = .returned (.int .i32 (toUpperU r)) ∧ ∃ q, w' = w.drewN q := Any.unicode_ToUpper_laid Tryz.lays203 r w hV
open Go.RowKit Go.Lib in
theorem Tryz.unicode_is16_any (T : Array Rg) (R oR cap : Nat) (z : Nat) (w : World) (hz : z < 65536) (hT : RgTab .u16 R oR T w) (hok : RgOk 65536 T) (hn : T.size ≤ 1000000000) :
    Calls Tryz.prog 76 #[.slice (some ⟨R, oR, none⟩) T.size cap, .int .u16 z] w fun e w' => e = .returned (.bool (is16Go T z)) ∧ ∃ q, w' = w.drewN q := Any.unicode_is16_any Tryz.lays311 T R oR cap z w hz hT hok hn
def Tryz.lays312_ren : Go.Shelf.Ren := ⟨fun | 312 => 77 | n => n, fun | 194 => 158 | 51 => 23 | 4 => 4 | 3 => 3 | 0 => 0 | 227 => 187 | 201 => 166 | 46 => 37 | n => n, fun | n => n⟩
theorem Tryz.lays312 : Go.Proofs.Lays.n312 Tryz.prog Tryz.lays312_ren := {
  mixed := by kernel_rfl
  f312 := Tryz.func77.trans (congrArg some (by kernel_rfl))
  t0 := Tryz.underlying0
  a0 := Tryz.isAgg0
  z0 := Tryz.sizeOf0
  v0 := Tryz.zeroValue0
  t3 := Tryz.underlying3
  a3 := Tryz.isAgg3
  z3 := Tryz.sizeOf3
  v3 := Tryz.zeroValue3
  t4 := Tryz.underlying4
  a4 := Tryz.isAgg4
  z4 := Tryz.sizeOf4
  v4 := Tryz.zeroValue4
  t46 := Tryz.underlying37
  a46 := Tryz.isAgg37
  z46 := Tryz.sizeOf37
  v46 := Tryz.zeroValue37
  t51 := Tryz.underlying23
  a51 := Tryz.isAgg23
  z51 := Tryz.sizeOf23
  v51 := Tryz.zeroValue23
  t194 := Tryz.underlying158
  a194 := Tryz.isAgg158
  z194 := Tryz.sizeOf158
  v194 := Tryz.zeroValue158
  t201 := Tryz.underlying166
  a201 := Tryz.isAgg166
  z201 := Tryz.sizeOf166
  v201 := Tryz.zeroValue166
  t227 := Tryz.underlying187
  a227 := Tryz.isAgg187
  z227 := Tryz.sizeOf187
  v227 := Tryz.zeroValue187 }
open Go.RowKit Go.Lib in
theorem Tryz.unicode_is32_any (T : Array Rg) (R oR cap : Nat) (z : Nat) (w : World) (hz : z < 4294967296) (hT : RgTab .u32 R oR T w) (hok : RgOk 4294967296 T) (hn : T.size ≤ 1000000000) :
    Calls Tryz.prog 77 #[.slice (some ⟨R, oR, none⟩) T.size cap, .int .u32 z] w fun e w' => e = .returned (.bool (is32Go T z)) ∧ Below w.heap.size w w' := Any.unicode_is32_any Tryz.lays312 T R oR cap z w hz hT hok hn
open Go.RowKit Go.Lib in
theorem Tryz.unicode_isExcludingLatin_any (Tb oT : Nat) (T : RTab) (r : Int) (w : World) (hlo : -2147483648 ≤ r) (hhi : r ≤ 2147483647) (hA : RTabAt Tb oT T w) (hok : RTabOk T) :
    Calls Tryz.prog 55 #[.pointer (some ⟨Tb, oT, none⟩), .int .i32 r] w fun e w' => e = .returned (.bool (exclGo T r)) ∧ Below w.heap.size w w' := Any.unicode_isExcludingLatin_any Tryz.lays261 Tb oT T r w hlo hhi hA hok
def Tryz.lays187_ren : Go.Shelf.Ren := ⟨fun | 187 => 57 | 255 => 78 | n => n, fun | 37 => 55 | 5 => 5 | 3 => 3 | n => n, fun | n => n⟩
theorem Tryz.lays187 : Go.Proofs.Lays.n187 Tryz.prog Tryz.lays187_ren := {
  mixed := by kernel_rfl
  f187 := Tryz.func57.trans (congrArg some (by kernel_rfl))
  f255 := Tryz.func78.trans (congrArg some (by kernel_rfl))
  t3 := Tryz.underlying3
  a3 := Tryz.isAgg3
  z3 := Tryz.sizeOf3
  v3 := Tryz.zeroValue3
  t5 := Tryz.underlying5
  a5 := Tryz.isAgg5
  z5 := Tryz.sizeOf5
  v5 := Tryz.zeroValue5
  t37 := Tryz.underlying55
  a37 := Tryz.isAgg55
  z37 := Tryz.sizeOf55
  v37 := Tryz.zeroValue55 }
/-- bytes.IndexByte: "IndexByte returns the index of the first instance of c in b, or -1 if c is not present in b.": IT RETURNS 'Lib.indexByte (the bytes of b) c'; the world is as it was. 'xs': the numbers that the slice's cells hold. (LAID: no walk: one application.) -/
theorem Tryz.bytes_IndexByte (b o n c : Nat) (xs : List Int) (cv : Int) (w : World) (hx : xs.length = n) (hc : ∀ i, i < n → w.cell? ⟨b, o + i, none⟩ = some (.int .u8 (xs.getD i 0))) :
    Calls Tryz.prog 57 #[.slice (some ⟨b, o, none⟩) n c, .int .u8 cv] w fun e w' => e = .returned (.int .i64 (Lib.indexByte (Lib.bytesOf xs) cv.toNat.toUInt8)) ∧ w' = w := Any.bytes_IndexByte Tryz.lays187 b o n c xs cv w hx hc
/-- bytes.IndexByte AT nil: -1. (LAID: no walk: one application.) -/
theorem Tryz.bytes_IndexByte_nil (cv : Int) (w : World) :
    Calls Tryz.prog 57 #[.slice none 0 0, .int .u8 cv] w fun e w' => e = .returned (.int .i64 (-1)) ∧ w' = w := Any.bytes_IndexByte_nil Tryz.lays187 cv w
def Tryz.laysbs188_ren : Go.Shelf.Ren := ⟨fun | 188 => 32 | 256 => 38 | 199 => 39 | 293 => 54 | 292 => 53 | 261 => 55 | 327 => 75 | 325 => 73 | 326 => 74 | 311 => 76 | 312 => 77 | 341 => 98 | 342 => 99 | 120 => 113 | n => n, fun | 37 => 55 | 3 => 3 | 0 => 0 | 5 => 5 | 4 => 4 | 40 => 117 | 119 => 118 | 21 => 21 | 51 => 23 | 141 => 138 | 105 => 155 | 196 => 160 | 193 => 157 | 198 => 163 | 49 => 161 | 194 => 158 | 201 => 166 | 226 => 186 | 46 => 37 | 227 => 187 | 139 => 204 | 138 => 203 | n => n, fun | 2 => 2 | 6 => 4 | 3 => 10 | 4 => 11 | n => n⟩
theorem Tryz.laysbs188 : Go.Proofs.Lays.nbs188 Tryz.prog Tryz.laysbs188_ren := {
  mixed := by kernel_rfl
  f120 := Tryz.func113.trans (congrArg some (by kernel_rfl))
  f188 := Tryz.func32.trans (congrArg some (by kernel_rfl))
  f199 := Tryz.func39.trans (congrArg some (by kernel_rfl))
  f256 := Tryz.func38.trans (congrArg some (by kernel_rfl))
  f261 := Tryz.func55.trans (congrArg some (by kernel_rfl))
  f292 := Tryz.func53.trans (congrArg some (by kernel_rfl))
  f293 := Tryz.func54.trans (congrArg some (by kernel_rfl))
  f311 := Tryz.func76.trans (congrArg some (by kernel_rfl))
  f312 := Tryz.func77.trans (congrArg some (by kernel_rfl))
  f325 := Tryz.func73.trans (congrArg some (by kernel_rfl))
  f326 := Tryz.func74.trans (congrArg some (by kernel_rfl))
  f327 := Tryz.func75.trans (congrArg some (by kernel_rfl))
  f341 := Tryz.func98.trans (congrArg some (by kernel_rfl))
  f342 := Tryz.func99.trans (congrArg some (by kernel_rfl))
  t0 := Tryz.underlying0
  a0 := Tryz.isAgg0
  z0 := Tryz.sizeOf0
  v0 := Tryz.zeroValue0
  t3 := Tryz.underlying3
  a3 := Tryz.isAgg3
  z3 := Tryz.sizeOf3
  v3 := Tryz.zeroValue3
  t4 := Tryz.underlying4
  a4 := Tryz.isAgg4
  z4 := Tryz.sizeOf4
  v4 := Tryz.zeroValue4
  t5 := Tryz.underlying5
  a5 := Tryz.isAgg5
  z5 := Tryz.sizeOf5
  v5 := Tryz.zeroValue5
  t21 := Tryz.underlying21
  a21 := Tryz.isAgg21
  z21 := Tryz.sizeOf21
  v21 := Tryz.zeroValue21
  t37 := Tryz.underlying55
  a37 := Tryz.isAgg55
  z37 := Tryz.sizeOf55
  v37 := Tryz.zeroValue55
  t40 := Tryz.underlying117
  a40 := Tryz.isAgg117
  z40 := Tryz.sizeOf117
  v40 := Tryz.zeroValue117
  t46 := Tryz.underlying37
  a46 := Tryz.isAgg37
  z46 := Tryz.sizeOf37
  v46 := Tryz.zeroValue37
  t49 := Tryz.underlying161
  a49 := Tryz.isAgg161
  z49 := Tryz.sizeOf161
  v49 := Tryz.zeroValue161
  t51 := Tryz.underlying23
  a51 := Tryz.isAgg23
  z51 := Tryz.sizeOf23
  v51 := Tryz.zeroValue23
  t105 := Tryz.underlying155
  a105 := Tryz.isAgg155
  z105 := Tryz.sizeOf155
  v105 := Tryz.zeroValue155
  t119 := Tryz.underlying118
  a119 := Tryz.isAgg118
  z119 := Tryz.sizeOf118
  t138 := Tryz.underlying203
  a138 := Tryz.isAgg203
  z138 := Tryz.sizeOf203
  v138 := Tryz.zeroValue203
  t139 := Tryz.underlying204
  a139 := Tryz.isAgg204
  z139 := Tryz.sizeOf204
  v139 := Tryz.zeroValue204
  t141 := Tryz.underlying138
  a141 := Tryz.isAgg138
  z141 := Tryz.sizeOf138
  v141 := Tryz.zeroValue138
  t193 := Tryz.underlying157
  a193 := Tryz.isAgg157
  z193 := Tryz.sizeOf157
  v193 := Tryz.zeroValue157
  t194 := Tryz.underlying158
  a194 := Tryz.isAgg158
  z194 := Tryz.sizeOf158
  v194 := Tryz.zeroValue158
  t196 := Tryz.underlying160
  a196 := Tryz.isAgg160
  z196 := Tryz.sizeOf160
  v196 := Tryz.zeroValue160
  t198 := Tryz.underlying163
  a198 := Tryz.isAgg163
  z198 := Tryz.sizeOf163
  v198 := Tryz.zeroValue163
  t201 := Tryz.underlying166
  a201 := Tryz.isAgg166
  z201 := Tryz.sizeOf166
  v201 := Tryz.zeroValue166
  t226 := Tryz.underlying186
  a226 := Tryz.isAgg186
  z226 := Tryz.sizeOf186
  v226 := Tryz.zeroValue186
  t227 := Tryz.underlying187
  a227 := Tryz.isAgg187
  z227 := Tryz.sizeOf187
  v227 := Tryz.zeroValue187
  g2 := by kernel_rfl
  g3 := by kernel_rfl
  g4 := by kernel_rfl
  g6 := by kernel_rfl
  gNamed := by kernel_rfl }
open Go.RowKit in
/-- bytes.TrimSpace: "TrimSpace returns a subslice of s by slicing off all leading and trailing white space, as defined by Unicode.": ON ASCII BYTES ('hascii': each number below 128): IT RETURNS 'Lib.bytesTrimSpace b o c (the bytes of s)': a slice OF THE ARGUMENT's OWN MEMORY, nil where all is white space; the world is as it was. 'htab': the table bytes.asciiSpace holds its numbers (as strings.TrimSpace's contract asks of its own). (LAID: no walk: one application.) -/
theorem Tryz.bytes_TrimSpace (b o n c : Nat) (xs : List Int) (w : World) (hx : xs.length = n) (hnc : n ≤ c) (hbig : n ≤ 9223372036854775807) (hc : ∀ i, i < n → w.cell? ⟨b, o + i, none⟩ = some (.int .u8 (xs.getD i 0))) (hascii : ∀ i, i < n → 0 ≤ xs.getD i 0 ∧ xs.getD i 0 < 128) (htab : Lib.TabIs Tryz.prog w "bytes.asciiSpace" .u8 Lib.asciiSpaceTab) :
    Calls Tryz.prog 32 #[.slice (some ⟨b, o, none⟩) n c] w fun e w' => e = .returned (Lib.bytesTrimSpace b o c (Lib.bytesOf xs)) ∧ w' = w := Any.bytes_TrimSpace Tryz.laysbs188 b o n c xs w hx hnc hbig hc hascii htab
def Tryz.lays188_ren : Go.Shelf.Ren := ⟨fun | 188 => 32 | 256 => 38 | 199 => 39 | 293 => 54 | 292 => 53 | 261 => 55 | 327 => 75 | 325 => 73 | 326 => 74 | 311 => 76 | 312 => 77 | 341 => 98 | 342 => 99 | 120 => 113 | n => n, fun | 37 => 55 | 3 => 3 | 0 => 0 | 5 => 5 | 4 => 4 | 40 => 117 | 119 => 118 | 21 => 21 | 51 => 23 | 141 => 138 | 105 => 155 | 196 => 160 | 193 => 157 | 198 => 163 | 49 => 161 | 194 => 158 | 201 => 166 | 226 => 186 | 46 => 37 | 227 => 187 | 139 => 204 | 138 => 203 | n => n, fun | 2 => 2 | 6 => 4 | 3 => 10 | 4 => 11 | n => n⟩
theorem Tryz.lays188 : Go.Proofs.Lays.n188 Tryz.prog Tryz.lays188_ren := {
  mixed := by kernel_rfl
  f120 := Tryz.func113.trans (congrArg some (by kernel_rfl))
  f188 := Tryz.func32.trans (congrArg some (by kernel_rfl))
  f199 := Tryz.func39.trans (congrArg some (by kernel_rfl))
  f256 := Tryz.func38.trans (congrArg some (by kernel_rfl))
  f261 := Tryz.func55.trans (congrArg some (by kernel_rfl))
  f292 := Tryz.func53.trans (congrArg some (by kernel_rfl))
  f293 := Tryz.func54.trans (congrArg some (by kernel_rfl))
  f311 := Tryz.func76.trans (congrArg some (by kernel_rfl))
  f312 := Tryz.func77.trans (congrArg some (by kernel_rfl))
  f325 := Tryz.func73.trans (congrArg some (by kernel_rfl))
  f326 := Tryz.func74.trans (congrArg some (by kernel_rfl))
  f327 := Tryz.func75.trans (congrArg some (by kernel_rfl))
  f341 := Tryz.func98.trans (congrArg some (by kernel_rfl))
  f342 := Tryz.func99.trans (congrArg some (by kernel_rfl))
  t0 := Tryz.underlying0
  a0 := Tryz.isAgg0
  z0 := Tryz.sizeOf0
  v0 := Tryz.zeroValue0
  t3 := Tryz.underlying3
  a3 := Tryz.isAgg3
  z3 := Tryz.sizeOf3
  v3 := Tryz.zeroValue3
  t4 := Tryz.underlying4
  a4 := Tryz.isAgg4
  z4 := Tryz.sizeOf4
  v4 := Tryz.zeroValue4
  t5 := Tryz.underlying5
  a5 := Tryz.isAgg5
  z5 := Tryz.sizeOf5
  v5 := Tryz.zeroValue5
  t21 := Tryz.underlying21
  a21 := Tryz.isAgg21
  z21 := Tryz.sizeOf21
  v21 := Tryz.zeroValue21
  t37 := Tryz.underlying55
  a37 := Tryz.isAgg55
  z37 := Tryz.sizeOf55
  v37 := Tryz.zeroValue55
  t40 := Tryz.underlying117
  a40 := Tryz.isAgg117
  z40 := Tryz.sizeOf117
  v40 := Tryz.zeroValue117
  t46 := Tryz.underlying37
  a46 := Tryz.isAgg37
  z46 := Tryz.sizeOf37
  v46 := Tryz.zeroValue37
  t49 := Tryz.underlying161
  a49 := Tryz.isAgg161
  z49 := Tryz.sizeOf161
  v49 := Tryz.zeroValue161
  t51 := Tryz.underlying23
  a51 := Tryz.isAgg23
  z51 := Tryz.sizeOf23
  v51 := Tryz.zeroValue23
  t105 := Tryz.underlying155
  a105 := Tryz.isAgg155
  z105 := Tryz.sizeOf155
  v105 := Tryz.zeroValue155
  t119 := Tryz.underlying118
  a119 := Tryz.isAgg118
  z119 := Tryz.sizeOf118
  t138 := Tryz.underlying203
  a138 := Tryz.isAgg203
  z138 := Tryz.sizeOf203
  v138 := Tryz.zeroValue203
  t139 := Tryz.underlying204
  a139 := Tryz.isAgg204
  z139 := Tryz.sizeOf204
  v139 := Tryz.zeroValue204
  t141 := Tryz.underlying138
  a141 := Tryz.isAgg138
  z141 := Tryz.sizeOf138
  v141 := Tryz.zeroValue138
  t193 := Tryz.underlying157
  a193 := Tryz.isAgg157
  z193 := Tryz.sizeOf157
  v193 := Tryz.zeroValue157
  t194 := Tryz.underlying158
  a194 := Tryz.isAgg158
  z194 := Tryz.sizeOf158
  v194 := Tryz.zeroValue158
  t196 := Tryz.underlying160
  a196 := Tryz.isAgg160
  z196 := Tryz.sizeOf160
  v196 := Tryz.zeroValue160
  t198 := Tryz.underlying163
  a198 := Tryz.isAgg163
  z198 := Tryz.sizeOf163
  v198 := Tryz.zeroValue163
  t201 := Tryz.underlying166
  a201 := Tryz.isAgg166
  z201 := Tryz.sizeOf166
  v201 := Tryz.zeroValue166
  t226 := Tryz.underlying186
  a226 := Tryz.isAgg186
  z226 := Tryz.sizeOf186
  v226 := Tryz.zeroValue186
  t227 := Tryz.underlying187
  a227 := Tryz.isAgg187
  z227 := Tryz.sizeOf187
  v227 := Tryz.zeroValue187
  g2 := by kernel_rfl
  g3 := by kernel_rfl
  g4 := by kernel_rfl
  g6 := by kernel_rfl }
open Go.RowKit in
/-- bytes.TrimSpace AT nil: nil. (LAID: no walk: one application.) -/
theorem Tryz.bytes_TrimSpace_nil (w : World) :
    Calls Tryz.prog 32 #[.slice none 0 0] w fun e w' => e = .returned (.slice none 0 0) ∧ w' = w := Any.bytes_TrimSpace_nil Tryz.lays188 w
end Go.Proofs
