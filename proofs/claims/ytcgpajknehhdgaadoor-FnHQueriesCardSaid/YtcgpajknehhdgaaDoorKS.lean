/- The shelf's contracts at this program, printed by the kit's lay-plain.mjs out of the layings that lay-shelf.mjs wrote; unused imports struck. -/
import Derived.Shelf.Small.Utf8
import Derived.Shelf.Small.Strs
import Derived.Shelf.Strings.Search1
import Derived.Shelf.Unicode.Decode
import Derived.Shelf.Unicode.DecodeSlow
import Derived.Shelf.Unicode.DecodeAny
import Derived.Shelf.Unicode.DecodeLast
import Derived.Lib.TrimUEq
import Derived.Test.YtcgpajknehhdgaaDoorProg
namespace Go.Proofs
open Go.Shelf
def Tryd.lays119_ren : Go.Shelf.Ren := ⟨fun | 119 => 118 | n => n, fun | 21 => 21 | 4 => 4 | n => n, fun | n => n⟩
theorem Tryd.lays119 : Go.Proofs.Lays.n119 Tryd.prog Tryd.lays119_ren := {
  mixed := by kernel_rfl
  f119 := Tryd.func118.trans (congrArg some (by kernel_rfl))
  t4 := Tryd.underlying4
  a4 := Tryd.isAgg4
  z4 := Tryd.sizeOf4
  v4 := Tryd.zeroValue4
  t21 := Tryd.underlying21
  a21 := Tryd.isAgg21
  z21 := Tryd.sizeOf21
  v21 := Tryd.zeroValue21 }
/-- utf8.ValidRune: "ValidRune reports whether r can be legally encoded as UTF-8. Code points that are out of range or a surrogate half are illegal.": IT RETURNS 'Lib.validRune r'; the world is as it was. (LAID: no walk: one application.) -/
theorem Tryd.utf8_ValidRune (r : Int) (w : World) :
    Calls Tryd.prog 118 #[.int .i32 r] w fun e w' => e = .returned (.bool (Lib.validRune r)) ∧ w' = w := Any.utf8_ValidRune Tryd.lays119 r w
def Tryd.lays120_ren : Go.Shelf.Ren := ⟨fun | 120 => 115 | n => n, fun | 5 => 5 | 4 => 4 | n => n, fun | n => n⟩
theorem Tryd.lays120 : Go.Proofs.Lays.n120 Tryd.prog Tryd.lays120_ren := {
  mixed := by kernel_rfl
  f120 := Tryd.func115.trans (congrArg some (by kernel_rfl))
  t4 := Tryd.underlying4
  a4 := Tryd.isAgg4
  z4 := Tryd.sizeOf4
  v4 := Tryd.zeroValue4
  t5 := Tryd.underlying5
  a5 := Tryd.isAgg5
  z5 := Tryd.sizeOf5
  v5 := Tryd.zeroValue5 }
/-- utf8.RuneStart: "RuneStart reports whether the byte could be the first byte of an encoded, possibly invalid rune. Second and subsequent bytes always have the top two bits set to 10.": IT RETURNS 'Lib.runeStart b'; the world is as it was. ('h0', 'h1': b is a byte: a caller has it of every byte that it was handed.) (LAID: no walk: one application.) -/
theorem Tryd.utf8_RuneStart (b : Int) (w : World) (h0 : 0 ≤ b) (h1 : b < 256) :
    Calls Tryd.prog 115 #[.int .u8 b] w fun e w' => e = .returned (.bool (Lib.runeStart b)) ∧ w' = w := Any.utf8_RuneStart Tryd.lays120 b w h0 h1
def Tryd.lays137_ren : Go.Shelf.Ren := ⟨fun | 137 => 73 | 217 => 91 | 266 => 104 | n => n, fun | 9 => 9 | 5 => 5 | 3 => 3 | n => n, fun | n => n⟩
theorem Tryd.lays137 : Go.Proofs.Lays.n137 Tryd.prog Tryd.lays137_ren := {
  mixed := by kernel_rfl
  f137 := Tryd.func73.trans (congrArg some (by kernel_rfl))
  f217 := Tryd.func91.trans (congrArg some (by kernel_rfl))
  f266 := Tryd.func104.trans (congrArg some (by kernel_rfl))
  t3 := Tryd.underlying3
  a3 := Tryd.isAgg3
  z3 := Tryd.sizeOf3
  v3 := Tryd.zeroValue3
  t5 := Tryd.underlying5
  a5 := Tryd.isAgg5
  z5 := Tryd.sizeOf5
  v5 := Tryd.zeroValue5
  t9 := Tryd.underlying9
  a9 := Tryd.isAgg9
  z9 := Tryd.sizeOf9
  v9 := Tryd.zeroValue9 }
open Go.RowKit in
/-- strings.IndexByte: "IndexByte returns the index of the first instance of c in s, or -1 if c is not present in s.": IT RETURNS 'Lib.indexByte s c'; the world is as it was. (LAID: no walk: one application.) -/
theorem Tryd.strings_IndexByte (s : ByteArray) (c : Int) (w : World) :
    Calls Tryd.prog 73 #[.string s, .int .u8 c] w fun e w' => e = .returned (.int .i64 (Lib.indexByte s.data.toList c.toNat.toUInt8)) ∧ w' = w := Any.strings_IndexByte Tryd.lays137 s c w
def Tryd.lays246_ren : Go.Shelf.Ren := ⟨fun | 246 => 123 | 283 => 124 | 284 => 125 | 285 => 126 | 286 => 127 | 129 => 78 | 317 => 128 | 318 => 129 | 319 => 130 | 320 => 131 | 337 => 132 | 338 => 133 | n => n, fun | 2 => 2 | 3 => 3 | 9 => 9 | 4 => 4 | 171 => 168 | 0 => 0 | 53 => 62 | 37 => 22 | 5 => 5 | 173 => 170 | 212 => 174 | 51 => 165 | 20 => 20 | 213 => 175 | 46 => 88 | 232 => 179 | 233 => 180 | n => n, fun | 17 => 10 | 18 => 11 | 19 => 12 | n => n⟩
theorem Tryd.lays246 : Go.Proofs.Lays.n246 Tryd.prog Tryd.lays246_ren := {
  mixed := by kernel_rfl
  f129 := Tryd.func78.trans (congrArg some (by kernel_rfl))
  f246 := Tryd.func123.trans (congrArg some (by kernel_rfl))
  f283 := Tryd.func124.trans (congrArg some (by kernel_rfl))
  f284 := Tryd.func125.trans (congrArg some (by kernel_rfl))
  f285 := Tryd.func126.trans (congrArg some (by kernel_rfl))
  f286 := Tryd.func127.trans (congrArg some (by kernel_rfl))
  f317 := Tryd.func128.trans (congrArg some (by kernel_rfl))
  f318 := Tryd.func129.trans (congrArg some (by kernel_rfl))
  f319 := Tryd.func130.trans (congrArg some (by kernel_rfl))
  f320 := Tryd.func131.trans (congrArg some (by kernel_rfl))
  f337 := Tryd.func132.trans (congrArg some (by kernel_rfl))
  f338 := Tryd.func133.trans (congrArg some (by kernel_rfl))
  t0 := Tryd.underlying0
  a0 := Tryd.isAgg0
  z0 := Tryd.sizeOf0
  v0 := Tryd.zeroValue0
  t2 := Tryd.underlying2
  a2 := Tryd.isAgg2
  z2 := Tryd.sizeOf2
  v2 := Tryd.zeroValue2
  t3 := Tryd.underlying3
  a3 := Tryd.isAgg3
  z3 := Tryd.sizeOf3
  v3 := Tryd.zeroValue3
  t4 := Tryd.underlying4
  a4 := Tryd.isAgg4
  z4 := Tryd.sizeOf4
  v4 := Tryd.zeroValue4
  t5 := Tryd.underlying5
  a5 := Tryd.isAgg5
  z5 := Tryd.sizeOf5
  v5 := Tryd.zeroValue5
  t9 := Tryd.underlying9
  a9 := Tryd.isAgg9
  z9 := Tryd.sizeOf9
  v9 := Tryd.zeroValue9
  t20 := Tryd.underlying20
  a20 := Tryd.isAgg20
  z20 := Tryd.sizeOf20
  v20 := Tryd.zeroValue20
  t37 := Tryd.underlying22
  a37 := Tryd.isAgg22
  z37 := Tryd.sizeOf22
  v37 := Tryd.zeroValue22
  t46 := Tryd.underlying88
  a46 := Tryd.isAgg88
  z46 := Tryd.sizeOf88
  v46 := Tryd.zeroValue88
  t51 := Tryd.underlying165
  a51 := Tryd.isAgg165
  z51 := Tryd.sizeOf165
  v51 := Tryd.zeroValue165
  t53 := Tryd.underlying62
  a53 := Tryd.isAgg62
  z53 := Tryd.sizeOf62
  v53 := Tryd.zeroValue62
  t171 := Tryd.underlying168
  a171 := Tryd.isAgg168
  z171 := Tryd.sizeOf168
  v171 := Tryd.zeroValue168
  t173 := Tryd.underlying170
  a173 := Tryd.isAgg170
  z173 := Tryd.sizeOf170
  v173 := Tryd.zeroValue170
  t212 := Tryd.underlying174
  a212 := Tryd.isAgg174
  z212 := Tryd.sizeOf174
  v212 := Tryd.zeroValue174
  t213 := Tryd.underlying175
  a213 := Tryd.isAgg175
  z213 := Tryd.sizeOf175
  t232 := Tryd.underlying179
  a232 := Tryd.isAgg179
  z232 := Tryd.sizeOf179
  v232 := Tryd.zeroValue179
  t233 := Tryd.underlying180
  a233 := Tryd.isAgg180
  z233 := Tryd.sizeOf180
  v233 := Tryd.zeroValue180
  g17 := by kernel_rfl
  g18 := by kernel_rfl
  g19 := by kernel_rfl }
def Tryd.lays243_ren : Go.Shelf.Ren := ⟨fun | 243 => 122 | 246 => 123 | 283 => 124 | 284 => 125 | 285 => 126 | 286 => 127 | 129 => 78 | 317 => 128 | 318 => 129 | 319 => 130 | 320 => 131 | 337 => 132 | 338 => 133 | n => n, fun | 3 => 3 | 9 => 9 | 2 => 2 | 4 => 4 | 171 => 168 | 0 => 0 | 53 => 62 | 37 => 22 | 5 => 5 | 173 => 170 | 212 => 174 | 51 => 165 | 20 => 20 | 213 => 175 | 46 => 88 | 232 => 179 | 233 => 180 | n => n, fun | 17 => 10 | 18 => 11 | 19 => 12 | n => n⟩
theorem Tryd.lays243 : Go.Proofs.Lays.n243 Tryd.prog Tryd.lays243_ren := {
  mixed := by kernel_rfl
  f129 := Tryd.func78.trans (congrArg some (by kernel_rfl))
  f243 := Tryd.func122.trans (congrArg some (by kernel_rfl))
  f246 := Tryd.func123.trans (congrArg some (by kernel_rfl))
  f283 := Tryd.func124.trans (congrArg some (by kernel_rfl))
  f284 := Tryd.func125.trans (congrArg some (by kernel_rfl))
  f285 := Tryd.func126.trans (congrArg some (by kernel_rfl))
  f286 := Tryd.func127.trans (congrArg some (by kernel_rfl))
  f317 := Tryd.func128.trans (congrArg some (by kernel_rfl))
  f318 := Tryd.func129.trans (congrArg some (by kernel_rfl))
  f319 := Tryd.func130.trans (congrArg some (by kernel_rfl))
  f320 := Tryd.func131.trans (congrArg some (by kernel_rfl))
  f337 := Tryd.func132.trans (congrArg some (by kernel_rfl))
  f338 := Tryd.func133.trans (congrArg some (by kernel_rfl))
  t0 := Tryd.underlying0
  a0 := Tryd.isAgg0
  z0 := Tryd.sizeOf0
  v0 := Tryd.zeroValue0
  t2 := Tryd.underlying2
  a2 := Tryd.isAgg2
  z2 := Tryd.sizeOf2
  v2 := Tryd.zeroValue2
  t3 := Tryd.underlying3
  a3 := Tryd.isAgg3
  z3 := Tryd.sizeOf3
  v3 := Tryd.zeroValue3
  t4 := Tryd.underlying4
  a4 := Tryd.isAgg4
  z4 := Tryd.sizeOf4
  v4 := Tryd.zeroValue4
  t5 := Tryd.underlying5
  a5 := Tryd.isAgg5
  z5 := Tryd.sizeOf5
  v5 := Tryd.zeroValue5
  t9 := Tryd.underlying9
  a9 := Tryd.isAgg9
  z9 := Tryd.sizeOf9
  v9 := Tryd.zeroValue9
  t20 := Tryd.underlying20
  a20 := Tryd.isAgg20
  z20 := Tryd.sizeOf20
  v20 := Tryd.zeroValue20
  t37 := Tryd.underlying22
  a37 := Tryd.isAgg22
  z37 := Tryd.sizeOf22
  v37 := Tryd.zeroValue22
  t46 := Tryd.underlying88
  a46 := Tryd.isAgg88
  z46 := Tryd.sizeOf88
  v46 := Tryd.zeroValue88
  t51 := Tryd.underlying165
  a51 := Tryd.isAgg165
  z51 := Tryd.sizeOf165
  v51 := Tryd.zeroValue165
  t53 := Tryd.underlying62
  a53 := Tryd.isAgg62
  z53 := Tryd.sizeOf62
  v53 := Tryd.zeroValue62
  t171 := Tryd.underlying168
  a171 := Tryd.isAgg168
  z171 := Tryd.sizeOf168
  v171 := Tryd.zeroValue168
  t173 := Tryd.underlying170
  a173 := Tryd.isAgg170
  z173 := Tryd.sizeOf170
  v173 := Tryd.zeroValue170
  t212 := Tryd.underlying174
  a212 := Tryd.isAgg174
  z212 := Tryd.sizeOf174
  v212 := Tryd.zeroValue174
  t213 := Tryd.underlying175
  a213 := Tryd.isAgg175
  z213 := Tryd.sizeOf175
  t232 := Tryd.underlying179
  a232 := Tryd.isAgg179
  z232 := Tryd.sizeOf179
  v232 := Tryd.zeroValue179
  t233 := Tryd.underlying180
  a233 := Tryd.isAgg180
  z233 := Tryd.sizeOf180
  v233 := Tryd.zeroValue180
  g17 := by kernel_rfl
  g18 := by kernel_rfl
  g19 := by kernel_rfl }
def Tryd.lays171_ren : Go.Shelf.Ren := ⟨fun | 171 => 114 | 243 => 122 | 246 => 123 | 283 => 124 | 284 => 125 | 285 => 126 | 286 => 127 | 129 => 78 | 317 => 128 | 318 => 129 | 319 => 130 | 320 => 131 | 337 => 132 | 338 => 133 | n => n, fun | 3 => 3 | 9 => 9 | 2 => 2 | 4 => 4 | 171 => 168 | 0 => 0 | 53 => 62 | 37 => 22 | 5 => 5 | 173 => 170 | 212 => 174 | 51 => 165 | 20 => 20 | 213 => 175 | 46 => 88 | 232 => 179 | 233 => 180 | n => n, fun | 17 => 10 | 18 => 11 | 19 => 12 | n => n⟩
theorem Tryd.lays171 : Go.Proofs.Lays.n171 Tryd.prog Tryd.lays171_ren := {
  mixed := by kernel_rfl
  f129 := Tryd.func78.trans (congrArg some (by kernel_rfl))
  f171 := Tryd.func114.trans (congrArg some (by kernel_rfl))
  f243 := Tryd.func122.trans (congrArg some (by kernel_rfl))
  f246 := Tryd.func123.trans (congrArg some (by kernel_rfl))
  f283 := Tryd.func124.trans (congrArg some (by kernel_rfl))
  f284 := Tryd.func125.trans (congrArg some (by kernel_rfl))
  f285 := Tryd.func126.trans (congrArg some (by kernel_rfl))
  f286 := Tryd.func127.trans (congrArg some (by kernel_rfl))
  f317 := Tryd.func128.trans (congrArg some (by kernel_rfl))
  f318 := Tryd.func129.trans (congrArg some (by kernel_rfl))
  f319 := Tryd.func130.trans (congrArg some (by kernel_rfl))
  f320 := Tryd.func131.trans (congrArg some (by kernel_rfl))
  f337 := Tryd.func132.trans (congrArg some (by kernel_rfl))
  f338 := Tryd.func133.trans (congrArg some (by kernel_rfl))
  t0 := Tryd.underlying0
  a0 := Tryd.isAgg0
  z0 := Tryd.sizeOf0
  v0 := Tryd.zeroValue0
  t2 := Tryd.underlying2
  a2 := Tryd.isAgg2
  z2 := Tryd.sizeOf2
  v2 := Tryd.zeroValue2
  t3 := Tryd.underlying3
  a3 := Tryd.isAgg3
  z3 := Tryd.sizeOf3
  v3 := Tryd.zeroValue3
  t4 := Tryd.underlying4
  a4 := Tryd.isAgg4
  z4 := Tryd.sizeOf4
  v4 := Tryd.zeroValue4
  t5 := Tryd.underlying5
  a5 := Tryd.isAgg5
  z5 := Tryd.sizeOf5
  v5 := Tryd.zeroValue5
  t9 := Tryd.underlying9
  a9 := Tryd.isAgg9
  z9 := Tryd.sizeOf9
  v9 := Tryd.zeroValue9
  t20 := Tryd.underlying20
  a20 := Tryd.isAgg20
  z20 := Tryd.sizeOf20
  v20 := Tryd.zeroValue20
  t37 := Tryd.underlying22
  a37 := Tryd.isAgg22
  z37 := Tryd.sizeOf22
  v37 := Tryd.zeroValue22
  t46 := Tryd.underlying88
  a46 := Tryd.isAgg88
  z46 := Tryd.sizeOf88
  v46 := Tryd.zeroValue88
  t51 := Tryd.underlying165
  a51 := Tryd.isAgg165
  z51 := Tryd.sizeOf165
  v51 := Tryd.zeroValue165
  t53 := Tryd.underlying62
  a53 := Tryd.isAgg62
  z53 := Tryd.sizeOf62
  v53 := Tryd.zeroValue62
  t171 := Tryd.underlying168
  a171 := Tryd.isAgg168
  z171 := Tryd.sizeOf168
  v171 := Tryd.zeroValue168
  t173 := Tryd.underlying170
  a173 := Tryd.isAgg170
  z173 := Tryd.sizeOf170
  v173 := Tryd.zeroValue170
  t212 := Tryd.underlying174
  a212 := Tryd.isAgg174
  z212 := Tryd.sizeOf174
  v212 := Tryd.zeroValue174
  t213 := Tryd.underlying175
  a213 := Tryd.isAgg175
  z213 := Tryd.sizeOf175
  t232 := Tryd.underlying179
  a232 := Tryd.isAgg179
  z232 := Tryd.sizeOf179
  v232 := Tryd.zeroValue179
  t233 := Tryd.underlying180
  a233 := Tryd.isAgg180
  z233 := Tryd.sizeOf180
  v233 := Tryd.zeroValue180
  g17 := by kernel_rfl
  g18 := by kernel_rfl
  g19 := by kernel_rfl }
def Tryd.lays217_ren : Go.Shelf.Ren := ⟨fun | 217 => 91 | 266 => 104 | n => n, fun | 9 => 9 | 5 => 5 | 3 => 3 | n => n, fun | n => n⟩
theorem Tryd.lays217 : Go.Proofs.Lays.n217 Tryd.prog Tryd.lays217_ren := {
  mixed := by kernel_rfl
  f217 := Tryd.func91.trans (congrArg some (by kernel_rfl))
  f266 := Tryd.func104.trans (congrArg some (by kernel_rfl))
  t3 := Tryd.underlying3
  a3 := Tryd.isAgg3
  z3 := Tryd.sizeOf3
  v3 := Tryd.zeroValue3
  t5 := Tryd.underlying5
  a5 := Tryd.isAgg5
  z5 := Tryd.sizeOf5
  v5 := Tryd.zeroValue5
  t9 := Tryd.underlying9
  a9 := Tryd.isAgg9
  z9 := Tryd.sizeOf9
  v9 := Tryd.zeroValue9 }
open Go.RowKit Go.Lib in
/-- internal/stringslite.IndexByte (what strings.IndexByte calls): IT RETURNS 'Lib.indexByte s c'; the world is as it was. (LAID: no walk: one application.) -/
theorem Tryd.stringslite_IndexByte (s : ByteArray) (c : Int) (w : World) :
    Calls Tryd.prog 91 #[.string s, .int .u8 c] w fun e w' => e = .returned (.int .i64 (Lib.indexByte s.data.toList c.toNat.toUInt8)) ∧ w' = w := Any.stringslite_IndexByte Tryd.lays217 s c w
def Tryd.lays197_ren : Go.Shelf.Ren := ⟨fun | 197 => 94 | 260 => 106 | n => n, fun | 9 => 9 | 21 => 21 | 3 => 3 | 4 => 4 | 5 => 5 | 105 => 126 | 119 => 158 | 0 => 0 | 46 => 88 | 139 => 161 | 138 => 160 | n => n, fun | 3 => 8 | 4 => 9 | n => n⟩
theorem Tryd.lays197 : Go.Proofs.Lays.n197 Tryd.prog Tryd.lays197_ren := {
  mixed := by kernel_rfl
  f197 := Tryd.func94.trans (congrArg some (by kernel_rfl))
  f260 := Tryd.func106.trans (congrArg some (by kernel_rfl))
  t0 := Tryd.underlying0
  a0 := Tryd.isAgg0
  z0 := Tryd.sizeOf0
  v0 := Tryd.zeroValue0
  t3 := Tryd.underlying3
  a3 := Tryd.isAgg3
  z3 := Tryd.sizeOf3
  v3 := Tryd.zeroValue3
  t4 := Tryd.underlying4
  a4 := Tryd.isAgg4
  z4 := Tryd.sizeOf4
  v4 := Tryd.zeroValue4
  t5 := Tryd.underlying5
  a5 := Tryd.isAgg5
  z5 := Tryd.sizeOf5
  v5 := Tryd.zeroValue5
  t9 := Tryd.underlying9
  a9 := Tryd.isAgg9
  z9 := Tryd.sizeOf9
  v9 := Tryd.zeroValue9
  t21 := Tryd.underlying21
  a21 := Tryd.isAgg21
  z21 := Tryd.sizeOf21
  v21 := Tryd.zeroValue21
  t46 := Tryd.underlying88
  a46 := Tryd.isAgg88
  z46 := Tryd.sizeOf88
  v46 := Tryd.zeroValue88
  t105 := Tryd.underlying126
  a105 := Tryd.isAgg126
  z105 := Tryd.sizeOf126
  v105 := Tryd.zeroValue126
  t119 := Tryd.underlying158
  a119 := Tryd.isAgg158
  z119 := Tryd.sizeOf158
  t138 := Tryd.underlying160
  a138 := Tryd.isAgg160
  z138 := Tryd.sizeOf160
  v138 := Tryd.zeroValue160
  t139 := Tryd.underlying161
  a139 := Tryd.isAgg161
  z139 := Tryd.sizeOf161
  v139 := Tryd.zeroValue161
  g3 := by kernel_rfl
  g4 := by kernel_rfl }
open Go.RowKit Go.Lib in
/-- unicode/utf8.DecodeRuneInString: "DecodeRuneInString is like DecodeRune but its input is a string.": ("DecodeRune unpacks the first UTF-8 encoding in p and returns the rune and its width in bytes."): WHERE s BEGINS WITH AN ASCII BYTE x: (x, 1). (LAID: no walk: one application.) -/
theorem Tryd.utf8_DecodeRuneInString_ascii (s : ByteArray) (x : UInt8) (w : World) (h0 : s.data.toList[0]? = some x) (hx : x.toNat < 128) :
    Calls Tryd.prog 94 #[.string s] w fun e w' => e = .returned (.tuple #[.int .i32 x.toNat, .int .i64 1]) ∧ w' = w := Any.utf8_DecodeRuneInString_ascii Tryd.lays197 s x w h0 hx
def Tryd.lays260_ren : Go.Shelf.Ren := ⟨fun | 260 => 106 | n => n, fun | 9 => 9 | 21 => 21 | 3 => 3 | 4 => 4 | 5 => 5 | 119 => 158 | 0 => 0 | 46 => 88 | 139 => 161 | 138 => 160 | n => n, fun | 3 => 8 | 4 => 9 | n => n⟩
theorem Tryd.lays260 : Go.Proofs.Lays.n260 Tryd.prog Tryd.lays260_ren := {
  mixed := by kernel_rfl
  f260 := Tryd.func106.trans (congrArg some (by kernel_rfl))
  t0 := Tryd.underlying0
  a0 := Tryd.isAgg0
  z0 := Tryd.sizeOf0
  v0 := Tryd.zeroValue0
  t3 := Tryd.underlying3
  a3 := Tryd.isAgg3
  z3 := Tryd.sizeOf3
  v3 := Tryd.zeroValue3
  t4 := Tryd.underlying4
  a4 := Tryd.isAgg4
  z4 := Tryd.sizeOf4
  v4 := Tryd.zeroValue4
  t5 := Tryd.underlying5
  a5 := Tryd.isAgg5
  z5 := Tryd.sizeOf5
  v5 := Tryd.zeroValue5
  t9 := Tryd.underlying9
  a9 := Tryd.isAgg9
  z9 := Tryd.sizeOf9
  v9 := Tryd.zeroValue9
  t21 := Tryd.underlying21
  a21 := Tryd.isAgg21
  z21 := Tryd.sizeOf21
  v21 := Tryd.zeroValue21
  t46 := Tryd.underlying88
  a46 := Tryd.isAgg88
  z46 := Tryd.sizeOf88
  v46 := Tryd.zeroValue88
  t119 := Tryd.underlying158
  a119 := Tryd.isAgg158
  z119 := Tryd.sizeOf158
  t138 := Tryd.underlying160
  a138 := Tryd.isAgg160
  z138 := Tryd.sizeOf160
  v138 := Tryd.zeroValue160
  t139 := Tryd.underlying161
  a139 := Tryd.isAgg161
  z139 := Tryd.sizeOf161
  v139 := Tryd.zeroValue161
  g3 := by kernel_rfl
  g4 := by kernel_rfl }
open Go.RowKit Go.Lib in
theorem Tryd.utf8_decodeRuneInStringSlow (s : ByteArray) (w : World) (hT : Lib.Utf8Tabs 8 9 w) :
    Calls Tryd.prog 106 #[.string s] w fun e w' => e = .returned (.tuple #[.int .i32 (Lib.decodeGo s).1, .int .i64 (Lib.decodeGo s).2]) ∧ Below w.heap.size w w' := Any.utf8_decodeRuneInStringSlow Tryd.lays260 s w hT
open Go.RowKit Go.Lib in
/-- **unicode/utf8.DecodeRuneInString AT EVERY STRING.** (LAID: no walk: one application.) -/
theorem Tryd.utf8_DecodeRuneInString (s : ByteArray) (w : World) (hT : Lib.Utf8Tabs 8 9 w) :
    Calls Tryd.prog 94 #[.string s] w fun e w' => e = .returned (.tuple #[.int .i32 (Lib.decodeGo s).1, .int .i64 (Lib.decodeGo s).2]) ∧ Below w.heap.size w w' := Any.utf8_DecodeRuneInString Tryd.lays197 s w hT
def Tryd.lays271_ren : Go.Shelf.Ren := ⟨fun | 271 => 105 | 120 => 115 | 197 => 94 | 260 => 106 | n => n, fun | 9 => 9 | 21 => 21 | 3 => 3 | 4 => 4 | 5 => 5 | 105 => 126 | 119 => 158 | 0 => 0 | 46 => 88 | 139 => 161 | 138 => 160 | n => n, fun | 3 => 8 | 4 => 9 | n => n⟩
theorem Tryd.lays271 : Go.Proofs.Lays.n271 Tryd.prog Tryd.lays271_ren := {
  mixed := by kernel_rfl
  f120 := Tryd.func115.trans (congrArg some (by kernel_rfl))
  f197 := Tryd.func94.trans (congrArg some (by kernel_rfl))
  f260 := Tryd.func106.trans (congrArg some (by kernel_rfl))
  f271 := Tryd.func105.trans (congrArg some (by kernel_rfl))
  t0 := Tryd.underlying0
  a0 := Tryd.isAgg0
  z0 := Tryd.sizeOf0
  v0 := Tryd.zeroValue0
  t3 := Tryd.underlying3
  a3 := Tryd.isAgg3
  z3 := Tryd.sizeOf3
  v3 := Tryd.zeroValue3
  t4 := Tryd.underlying4
  a4 := Tryd.isAgg4
  z4 := Tryd.sizeOf4
  v4 := Tryd.zeroValue4
  t5 := Tryd.underlying5
  a5 := Tryd.isAgg5
  z5 := Tryd.sizeOf5
  v5 := Tryd.zeroValue5
  t9 := Tryd.underlying9
  a9 := Tryd.isAgg9
  z9 := Tryd.sizeOf9
  v9 := Tryd.zeroValue9
  t21 := Tryd.underlying21
  a21 := Tryd.isAgg21
  z21 := Tryd.sizeOf21
  v21 := Tryd.zeroValue21
  t46 := Tryd.underlying88
  a46 := Tryd.isAgg88
  z46 := Tryd.sizeOf88
  v46 := Tryd.zeroValue88
  t105 := Tryd.underlying126
  a105 := Tryd.isAgg126
  z105 := Tryd.sizeOf126
  v105 := Tryd.zeroValue126
  t119 := Tryd.underlying158
  a119 := Tryd.isAgg158
  z119 := Tryd.sizeOf158
  t138 := Tryd.underlying160
  a138 := Tryd.isAgg160
  z138 := Tryd.sizeOf160
  v138 := Tryd.zeroValue160
  t139 := Tryd.underlying161
  a139 := Tryd.isAgg161
  z139 := Tryd.sizeOf161
  v139 := Tryd.zeroValue161
  g3 := by kernel_rfl
  g4 := by kernel_rfl }
open Go.RowKit Go.Lib in
/-- **unicode/utf8.DecodeLastRuneInString AT EVERY STRING.** (LAID: no walk: one application.) -/
theorem Tryd.utf8_DecodeLastRuneInString (s : ByteArray) (w : World) (hs : s.size ≤ 9223372036854775807) (hT : Lib.Utf8Tabs 8 9 w) :
    Calls Tryd.prog 105 #[.string s] w fun e w' => e = .returned (.tuple #[.int .i32 (Lib.decodeLastL s.data.toList).1, .int .i64 (Lib.decodeLastL s.data.toList).2]) ∧ Below w.heap.size w w' := Any.utf8_DecodeLastRuneInString Tryd.lays271 s w hs hT
end Go.Proofs
