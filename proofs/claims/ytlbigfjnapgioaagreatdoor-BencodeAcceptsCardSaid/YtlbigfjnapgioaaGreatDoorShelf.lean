
import Derived.Shelf.Small.Utf8
import Derived.Shelf.Small.Strs
import Derived.Shelf.Strconv.Atoi
import Derived.Shelf.Strconv.AtoiErrFast
import Derived.Shelf.Strconv.ParseIntEmpty
import Derived.Shelf.Strconv.AtoiFail
import Derived.Shelf.LaysM
import Derived.Shelf.Strconv.Clone
import Derived.Shelf.Strconv.SyntaxError
import Derived.Shelf.LaysC
import Derived.Shelf.Strconv.ToError
import Derived.Shelf.Strconv.Lower
import Derived.Shelf.Strconv.ParseUint10
import Derived.Shelf.Strconv.ParseUint10Empty
import Derived.Shelf.Strconv.ParseUint10Any
import Derived.Shelf.Strconv.ParseInt10
import Derived.Shelf.Strconv.AtoiLong
import Derived.Shelf.Strconv.AtoiInnerAll
import Derived.Shelf.Strconv.RangeError
import Derived.Shelf.Strconv.ToErrorRange
import Derived.Shelf.Strconv.AtoiAll
import Derived.Shelf.Strconv.ErrVarAll
import Derived.Shelf.Strings.Search1
import Derived.Shelf.Strings.Search2
import Derived.Shelf.Strings.Cut
import Derived.Shelf.Strings.Shaped
import Derived.Shelf.Strings.Runes
import Derived.Shelf.Strings.AsciiSet
import Derived.Shelf.Bits.Mul64
import Derived.Shelf.Unicode.DecodeSlow
import Derived.Shelf.Unicode.DecodeAny
import Derived.Test.YtlbigfjnapgioaaGreatDoorProg
namespace Go.Proofs
open Go.Shelf
def Tryz.lays106_ren : Go.Shelf.Ren:=⟨fun | 106=>94 | 213=>126 | 265=>158 | n=>n,fun | 9=>9 | 3=>3 | n=>n,fun | n=>n⟩
theorem Tryz.lays106 : Go.Proofs.Lays.n106 Tryz.prog Tryz.lays106_ren:={
 mixed:=by kernel_rfl
 f106:=Tryz.func94.trans (congrArg some (by kernel_rfl))
 f213:=Tryz.func126.trans (congrArg some (by kernel_rfl))
 f265:=Tryz.func158.trans (congrArg some (by kernel_rfl))
 t3:=Tryz.underlying3
 a3:=Tryz.isAgg3
 z3:=Tryz.sizeOf3
 v3:=Tryz.zeroValue3
 t9:=Tryz.underlying9
 a9:=Tryz.isAgg9
 z9:=Tryz.sizeOf9
 v9:=Tryz.zeroValue9 }
open Go.RowKit in
theorem Tryz.strings_Compare (a b : ByteArray) (w : World) :
  Calls Tryz.prog 94 #[.string a,.string b] w fun e w'=>e = .returned (.int .i64 (Lib.compareBytes a.data.toList b.data.toList))∧w' = w:=Any.strings_Compare Tryz.lays106 a b w
def Tryz.lays137_ren : Go.Shelf.Ren:=⟨fun | 137=>96 | 217=>128 | 266=>160 | n=>n,fun | 9=>9 | 5=>5 | 3=>3 | n=>n,fun | n=>n⟩
theorem Tryz.lays137 : Go.Proofs.Lays.n137 Tryz.prog Tryz.lays137_ren:={
 mixed:=by kernel_rfl
 f137:=Tryz.func96.trans (congrArg some (by kernel_rfl))
 f217:=Tryz.func128.trans (congrArg some (by kernel_rfl))
 f266:=Tryz.func160.trans (congrArg some (by kernel_rfl))
 t3:=Tryz.underlying3
 a3:=Tryz.isAgg3
 z3:=Tryz.sizeOf3
 v3:=Tryz.zeroValue3
 t5:=Tryz.underlying5
 a5:=Tryz.isAgg5
 z5:=Tryz.sizeOf5
 v5:=Tryz.zeroValue5
 t9:=Tryz.underlying9
 a9:=Tryz.isAgg9
 z9:=Tryz.sizeOf9
 v9:=Tryz.zeroValue9 }
open Go.RowKit in
theorem Tryz.strings_IndexByte (s : ByteArray) (c : Int) (w : World) :
  Calls Tryz.prog 96 #[.string s,.int .u8 c] w fun e w'=>e = .returned (.int .i64 (Lib.indexByte s.data.toList c.toNat.toUInt8))∧w' = w:=Any.strings_IndexByte Tryz.lays137 s c w
def Tryz.laysC172_ren : Go.Shelf.Ren:=⟨fun | 172=>130 | 244=>162 | 245=>163 | 247=>198 | 279=>199 | 280=>200 | 281=>201 | 282=>202 | 287=>218 | 316=>235 | 171=>127 | 205=>236 | 321=>251 | 322=>252 | 243=>159 | 246=>197 | 283=>231 | 284=>232 | 285=>233 | 286=>234 | 129=>157 | 317=>264 | 318=>265 | 319=>266 | 320=>267 | 337=>289 | 338=>256 | n=>n,fun | 9=>9 | 3=>3 | 75=>123 | 76=>124 | 4=>4 | 5=>5 | 167=>240 | 37=>81 | 0=>0 | 85=>241 | 2=>2 | 168=>243 | 53=>199 | 175=>221 | 46=>157 | 210=>272 | 127=>131 | 145=>300 | 143=>298 | 21=>21 | 171=>266 | 173=>268 | 212=>296 | 51=>197 | 20=>20 | 213=>297 | 232=>321 | 233=>307 | 80=>88 | n=>n,fun | 15=>4 | 16=>5 | 17=>6 | 18=>8 | 19=>7 | n=>n⟩
theorem Tryz.laysC172 : Go.Proofs.LaysC.n172 Tryz.prog Tryz.laysC172_ren:={
 mixed:=by kernel_rfl
 f129:=Tryz.func157.trans (congrArg some (by kernel_rfl))
 f171:=Tryz.func127.trans (congrArg some (by kernel_rfl))
 f172:=Tryz.func130.trans (congrArg some (by kernel_rfl))
 f205:=Tryz.func236.trans (congrArg some (by kernel_rfl))
 f243:=Tryz.func159.trans (congrArg some (by kernel_rfl))
 f244:=Tryz.func162.trans (congrArg some (by kernel_rfl))
 f245:=Tryz.func163.trans (congrArg some (by kernel_rfl))
 f246:=Tryz.func197.trans (congrArg some (by kernel_rfl))
 f247:=Tryz.func198.trans (congrArg some (by kernel_rfl))
 f279:=Tryz.func199.trans (congrArg some (by kernel_rfl))
 f280:=Tryz.func200.trans (congrArg some (by kernel_rfl))
 f281:=Tryz.func201.trans (congrArg some (by kernel_rfl))
 f282:=Tryz.func202.trans (congrArg some (by kernel_rfl))
 f283:=Tryz.func231.trans (congrArg some (by kernel_rfl))
 f284:=Tryz.func232.trans (congrArg some (by kernel_rfl))
 f285:=Tryz.func233.trans (congrArg some (by kernel_rfl))
 f286:=Tryz.func234.trans (congrArg some (by kernel_rfl))
 f287:=Tryz.func218.trans (congrArg some (by kernel_rfl))
 f316:=Tryz.func235.trans (congrArg some (by kernel_rfl))
 f317:=Tryz.func264.trans (congrArg some (by kernel_rfl))
 f318:=Tryz.func265.trans (congrArg some (by kernel_rfl))
 f319:=Tryz.func266.trans (congrArg some (by kernel_rfl))
 f320:=Tryz.func267.trans (congrArg some (by kernel_rfl))
 f321:=Tryz.func251.trans (congrArg some (by kernel_rfl))
 f322:=Tryz.func252.trans (congrArg some (by kernel_rfl))
 f337:=Tryz.func289.trans (congrArg some (by kernel_rfl))
 f338:=Tryz.func256.trans (congrArg some (by kernel_rfl))
 t0:=Tryz.underlying0
 a0:=Tryz.isAgg0
 z0:=Tryz.sizeOf0
 v0:=Tryz.zeroValue0
 t2:=Tryz.underlying2
 a2:=Tryz.isAgg2
 z2:=Tryz.sizeOf2
 v2:=Tryz.zeroValue2
 t3:=Tryz.underlying3
 a3:=Tryz.isAgg3
 z3:=Tryz.sizeOf3
 v3:=Tryz.zeroValue3
 t4:=Tryz.underlying4
 a4:=Tryz.isAgg4
 z4:=Tryz.sizeOf4
 v4:=Tryz.zeroValue4
 t5:=Tryz.underlying5
 a5:=Tryz.isAgg5
 z5:=Tryz.sizeOf5
 v5:=Tryz.zeroValue5
 t9:=Tryz.underlying9
 a9:=Tryz.isAgg9
 z9:=Tryz.sizeOf9
 v9:=Tryz.zeroValue9
 t20:=Tryz.underlying20
 a20:=Tryz.isAgg20
 z20:=Tryz.sizeOf20
 v20:=Tryz.zeroValue20
 t21:=Tryz.underlying21
 a21:=Tryz.isAgg21
 z21:=Tryz.sizeOf21
 v21:=Tryz.zeroValue21
 t37:=Tryz.underlying81
 a37:=Tryz.isAgg81
 z37:=Tryz.sizeOf81
 v37:=Tryz.zeroValue81
 t46:=Tryz.underlying157
 a46:=Tryz.isAgg157
 z46:=Tryz.sizeOf157
 v46:=Tryz.zeroValue157
 t51:=Tryz.underlying197
 a51:=Tryz.isAgg197
 z51:=Tryz.sizeOf197
 v51:=Tryz.zeroValue197
 t53:=Tryz.underlying199
 a53:=Tryz.isAgg199
 z53:=Tryz.sizeOf199
 v53:=Tryz.zeroValue199
 t75:=Tryz.underlying123
 a75:=Tryz.isAgg123
 z75:=Tryz.sizeOf123
 v75:=Tryz.zeroValue123
 t76:=Tryz.underlying124
 a76:=Tryz.isAgg124
 z76:=Tryz.sizeOf124
 v76:=Tryz.zeroValue124
 t85:=Tryz.underlying241
 a85:=Tryz.isAgg241
 z85:=Tryz.sizeOf241
 v85:=Tryz.zeroValue241
 t127:=Tryz.underlying131
 a127:=Tryz.isAgg131
 z127:=Tryz.sizeOf131
 v127:=Tryz.zeroValue131
 t143:=Tryz.underlying298
 a143:=Tryz.isAgg298
 z143:=Tryz.sizeOf298
 v143:=Tryz.zeroValue298
 t145:=Tryz.underlying300
 a145:=Tryz.isAgg300
 z145:=Tryz.sizeOf300
 v145:=Tryz.zeroValue300
 t167:=Tryz.underlying240
 a167:=Tryz.isAgg240
 z167:=Tryz.sizeOf240
 v167:=Tryz.zeroValue240
 t168:=Tryz.underlying243
 a168:=Tryz.isAgg243
 z168:=Tryz.sizeOf243
 v168:=Tryz.zeroValue243
 t171:=Tryz.underlying266
 a171:=Tryz.isAgg266
 z171:=Tryz.sizeOf266
 v171:=Tryz.zeroValue266
 t173:=Tryz.underlying268
 a173:=Tryz.isAgg268
 z173:=Tryz.sizeOf268
 v173:=Tryz.zeroValue268
 t175:=Tryz.underlying221
 a175:=Tryz.isAgg221
 z175:=Tryz.sizeOf221
 v175:=Tryz.zeroValue221
 t210:=Tryz.underlying272
 a210:=Tryz.isAgg272
 z210:=Tryz.sizeOf272
 v210:=Tryz.zeroValue272
 t212:=Tryz.underlying296
 a212:=Tryz.isAgg296
 z212:=Tryz.sizeOf296
 v212:=Tryz.zeroValue296
 t213:=Tryz.underlying297
 a213:=Tryz.isAgg297
 z213:=Tryz.sizeOf297
 t232:=Tryz.underlying321
 a232:=Tryz.isAgg321
 z232:=Tryz.sizeOf321
 v232:=Tryz.zeroValue321
 t233:=Tryz.underlying307
 a233:=Tryz.isAgg307
 z233:=Tryz.sizeOf307
 v233:=Tryz.zeroValue307
 g15:=by kernel_rfl
 g16:=by kernel_rfl
 g17:=by kernel_rfl
 g18:=by kernel_rfl
 g19:=by kernel_rfl
 t80:=Tryz.underlying88
 a80:=Tryz.isAgg88
 z80:=Tryz.sizeOf88
 v80:=Tryz.zeroValue88
 i0:=by kernel_rfl
 i2:=by kernel_rfl
 i3:=by kernel_rfl
 i4:=by kernel_rfl
 i5:=by kernel_rfl
 i9:=by kernel_rfl
 i20:=by kernel_rfl
 i21:=by kernel_rfl
 i37:=by kernel_rfl
 i46:=by kernel_rfl
 i51:=by kernel_rfl
 i53:=by kernel_rfl
 i75:=by kernel_rfl
 i76:=by kernel_rfl
 i80:=by kernel_rfl
 i85:=by kernel_rfl
 i127:=by kernel_rfl
 i143:=by kernel_rfl
 i145:=by kernel_rfl
 i167:=by kernel_rfl
 i168:=by kernel_rfl
 i171:=by kernel_rfl
 i173:=by kernel_rfl
 i175:=by kernel_rfl
 i210:=by kernel_rfl
 i212:=by kernel_rfl
 i232:=by kernel_rfl
 i233:=by kernel_rfl
 m15:=by kernel_rfl
 m16:=by kernel_rfl
 m17:=by kernel_rfl
 m18:=by kernel_rfl
 m19:=by kernel_rfl
 c0:=by kernel_rfl
 c2:=by kernel_rfl
 c3:=by kernel_rfl
 c4:=by kernel_rfl
 c5:=by kernel_rfl
 c9:=by kernel_rfl
 c20:=by kernel_rfl
 c21:=by kernel_rfl
 c37:=by kernel_rfl
 c46:=by kernel_rfl
 c51:=by kernel_rfl
 c53:=by kernel_rfl
 c75:=by kernel_rfl
 c76:=by kernel_rfl
 c80:=by kernel_rfl
 c85:=by kernel_rfl
 c127:=by kernel_rfl
 c143:=by kernel_rfl
 c145:=by kernel_rfl
 c167:=by kernel_rfl
 c168:=by kernel_rfl
 c171:=by kernel_rfl
 c173:=by kernel_rfl
 c175:=by kernel_rfl
 c210:=by kernel_rfl
 c212:=by kernel_rfl
 c213:=by kernel_rfl
 c232:=by kernel_rfl
 c233:=by kernel_rfl }
open Go.RowKit in
theorem Tryz.strconv_Atoi_ok (s : ByteArray) (hmax : s.size ≤ 9223372036854775806) (v : Int) (h : Lib.atoiAll s.data.toList = .ok v) (w : World) :
  Calls Tryz.prog 130 #[.string s] w fun e w'=>e = .returned (.tuple #[.int .i64 v,.nilIface])∧(w' = w ∨ ∃ t,w' = Lib.bytesWorld w 5 t):=Any.strconv_Atoi_ok Tryz.laysC172 s hmax v h w
open Go.RowKit in
theorem Tryz.strconv_Atoi_range (s : ByteArray) (hlim : s.size ≤ 281474976710656) (h : Lib.atoiAll s.data.toList = .range) (ev : Value) (w : World) (hv : w.cell? ⟨5,0,none⟩ = some ev) (hev : ev = .nilIface ∨ ∃ te pe,ev = .iface te pe) :
  Calls Tryz.prog 130 #[.string s] w fun e w'=>∃ N,e = .returned (.tuple #[.int .i64 (Lib.atoiSat s.data.toList),.iface 243 (.pointer (some ⟨N,0,none⟩))])∧w.heap.size ≤ N∧w'.heap[N]? = some (.cells #[.string ⟨#[65,116,111,105]⟩,.string s,ev] 272 (0,0))∧Below w.heap.size w w':=Any.strconv_Atoi_range Tryz.laysC172 s hlim h ev w hv hev
def Tryz.lays197_ren : Go.Shelf.Ren:=⟨fun | 197=>131 | 260=>164 | n=>n,fun | 9=>9 | 21=>21 | 3=>3 | 4=>4 | 5=>5 | 105=>162 | 119=>183 | 0=>0 | 46=>157 | 139=>186 | 138=>185 | n=>n,fun | 3=>0 | 4=>1 | n=>n⟩
theorem Tryz.lays197 : Go.Proofs.Lays.n197 Tryz.prog Tryz.lays197_ren:={
 mixed:=by kernel_rfl
 f197:=Tryz.func131.trans (congrArg some (by kernel_rfl))
 f260:=Tryz.func164.trans (congrArg some (by kernel_rfl))
 t0:=Tryz.underlying0
 a0:=Tryz.isAgg0
 z0:=Tryz.sizeOf0
 v0:=Tryz.zeroValue0
 t3:=Tryz.underlying3
 a3:=Tryz.isAgg3
 z3:=Tryz.sizeOf3
 v3:=Tryz.zeroValue3
 t4:=Tryz.underlying4
 a4:=Tryz.isAgg4
 z4:=Tryz.sizeOf4
 v4:=Tryz.zeroValue4
 t5:=Tryz.underlying5
 a5:=Tryz.isAgg5
 z5:=Tryz.sizeOf5
 v5:=Tryz.zeroValue5
 t9:=Tryz.underlying9
 a9:=Tryz.isAgg9
 z9:=Tryz.sizeOf9
 v9:=Tryz.zeroValue9
 t21:=Tryz.underlying21
 a21:=Tryz.isAgg21
 z21:=Tryz.sizeOf21
 v21:=Tryz.zeroValue21
 t46:=Tryz.underlying157
 a46:=Tryz.isAgg157
 z46:=Tryz.sizeOf157
 v46:=Tryz.zeroValue157
 t105:=Tryz.underlying162
 a105:=Tryz.isAgg162
 z105:=Tryz.sizeOf162
 v105:=Tryz.zeroValue162
 t119:=Tryz.underlying183
 a119:=Tryz.isAgg183
 z119:=Tryz.sizeOf183
 t138:=Tryz.underlying185
 a138:=Tryz.isAgg185
 z138:=Tryz.sizeOf185
 v138:=Tryz.zeroValue185
 t139:=Tryz.underlying186
 a139:=Tryz.isAgg186
 z139:=Tryz.sizeOf186
 v139:=Tryz.zeroValue186
 g3:=by kernel_rfl
 g4:=by kernel_rfl }
open Go.RowKit Go.Lib in
theorem Tryz.utf8_DecodeRuneInString (s : ByteArray) (w : World) (hT : Lib.Utf8Tabs 0 1 w) :
  Calls Tryz.prog 131 #[.string s] w fun e w'=>e = .returned (.tuple #[.int .i32 (Lib.decodeGo s).1,.int .i64 (Lib.decodeGo s).2])∧Below w.heap.size w w':=Any.utf8_DecodeRuneInString Tryz.lays197 s w hT
end Go.Proofs
