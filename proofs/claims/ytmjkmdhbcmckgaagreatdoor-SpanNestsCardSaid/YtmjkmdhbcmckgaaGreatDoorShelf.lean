
import Derived.Shelf.Strings.Builder1
import Derived.Shelf.Strings.Builder2
import Derived.Shelf.Strings.Trim
import Derived.Shelf.Small.Utf8
import Derived.Shelf.Small.Bits
import Derived.Shelf.Small.Strs
import Derived.Shelf.Small.Wraps
import Derived.Shelf.Strings.BuilderF
import Derived.Shelf.Strings.BuilderK
import Derived.Shelf.Strconv.Atoi
import Derived.Shelf.Strconv.Itoa0
import Derived.Shelf.Strconv.Itoa1
import Derived.Shelf.LaysM
import Derived.Shelf.Strconv.Itoa2
import Derived.Shelf.Strconv.Itoa3
import Derived.Shelf.Strconv.AtoiErrFast
import Derived.Shelf.Strconv.ParseIntEmpty
import Derived.Shelf.Strconv.AtoiFail
import Derived.Shelf.Strconv.Clone
import Derived.Shelf.Strconv.SyntaxError
import Derived.Shelf.LaysC
import Derived.Shelf.Strconv.ToError
import Derived.Shelf.Strconv.Lower
import Derived.Shelf.Strconv.ParseUint10
import Derived.Shelf.Strconv.ParseUint10Empty
import Derived.Shelf.Strconv.ParseUint10Any
import Derived.Shelf.Strconv.ParseInt10
import Derived.Shelf.Strconv.AtoiLong
import Derived.Shelf.Strconv.AtoiInnerAll
import Derived.Shelf.Strconv.RangeError
import Derived.Shelf.Strconv.ToErrorRange
import Derived.Shelf.Strconv.AtoiAll
import Derived.Shelf.Strconv.ErrVarAll
import Derived.Ground.MpProg
import Derived.Shelf.Pu.ParseUintPublic10
import Derived.Shelf.Pu.ErrVarParseUint
import Derived.Shelf.Strings.Search1
import Derived.Shelf.Strings.Search2
import Derived.Shelf.Strings.Cut
import Derived.Shelf.Strings.Shaped
import Derived.Shelf.Strings.Prefix
import Derived.Shelf.Strings.Runes
import Derived.Shelf.Strings.AsciiSet
import Derived.Shelf.Bits.Mul64
import Derived.Shelf.Strings.Repeat
import Derived.Shelf.Unicode.DecodeSlow
import Derived.Shelf.Unicode.DecodeAny
import Derived.Test.YtmjkmdhbcmckgaaGreatDoorProg
namespace Go.Proofs
open Go.Shelf
def Tryz.lays162_ren:Go.Shelf.Ren:=⟨fun | 162=>135 | 232=>160 | 227=>161 | 234=>162 | 236=>163 | 228=>188 | 271=>189 | 151=>190 | 120=>208 | 197=>73 | 152=>209 | 260=>103 | 137=>87 | 119=>216 | 224=>178 | 225=>177 | 217=>114 | 266=>140 | n=>n,fun | 9=>9 | 4=>4 | 3=>3 | 5=>5 | 117=>215 | 116=>214 | 0=>0 | 124=>218 | 21=>21 | 105=>124 | 46=>175 | 119=>186 | 139=>189 | 138=>188 | n=>n,fun | 3=>1 | 4=>2 | n=>n⟩
theorem Tryz.lays162:Go.Proofs.Lays.n162 Tryz.prog Tryz.lays162_ren:={
 mixed:=by kernel_rfl
 f119:=Tryz.func216.trans (congrArg some (by kernel_rfl))
 f120:=Tryz.func208.trans (congrArg some (by kernel_rfl))
 f137:=Tryz.func87.trans (congrArg some (by kernel_rfl))
 f151:=Tryz.func190.trans (congrArg some (by kernel_rfl))
 f152:=Tryz.func209.trans (congrArg some (by kernel_rfl))
 f162:=Tryz.func135.trans (congrArg some (by kernel_rfl))
 f197:=Tryz.func73.trans (congrArg some (by kernel_rfl))
 f217:=Tryz.func114.trans (congrArg some (by kernel_rfl))
 f224:=Tryz.func178.trans (congrArg some (by kernel_rfl))
 f225:=Tryz.func177.trans (congrArg some (by kernel_rfl))
 f227:=Tryz.func161.trans (congrArg some (by kernel_rfl))
 f228:=Tryz.func188.trans (congrArg some (by kernel_rfl))
 f232:=Tryz.func160.trans (congrArg some (by kernel_rfl))
 f234:=Tryz.func162.trans (congrArg some (by kernel_rfl))
 f236:=Tryz.func163.trans (congrArg some (by kernel_rfl))
 f260:=Tryz.func103.trans (congrArg some (by kernel_rfl))
 f266:=Tryz.func140.trans (congrArg some (by kernel_rfl))
 f271:=Tryz.func189.trans (congrArg some (by kernel_rfl))
 t0:=Tryz.underlying0
 a0:=Tryz.isAgg0
 z0:=Tryz.sizeOf0
 v0:=Tryz.zeroValue0
 t3:=Tryz.underlying3
 a3:=Tryz.isAgg3
 z3:=Tryz.sizeOf3
 v3:=Tryz.zeroValue3
 t4:=Tryz.underlying4
 a4:=Tryz.isAgg4
 z4:=Tryz.sizeOf4
 v4:=Tryz.zeroValue4
 t5:=Tryz.underlying5
 a5:=Tryz.isAgg5
 z5:=Tryz.sizeOf5
 v5:=Tryz.zeroValue5
 t9:=Tryz.underlying9
 a9:=Tryz.isAgg9
 z9:=Tryz.sizeOf9
 v9:=Tryz.zeroValue9
 t21:=Tryz.underlying21
 a21:=Tryz.isAgg21
 z21:=Tryz.sizeOf21
 v21:=Tryz.zeroValue21
 t46:=Tryz.underlying175
 a46:=Tryz.isAgg175
 z46:=Tryz.sizeOf175
 v46:=Tryz.zeroValue175
 t105:=Tryz.underlying124
 a105:=Tryz.isAgg124
 z105:=Tryz.sizeOf124
 v105:=Tryz.zeroValue124
 t116:=Tryz.underlying214
 a116:=Tryz.isAgg214
 z116:=Tryz.sizeOf214
 t117:=Tryz.underlying215
 a117:=Tryz.isAgg215
 z117:=Tryz.sizeOf215
 v117:=Tryz.zeroValue215
 t119:=Tryz.underlying186
 a119:=Tryz.isAgg186
 z119:=Tryz.sizeOf186
 t124:=Tryz.underlying218
 a124:=Tryz.isAgg218
 z124:=Tryz.sizeOf218
 v124:=Tryz.zeroValue218
 t138:=Tryz.underlying188
 a138:=Tryz.isAgg188
 z138:=Tryz.sizeOf188
 v138:=Tryz.zeroValue188
 t139:=Tryz.underlying189
 a139:=Tryz.isAgg189
 z139:=Tryz.sizeOf189
 v139:=Tryz.zeroValue189
 g3:=by kernel_rfl
 g4:=by kernel_rfl }
open Go.RowKit in
theorem Tryz.strings_TrimRight_one (s:ByteArray)(c:UInt8)(hc:c.toNat<128)(w:World)(hs:s.size≤9223372036854775807) :
  Calls Tryz.prog 135 #[.string s,.string ⟨#[c]⟩] w fun e w'=>e=.returned (.string ⟨(Lib.trimRightB s.data.toList c).toArray⟩)∧w'=w:=Any.strings_TrimRight_one Tryz.lays162 s c hc w hs
open Go.RowKit in
def Tryz.lays137_ren:Go.Shelf.Ren:=⟨fun | 137=>87 | 217=>114 | 266=>140 | n=>n,fun | 9=>9 | 5=>5 | 3=>3 | n=>n,fun | n=>n⟩
theorem Tryz.lays137:Go.Proofs.Lays.n137 Tryz.prog Tryz.lays137_ren:={
 mixed:=by kernel_rfl
 f137:=Tryz.func87.trans (congrArg some (by kernel_rfl))
 f217:=Tryz.func114.trans (congrArg some (by kernel_rfl))
 f266:=Tryz.func140.trans (congrArg some (by kernel_rfl))
 t3:=Tryz.underlying3
 a3:=Tryz.isAgg3
 z3:=Tryz.sizeOf3
 v3:=Tryz.zeroValue3
 t5:=Tryz.underlying5
 a5:=Tryz.isAgg5
 z5:=Tryz.sizeOf5
 v5:=Tryz.zeroValue5
 t9:=Tryz.underlying9
 a9:=Tryz.isAgg9
 z9:=Tryz.sizeOf9
 v9:=Tryz.zeroValue9 }
open Go.RowKit in
theorem Tryz.strings_IndexByte (s:ByteArray)(c:Int)(w:World) :
  Calls Tryz.prog 87 #[.string s,.int .u8 c] w fun e w'=>e=.returned (.int .i64 (Lib.indexByte s.data.toList c.toNat.toUInt8))∧w'=w:=Any.strings_IndexByte Tryz.lays137 s c w
def Tryz.lays103_ren:Go.Shelf.Ren:=⟨fun | 103=>94 | 210=>120 | 206=>146 | n=>n,fun | 9=>9 | 4=>4 | 24=>152 | 3=>3 | n=>n,fun | n=>n⟩
theorem Tryz.lays103:Go.Proofs.Lays.n103 Tryz.prog Tryz.lays103_ren:={
 mixed:=by kernel_rfl
 f103:=Tryz.func94.trans (congrArg some (by kernel_rfl))
 f206:=Tryz.func146.trans (congrArg some (by kernel_rfl))
 f210:=Tryz.func120.trans (congrArg some (by kernel_rfl))
 t3:=Tryz.underlying3
 a3:=Tryz.isAgg3
 z3:=Tryz.sizeOf3
 v3:=Tryz.zeroValue3
 t4:=Tryz.underlying4
 a4:=Tryz.isAgg4
 z4:=Tryz.sizeOf4
 v4:=Tryz.zeroValue4
 t9:=Tryz.underlying9
 a9:=Tryz.isAgg9
 z9:=Tryz.sizeOf9
 v9:=Tryz.zeroValue9
 t24:=Tryz.underlying152
 a24:=Tryz.isAgg152
 z24:=Tryz.sizeOf152
 v24:=Tryz.zeroValue152 }
open Go.RowKit in
theorem Tryz.strings_CutPrefix (s p:ByteArray)(w:World) :
  Calls Tryz.prog 94 #[.string s,.string p] w fun e w'=>e=.returned (.tuple #[.string ⟨(Lib.trimPrefix s.data.toList p.data.toList).toArray⟩,.bool (Lib.hasPrefix s.data.toList p.data.toList)])∧w'=w:=Any.strings_CutPrefix Tryz.lays103 s p w
def Tryz.lays129_ren:Go.Shelf.Ren:=⟨fun | 129=>124 | n=>n,fun | 53=>158 | 3=>3 | 4=>4 | 46=>175 | 5=>5 | 9=>9 | n=>n,fun | n=>n⟩
theorem Tryz.lays129:Go.Proofs.Lays.n129 Tryz.prog Tryz.lays129_ren:={
 mixed:=by kernel_rfl
 f129:=Tryz.func124.trans (congrArg some (by kernel_rfl))
 t3:=Tryz.underlying3
 a3:=Tryz.isAgg3
 z3:=Tryz.sizeOf3
 v3:=Tryz.zeroValue3
 t4:=Tryz.underlying4
 a4:=Tryz.isAgg4
 z4:=Tryz.sizeOf4
 v4:=Tryz.zeroValue4
 t5:=Tryz.underlying5
 a5:=Tryz.isAgg5
 z5:=Tryz.sizeOf5
 v5:=Tryz.zeroValue5
 t9:=Tryz.underlying9
 a9:=Tryz.isAgg9
 z9:=Tryz.sizeOf9
 v9:=Tryz.zeroValue9
 t46:=Tryz.underlying175
 a46:=Tryz.isAgg175
 z46:=Tryz.sizeOf175
 v46:=Tryz.zeroValue175
 t53:=Tryz.underlying158
 a53:=Tryz.isAgg158
 z53:=Tryz.sizeOf158
 v53:=Tryz.zeroValue158 }
theorem Tryz.bits_Len64 (x:Int)(w:World)(h0:0≤x)(h1:x≤18446744073709551615) :
  Calls Tryz.prog 124 #[.int .u64 x] w fun e w'=>e=.returned (.int .i64 (Lib.bitLen x.toNat))∧w'=w:=Any.bits_Len64 Tryz.lays129 x w h0 h1
def Tryz.lays283_ren:Go.Shelf.Ren:=⟨fun | 283=>180 | n=>n,fun | 3=>3 | 9=>9 | 4=>4 | n=>n,fun | n=>n⟩
theorem Tryz.lays283:Go.Proofs.Lays.n283 Tryz.prog Tryz.lays283_ren:={
 mixed:=by kernel_rfl
 f283:=Tryz.func180.trans (congrArg some (by kernel_rfl))
 t3:=Tryz.underlying3
 a3:=Tryz.isAgg3
 z3:=Tryz.sizeOf3
 v3:=Tryz.zeroValue3
 t4:=Tryz.underlying4
 a4:=Tryz.isAgg4
 z4:=Tryz.sizeOf4
 v4:=Tryz.zeroValue4
 t9:=Tryz.underlying9
 a9:=Tryz.isAgg9
 z9:=Tryz.sizeOf9
 v9:=Tryz.zeroValue9 }
open Go.Lib in
theorem Tryz.internal_strconv_small (i:Nat)(h:i<100)(w:World) :
  Calls Tryz.prog 180 #[.int .i64 i] w fun e w'=>e=.returned (.string ⟨(Lib.decDigits i).toArray⟩)∧w'=w:=Any.internal_strconv_small Tryz.lays283 i h w
def Tryz.laysM284_ren:Go.Shelf.Ren:=⟨fun | 284=>181 | 129=>124 | 317=>201 | 318=>202 | n=>n,fun | 53=>158 | 3=>3 | 212=>256 | 0=>0 | 4=>4 | 46=>175 | 5=>5 | 9=>9 | n=>n,fun | 17=>7 | n=>n⟩
theorem Tryz.laysM284:Go.Proofs.LaysM.n284 Tryz.prog Tryz.laysM284_ren:={
 mixed:=by kernel_rfl
 f129:=Tryz.func124.trans (congrArg some (by kernel_rfl))
 f284:=Tryz.func181.trans (congrArg some (by kernel_rfl))
 f317:=Tryz.func201.trans (congrArg some (by kernel_rfl))
 f318:=Tryz.func202.trans (congrArg some (by kernel_rfl))
 t0:=Tryz.underlying0
 a0:=Tryz.isAgg0
 z0:=Tryz.sizeOf0
 v0:=Tryz.zeroValue0
 t3:=Tryz.underlying3
 a3:=Tryz.isAgg3
 z3:=Tryz.sizeOf3
 v3:=Tryz.zeroValue3
 t4:=Tryz.underlying4
 a4:=Tryz.isAgg4
 z4:=Tryz.sizeOf4
 v4:=Tryz.zeroValue4
 t5:=Tryz.underlying5
 a5:=Tryz.isAgg5
 z5:=Tryz.sizeOf5
 v5:=Tryz.zeroValue5
 t9:=Tryz.underlying9
 a9:=Tryz.isAgg9
 z9:=Tryz.sizeOf9
 v9:=Tryz.zeroValue9
 t46:=Tryz.underlying175
 a46:=Tryz.isAgg175
 z46:=Tryz.sizeOf175
 v46:=Tryz.zeroValue175
 t53:=Tryz.underlying158
 a53:=Tryz.isAgg158
 z53:=Tryz.sizeOf158
 v53:=Tryz.zeroValue158
 t212:=Tryz.underlying256
 a212:=Tryz.isAgg256
 z212:=Tryz.sizeOf256
 v212:=Tryz.zeroValue256
 g17:=by kernel_rfl
 i0:=by kernel_rfl
 i3:=by kernel_rfl
 i4:=by kernel_rfl
 i5:=by kernel_rfl
 i9:=by kernel_rfl
 i46:=by kernel_rfl
 i53:=by kernel_rfl
 i212:=by kernel_rfl
 m17:=by kernel_rfl }
open Go.Lib in
theorem Tryz.internal_strconv_numDigits (u : Nat) (h1 : 1 ≤ u) (h2 : u < 18446744073709551616) (w : World) (htab : Lib.TabIs Tryz.prog w "internal/strconv.uint64pow10" .u64 Lib.pow10Tab) :
  Calls Tryz.prog 181 #[.int .u64 u] w fun e w'=>e=.returned (.int .i64 (Lib.nDigits u))∧w'=w:=Any.internal_strconv_numDigits Tryz.laysM284 u h1 h2 w htab
def Tryz.lays285_ren:Go.Shelf.Ren:=⟨fun | 285=>182 | n=>n,fun | 37=>108 | 53=>158 | 3=>3 | 4=>4 | 51=>227 | 9=>9 | 5=>5 | 0=>0 | n=>n,fun | n=>n⟩
theorem Tryz.lays285:Go.Proofs.Lays.n285 Tryz.prog Tryz.lays285_ren:={
 mixed:=by kernel_rfl
 f285:=Tryz.func182.trans (congrArg some (by kernel_rfl))
 t0:=Tryz.underlying0
 a0:=Tryz.isAgg0
 z0:=Tryz.sizeOf0
 v0:=Tryz.zeroValue0
 t3:=Tryz.underlying3
 a3:=Tryz.isAgg3
 z3:=Tryz.sizeOf3
 v3:=Tryz.zeroValue3
 t4:=Tryz.underlying4
 a4:=Tryz.isAgg4
 z4:=Tryz.sizeOf4
 v4:=Tryz.zeroValue4
 t5:=Tryz.underlying5
 a5:=Tryz.isAgg5
 z5:=Tryz.sizeOf5
 v5:=Tryz.zeroValue5
 t9:=Tryz.underlying9
 a9:=Tryz.isAgg9
 z9:=Tryz.sizeOf9
 v9:=Tryz.zeroValue9
 t37:=Tryz.underlying108
 a37:=Tryz.isAgg108
 z37:=Tryz.sizeOf108
 v37:=Tryz.zeroValue108
 t51:=Tryz.underlying227
 a51:=Tryz.isAgg227
 z51:=Tryz.sizeOf227
 v51:=Tryz.zeroValue227
 t53:=Tryz.underlying158
 a53:=Tryz.isAgg158
 z53:=Tryz.sizeOf158
 v53:=Tryz.zeroValue158 }
open Go.RowKit Go.Sort Go.Lib in
theorem Tryz.internal_strconv_formatBase10 (blk off cap:Nat)(u:Nat)(d:Array UInt8)(w:World)(hH:Holds (fun (b:UInt8)=>Value.int .u8 (b.toNat:Int)) w blk off d)(hu:u<10 ^ d.size)(hu64:u<18446744073709551616)(hsz:d.size<4611686018427387904) :
  Calls Tryz.prog 182 #[.slice (some ⟨blk,off,none⟩) d.size cap,.int .u64 u] w fun e w' =>
   e=.returned (.tuple #[])∧∃ (n v':Nat) (dk:Array UInt8),w'=(putRow (fun (b:UInt8)=>Value.int .u8 (b.toNat:Int)) w blk off dk).drewN n∧FmtInv d.size u 0 v' dk:=Any.internal_strconv_formatBase10 Tryz.lays285 blk off cap u d w hH hu hu64 hsz
def Tryz.laysM171_ren:Go.Shelf.Ren:=⟨fun | 171=>119 | 243=>149 | 246=>176 | 283=>180 | 284=>181 | 285=>182 | 286=>183 | 129=>124 | 317=>201 | 318=>202 | 319=>203 | 320=>204 | 337=>214 | 338=>156 | n=>n,fun | 3=>3 | 9=>9 | 2=>2 | 4=>4 | 171=>234 | 0=>0 | 53=>158 | 37=>108 | 5=>5 | 173=>236 | 212=>256 | 51=>227 | 20=>20 | 213=>257 | 46=>175 | 232=>269 | 233=>233 | n=>n,fun | 17=>7 | 18=>8 | 19=>6 | n=>n⟩
theorem Tryz.laysM171:Go.Proofs.LaysM.n171 Tryz.prog Tryz.laysM171_ren:={
 mixed:=by kernel_rfl
 f129:=Tryz.func124.trans (congrArg some (by kernel_rfl))
 f171:=Tryz.func119.trans (congrArg some (by kernel_rfl))
 f243:=Tryz.func149.trans (congrArg some (by kernel_rfl))
 f246:=Tryz.func176.trans (congrArg some (by kernel_rfl))
 f283:=Tryz.func180.trans (congrArg some (by kernel_rfl))
 f284:=Tryz.func181.trans (congrArg some (by kernel_rfl))
 f285:=Tryz.func182.trans (congrArg some (by kernel_rfl))
 f286:=Tryz.func183.trans (congrArg some (by kernel_rfl))
 f317:=Tryz.func201.trans (congrArg some (by kernel_rfl))
 f318:=Tryz.func202.trans (congrArg some (by kernel_rfl))
 f319:=Tryz.func203.trans (congrArg some (by kernel_rfl))
 f320:=Tryz.func204.trans (congrArg some (by kernel_rfl))
 f337:=Tryz.func214.trans (congrArg some (by kernel_rfl))
 f338:=Tryz.func156.trans (congrArg some (by kernel_rfl))
 t0:=Tryz.underlying0
 a0:=Tryz.isAgg0
 z0:=Tryz.sizeOf0
 v0:=Tryz.zeroValue0
 t2:=Tryz.underlying2
 a2:=Tryz.isAgg2
 z2:=Tryz.sizeOf2
 v2:=Tryz.zeroValue2
 t3:=Tryz.underlying3
 a3:=Tryz.isAgg3
 z3:=Tryz.sizeOf3
 v3:=Tryz.zeroValue3
 t4:=Tryz.underlying4
 a4:=Tryz.isAgg4
 z4:=Tryz.sizeOf4
 v4:=Tryz.zeroValue4
 t5:=Tryz.underlying5
 a5:=Tryz.isAgg5
 z5:=Tryz.sizeOf5
 v5:=Tryz.zeroValue5
 t9:=Tryz.underlying9
 a9:=Tryz.isAgg9
 z9:=Tryz.sizeOf9
 v9:=Tryz.zeroValue9
 t20:=Tryz.underlying20
 a20:=Tryz.isAgg20
 z20:=Tryz.sizeOf20
 v20:=Tryz.zeroValue20
 t37:=Tryz.underlying108
 a37:=Tryz.isAgg108
 z37:=Tryz.sizeOf108
 v37:=Tryz.zeroValue108
 t46:=Tryz.underlying175
 a46:=Tryz.isAgg175
 z46:=Tryz.sizeOf175
 v46:=Tryz.zeroValue175
 t51:=Tryz.underlying227
 a51:=Tryz.isAgg227
 z51:=Tryz.sizeOf227
 v51:=Tryz.zeroValue227
 t53:=Tryz.underlying158
 a53:=Tryz.isAgg158
 z53:=Tryz.sizeOf158
 v53:=Tryz.zeroValue158
 t171:=Tryz.underlying234
 a171:=Tryz.isAgg234
 z171:=Tryz.sizeOf234
 v171:=Tryz.zeroValue234
 t173:=Tryz.underlying236
 a173:=Tryz.isAgg236
 z173:=Tryz.sizeOf236
 v173:=Tryz.zeroValue236
 t212:=Tryz.underlying256
 a212:=Tryz.isAgg256
 z212:=Tryz.sizeOf256
 v212:=Tryz.zeroValue256
 t213:=Tryz.underlying257
 a213:=Tryz.isAgg257
 z213:=Tryz.sizeOf257
 t232:=Tryz.underlying269
 a232:=Tryz.isAgg269
 z232:=Tryz.sizeOf269
 v232:=Tryz.zeroValue269
 t233:=Tryz.underlying233
 a233:=Tryz.isAgg233
 z233:=Tryz.sizeOf233
 v233:=Tryz.zeroValue233
 g17:=by kernel_rfl
 g18:=by kernel_rfl
 g19:=by kernel_rfl
 i0:=by kernel_rfl
 i2:=by kernel_rfl
 i3:=by kernel_rfl
 i4:=by kernel_rfl
 i5:=by kernel_rfl
 i9:=by kernel_rfl
 i20:=by kernel_rfl
 i37:=by kernel_rfl
 i46:=by kernel_rfl
 i51:=by kernel_rfl
 i53:=by kernel_rfl
 i171:=by kernel_rfl
 i173:=by kernel_rfl
 i212:=by kernel_rfl
 i232:=by kernel_rfl
 i233:=by kernel_rfl
 m17:=by kernel_rfl
 m18:=by kernel_rfl
 m19:=by kernel_rfl }
open Go.RowKit Go.Sort Go.Lib in
theorem Tryz.strconv_Itoa (n : Int) (h0 : -9223372036854775808 ≤ n) (h1 : n ≤ 9223372036854775807) (w : World) (htab : Lib.TabIs Tryz.prog w "internal/strconv.uint64pow10" .u64 Lib.pow10Tab) :
  Calls Tryz.prog 119 #[.int .i64 n] w fun e w'=>e=.returned (.string ⟨(Lib.itoa n).toArray⟩)∧∃ k os,w'=grow (w.drewN k) os:=Any.strconv_Itoa Tryz.laysM171 n h0 h1 w htab
def Tryz.laysC172_ren:Go.Shelf.Ren:=⟨fun | 172=>88 | 244=>115 | 245=>116 | 247=>141 | 279=>142 | 280=>143 | 281=>144 | 282=>145 | 287=>123 | 316=>174 | 171=>119 | 205=>175 | 321=>151 | 322=>152 | 243=>149 | 246=>176 | 283=>180 | 284=>181 | 285=>182 | 286=>183 | 129=>124 | 317=>201 | 318=>202 | 319=>203 | 320=>204 | 337=>214 | 338=>156 | n=>n,fun | 9=>9 | 3=>3 | 75=>141 | 76=>142 | 4=>4 | 5=>5 | 167=>197 | 37=>108 | 0=>0 | 85=>198 | 2=>2 | 168=>200 | 53=>158 | 175=>159 | 46=>175 | 210=>230 | 127=>145 | 145=>252 | 143=>250 | 21=>21 | 171=>234 | 173=>236 | 212=>256 | 51=>227 | 20=>20 | 213=>257 | 232=>269 | 233=>233 | 80=>112 | n=>n,fun | 15=>4 | 16=>5 | 17=>7 | 18=>8 | 19=>6 | n=>n⟩
theorem Tryz.laysC172:Go.Proofs.LaysC.n172 Tryz.prog Tryz.laysC172_ren:={
 mixed:=by kernel_rfl
 f129:=Tryz.func124.trans (congrArg some (by kernel_rfl))
 f171:=Tryz.func119.trans (congrArg some (by kernel_rfl))
 f172:=Tryz.func88.trans (congrArg some (by kernel_rfl))
 f205:=Tryz.func175.trans (congrArg some (by kernel_rfl))
 f243:=Tryz.func149.trans (congrArg some (by kernel_rfl))
 f244:=Tryz.func115.trans (congrArg some (by kernel_rfl))
 f245:=Tryz.func116.trans (congrArg some (by kernel_rfl))
 f246:=Tryz.func176.trans (congrArg some (by kernel_rfl))
 f247:=Tryz.func141.trans (congrArg some (by kernel_rfl))
 f279:=Tryz.func142.trans (congrArg some (by kernel_rfl))
 f280:=Tryz.func143.trans (congrArg some (by kernel_rfl))
 f281:=Tryz.func144.trans (congrArg some (by kernel_rfl))
 f282:=Tryz.func145.trans (congrArg some (by kernel_rfl))
 f283:=Tryz.func180.trans (congrArg some (by kernel_rfl))
 f284:=Tryz.func181.trans (congrArg some (by kernel_rfl))
 f285:=Tryz.func182.trans (congrArg some (by kernel_rfl))
 f286:=Tryz.func183.trans (congrArg some (by kernel_rfl))
 f287:=Tryz.func123.trans (congrArg some (by kernel_rfl))
 f316:=Tryz.func174.trans (congrArg some (by kernel_rfl))
 f317:=Tryz.func201.trans (congrArg some (by kernel_rfl))
 f318:=Tryz.func202.trans (congrArg some (by kernel_rfl))
 f319:=Tryz.func203.trans (congrArg some (by kernel_rfl))
 f320:=Tryz.func204.trans (congrArg some (by kernel_rfl))
 f321:=Tryz.func151.trans (congrArg some (by kernel_rfl))
 f322:=Tryz.func152.trans (congrArg some (by kernel_rfl))
 f337:=Tryz.func214.trans (congrArg some (by kernel_rfl))
 f338:=Tryz.func156.trans (congrArg some (by kernel_rfl))
 t0:=Tryz.underlying0
 a0:=Tryz.isAgg0
 z0:=Tryz.sizeOf0
 v0:=Tryz.zeroValue0
 t2:=Tryz.underlying2
 a2:=Tryz.isAgg2
 z2:=Tryz.sizeOf2
 v2:=Tryz.zeroValue2
 t3:=Tryz.underlying3
 a3:=Tryz.isAgg3
 z3:=Tryz.sizeOf3
 v3:=Tryz.zeroValue3
 t4:=Tryz.underlying4
 a4:=Tryz.isAgg4
 z4:=Tryz.sizeOf4
 v4:=Tryz.zeroValue4
 t5:=Tryz.underlying5
 a5:=Tryz.isAgg5
 z5:=Tryz.sizeOf5
 v5:=Tryz.zeroValue5
 t9:=Tryz.underlying9
 a9:=Tryz.isAgg9
 z9:=Tryz.sizeOf9
 v9:=Tryz.zeroValue9
 t20:=Tryz.underlying20
 a20:=Tryz.isAgg20
 z20:=Tryz.sizeOf20
 v20:=Tryz.zeroValue20
 t21:=Tryz.underlying21
 a21:=Tryz.isAgg21
 z21:=Tryz.sizeOf21
 v21:=Tryz.zeroValue21
 t37:=Tryz.underlying108
 a37:=Tryz.isAgg108
 z37:=Tryz.sizeOf108
 v37:=Tryz.zeroValue108
 t46:=Tryz.underlying175
 a46:=Tryz.isAgg175
 z46:=Tryz.sizeOf175
 v46:=Tryz.zeroValue175
 t51:=Tryz.underlying227
 a51:=Tryz.isAgg227
 z51:=Tryz.sizeOf227
 v51:=Tryz.zeroValue227
 t53:=Tryz.underlying158
 a53:=Tryz.isAgg158
 z53:=Tryz.sizeOf158
 v53:=Tryz.zeroValue158
 t75:=Tryz.underlying141
 a75:=Tryz.isAgg141
 z75:=Tryz.sizeOf141
 v75:=Tryz.zeroValue141
 t76:=Tryz.underlying142
 a76:=Tryz.isAgg142
 z76:=Tryz.sizeOf142
 v76:=Tryz.zeroValue142
 t85:=Tryz.underlying198
 a85:=Tryz.isAgg198
 z85:=Tryz.sizeOf198
 v85:=Tryz.zeroValue198
 t127:=Tryz.underlying145
 a127:=Tryz.isAgg145
 z127:=Tryz.sizeOf145
 v127:=Tryz.zeroValue145
 t143:=Tryz.underlying250
 a143:=Tryz.isAgg250
 z143:=Tryz.sizeOf250
 v143:=Tryz.zeroValue250
 t145:=Tryz.underlying252
 a145:=Tryz.isAgg252
 z145:=Tryz.sizeOf252
 v145:=Tryz.zeroValue252
 t167:=Tryz.underlying197
 a167:=Tryz.isAgg197
 z167:=Tryz.sizeOf197
 v167:=Tryz.zeroValue197
 t168:=Tryz.underlying200
 a168:=Tryz.isAgg200
 z168:=Tryz.sizeOf200
 v168:=Tryz.zeroValue200
 t171:=Tryz.underlying234
 a171:=Tryz.isAgg234
 z171:=Tryz.sizeOf234
 v171:=Tryz.zeroValue234
 t173:=Tryz.underlying236
 a173:=Tryz.isAgg236
 z173:=Tryz.sizeOf236
 v173:=Tryz.zeroValue236
 t175:=Tryz.underlying159
 a175:=Tryz.isAgg159
 z175:=Tryz.sizeOf159
 v175:=Tryz.zeroValue159
 t210:=Tryz.underlying230
 a210:=Tryz.isAgg230
 z210:=Tryz.sizeOf230
 v210:=Tryz.zeroValue230
 t212:=Tryz.underlying256
 a212:=Tryz.isAgg256
 z212:=Tryz.sizeOf256
 v212:=Tryz.zeroValue256
 t213:=Tryz.underlying257
 a213:=Tryz.isAgg257
 z213:=Tryz.sizeOf257
 t232:=Tryz.underlying269
 a232:=Tryz.isAgg269
 z232:=Tryz.sizeOf269
 v232:=Tryz.zeroValue269
 t233:=Tryz.underlying233
 a233:=Tryz.isAgg233
 z233:=Tryz.sizeOf233
 v233:=Tryz.zeroValue233
 g15:=by kernel_rfl
 g16:=by kernel_rfl
 g17:=by kernel_rfl
 g18:=by kernel_rfl
 g19:=by kernel_rfl
 t80:=Tryz.underlying112
 a80:=Tryz.isAgg112
 z80:=Tryz.sizeOf112
 v80:=Tryz.zeroValue112
 i0:=by kernel_rfl
 i2:=by kernel_rfl
 i3:=by kernel_rfl
 i4:=by kernel_rfl
 i5:=by kernel_rfl
 i9:=by kernel_rfl
 i20:=by kernel_rfl
 i21:=by kernel_rfl
 i37:=by kernel_rfl
 i46:=by kernel_rfl
 i51:=by kernel_rfl
 i53:=by kernel_rfl
 i75:=by kernel_rfl
 i76:=by kernel_rfl
 i80:=by kernel_rfl
 i85:=by kernel_rfl
 i127:=by kernel_rfl
 i143:=by kernel_rfl
 i145:=by kernel_rfl
 i167:=by kernel_rfl
 i168:=by kernel_rfl
 i171:=by kernel_rfl
 i173:=by kernel_rfl
 i175:=by kernel_rfl
 i210:=by kernel_rfl
 i212:=by kernel_rfl
 i232:=by kernel_rfl
 i233:=by kernel_rfl
 m15:=by kernel_rfl
 m16:=by kernel_rfl
 m17:=by kernel_rfl
 m18:=by kernel_rfl
 m19:=by kernel_rfl
 c0:=by kernel_rfl
 c2:=by kernel_rfl
 c3:=by kernel_rfl
 c4:=by kernel_rfl
 c5:=by kernel_rfl
 c9:=by kernel_rfl
 c20:=by kernel_rfl
 c21:=by kernel_rfl
 c37:=by kernel_rfl
 c46:=by kernel_rfl
 c51:=by kernel_rfl
 c53:=by kernel_rfl
 c75:=by kernel_rfl
 c76:=by kernel_rfl
 c80:=by kernel_rfl
 c85:=by kernel_rfl
 c127:=by kernel_rfl
 c143:=by kernel_rfl
 c145:=by kernel_rfl
 c167:=by kernel_rfl
 c168:=by kernel_rfl
 c171:=by kernel_rfl
 c173:=by kernel_rfl
 c175:=by kernel_rfl
 c210:=by kernel_rfl
 c212:=by kernel_rfl
 c213:=by kernel_rfl
 c232:=by kernel_rfl
 c233:=by kernel_rfl }
open Go.RowKit in
theorem Tryz.strconv_Atoi_ok (s:ByteArray)(hmax:s.size≤9223372036854775806)(v:Int)(h:Lib.atoiAll s.data.toList=.ok v)(w:World) :
  Calls Tryz.prog 88 #[.string s] w fun e w'=>e=.returned (.tuple #[.int .i64 v,.nilIface])∧(w'=w∨∃ t,w'=Lib.bytesWorld w 5 t):=Any.strconv_Atoi_ok Tryz.laysC172 s hmax v h w
open Go.RowKit in
theorem Tryz.strconv_Atoi_syntax (s:ByteArray)(hlim:s.size≤281474976710656)(h:Lib.atoiAll s.data.toList= Lib.NumEnd.syntax)(ev:Value)(w:World)(hv:w.cell? ⟨4,0,none⟩=some ev)(hev:ev=.nilIface∨∃ te pe,ev=.iface te pe) :
  Calls Tryz.prog 88 #[.string s] w fun e w'=>∃ N,e=.returned (.tuple #[.int .i64 (0),.iface 200 (.pointer (some ⟨N,0,none⟩))])∧w.heap.size≤N∧w'.heap[N]?=some (.cells #[.string ⟨#[65,116,111,105]⟩,.string s,ev] 230 (0,0))∧Below w.heap.size w w':=Any.strconv_Atoi_syntax Tryz.laysC172 s hlim h ev w hv hev
open Go.RowKit in
theorem Tryz.strconv_Atoi_range (s:ByteArray)(hlim:s.size≤281474976710656)(h:Lib.atoiAll s.data.toList=.range)(ev:Value)(w:World)(hv:w.cell? ⟨5,0,none⟩=some ev)(hev:ev=.nilIface∨∃ te pe,ev=.iface te pe) :
  Calls Tryz.prog 88 #[.string s] w fun e w'=>∃ N,e=.returned (.tuple #[.int .i64 (Lib.atoiSat s.data.toList),.iface 200 (.pointer (some ⟨N,0,none⟩))])∧w.heap.size≤N∧w'.heap[N]?=some (.cells #[.string ⟨#[65,116,111,105]⟩,.string s,ev] 230 (0,0))∧Below w.heap.size w w':=Any.strconv_Atoi_range Tryz.laysC172 s hlim h ev w hv hev
def Tryz.laysPu14_ren:Go.Shelf.Ren:=⟨fun | 14=>98 | 16=>123 | 17=>116 | 19=>151 | 20=>152 | 21=>142 | 22=>143 | 23=>144 | 24=>145 | 25=>174 | 27=>119 | 26=>175 | 28=>149 | 29=>176 | 30=>180 | 31=>181 | 32=>182 | 33=>183 | 35=>124 | 34=>201 | 36=>202 | 37=>203 | 38=>204 | 39=>214 | 40=>156 | n=>n,fun | 9=>9 | 3=>3 | 22=>158 | 24=>141 | 25=>159 | 4=>4 | 34=>197 | 5=>5 | 36=>175 | 37=>108 | 0=>0 | 39=>200 | 21=>21 | 44=>230 | 47=>145 | 50=>252 | 48=>250 | 2=>2 | 52=>234 | 55=>236 | 59=>256 | 60=>227 | 20=>20 | 61=>257 | 65=>269 | 66=>233 | 67=>112 | n=>n,fun | 0=>4 | 1=>5 | 2=>7 | 3=>8 | 4=>6 | n=>n⟩
theorem Tryz.laysPu14:Go.Proofs.LaysPu.n14 Tryz.prog Tryz.laysPu14_ren:={
 mixed:=by kernel_rfl
 f14:=Tryz.func98.trans (congrArg some (by kernel_rfl))
 f16:=Tryz.func123.trans (congrArg some (by kernel_rfl))
 f17:=Tryz.func116.trans (congrArg some (by kernel_rfl))
 f19:=Tryz.func151.trans (congrArg some (by kernel_rfl))
 f20:=Tryz.func152.trans (congrArg some (by kernel_rfl))
 f21:=Tryz.func142.trans (congrArg some (by kernel_rfl))
 f22:=Tryz.func143.trans (congrArg some (by kernel_rfl))
 f23:=Tryz.func144.trans (congrArg some (by kernel_rfl))
 f24:=Tryz.func145.trans (congrArg some (by kernel_rfl))
 f25:=Tryz.func174.trans (congrArg some (by kernel_rfl))
 f26:=Tryz.func175.trans (congrArg some (by kernel_rfl))
 f27:=Tryz.func119.trans (congrArg some (by kernel_rfl))
 f28:=Tryz.func149.trans (congrArg some (by kernel_rfl))
 f29:=Tryz.func176.trans (congrArg some (by kernel_rfl))
 f30:=Tryz.func180.trans (congrArg some (by kernel_rfl))
 f31:=Tryz.func181.trans (congrArg some (by kernel_rfl))
 f32:=Tryz.func182.trans (congrArg some (by kernel_rfl))
 f33:=Tryz.func183.trans (congrArg some (by kernel_rfl))
 f34:=Tryz.func201.trans (congrArg some (by kernel_rfl))
 f35:=Tryz.func124.trans (congrArg some (by kernel_rfl))
 f36:=Tryz.func202.trans (congrArg some (by kernel_rfl))
 f37:=Tryz.func203.trans (congrArg some (by kernel_rfl))
 f38:=Tryz.func204.trans (congrArg some (by kernel_rfl))
 f39:=Tryz.func214.trans (congrArg some (by kernel_rfl))
 f40:=Tryz.func156.trans (congrArg some (by kernel_rfl))
 t0:=Tryz.underlying0
 a0:=Tryz.isAgg0
 z0:=Tryz.sizeOf0
 v0:=Tryz.zeroValue0
 i0:=by kernel_rfl
 t2:=Tryz.underlying2
 a2:=Tryz.isAgg2
 z2:=Tryz.sizeOf2
 v2:=Tryz.zeroValue2
 i2:=by kernel_rfl
 t3:=Tryz.underlying3
 a3:=Tryz.isAgg3
 z3:=Tryz.sizeOf3
 v3:=Tryz.zeroValue3
 i3:=by kernel_rfl
 t4:=Tryz.underlying4
 a4:=Tryz.isAgg4
 z4:=Tryz.sizeOf4
 v4:=Tryz.zeroValue4
 i4:=by kernel_rfl
 t5:=Tryz.underlying5
 a5:=Tryz.isAgg5
 z5:=Tryz.sizeOf5
 v5:=Tryz.zeroValue5
 i5:=by kernel_rfl
 t9:=Tryz.underlying9
 a9:=Tryz.isAgg9
 z9:=Tryz.sizeOf9
 v9:=Tryz.zeroValue9
 i9:=by kernel_rfl
 t20:=Tryz.underlying20
 a20:=Tryz.isAgg20
 z20:=Tryz.sizeOf20
 v20:=Tryz.zeroValue20
 i20:=by kernel_rfl
 t21:=Tryz.underlying21
 a21:=Tryz.isAgg21
 z21:=Tryz.sizeOf21
 v21:=Tryz.zeroValue21
 i21:=by kernel_rfl
 t22:=Tryz.underlying158
 a22:=Tryz.isAgg158
 z22:=Tryz.sizeOf158
 v22:=Tryz.zeroValue158
 i22:=by kernel_rfl
 t24:=Tryz.underlying141
 a24:=Tryz.isAgg141
 z24:=Tryz.sizeOf141
 v24:=Tryz.zeroValue141
 i24:=by kernel_rfl
 t25:=Tryz.underlying159
 a25:=Tryz.isAgg159
 z25:=Tryz.sizeOf159
 v25:=Tryz.zeroValue159
 i25:=by kernel_rfl
 t34:=Tryz.underlying197
 a34:=Tryz.isAgg197
 z34:=Tryz.sizeOf197
 v34:=Tryz.zeroValue197
 i34:=by kernel_rfl
 c34:=by kernel_rfl
 t36:=Tryz.underlying175
 a36:=Tryz.isAgg175
 z36:=Tryz.sizeOf175
 v36:=Tryz.zeroValue175
 i36:=by kernel_rfl
 t37:=Tryz.underlying108
 a37:=Tryz.isAgg108
 z37:=Tryz.sizeOf108
 v37:=Tryz.zeroValue108
 i37:=by kernel_rfl
 t39:=Tryz.underlying200
 a39:=Tryz.isAgg200
 z39:=Tryz.sizeOf200
 v39:=Tryz.zeroValue200
 i39:=by kernel_rfl
 t44:=Tryz.underlying230
 a44:=Tryz.isAgg230
 z44:=Tryz.sizeOf230
 v44:=Tryz.zeroValue230
 i44:=by kernel_rfl
 t47:=Tryz.underlying145
 a47:=Tryz.isAgg145
 z47:=Tryz.sizeOf145
 v47:=Tryz.zeroValue145
 i47:=by kernel_rfl
 t48:=Tryz.underlying250
 a48:=Tryz.isAgg250
 z48:=Tryz.sizeOf250
 v48:=Tryz.zeroValue250
 i48:=by kernel_rfl
 t50:=Tryz.underlying252
 a50:=Tryz.isAgg252
 z50:=Tryz.sizeOf252
 v50:=Tryz.zeroValue252
 i50:=by kernel_rfl
 t52:=Tryz.underlying234
 a52:=Tryz.isAgg234
 z52:=Tryz.sizeOf234
 v52:=Tryz.zeroValue234
 i52:=by kernel_rfl
 t55:=Tryz.underlying236
 a55:=Tryz.isAgg236
 z55:=Tryz.sizeOf236
 v55:=Tryz.zeroValue236
 i55:=by kernel_rfl
 t59:=Tryz.underlying256
 a59:=Tryz.isAgg256
 z59:=Tryz.sizeOf256
 v59:=Tryz.zeroValue256
 i59:=by kernel_rfl
 t60:=Tryz.underlying227
 a60:=Tryz.isAgg227
 z60:=Tryz.sizeOf227
 v60:=Tryz.zeroValue227
 i60:=by kernel_rfl
 t61:=Tryz.underlying257
 a61:=Tryz.isAgg257
 z61:=Tryz.sizeOf257
 t65:=Tryz.underlying269
 a65:=Tryz.isAgg269
 z65:=Tryz.sizeOf269
 v65:=Tryz.zeroValue269
 i65:=by kernel_rfl
 t66:=Tryz.underlying233
 a66:=Tryz.isAgg233
 z66:=Tryz.sizeOf233
 v66:=Tryz.zeroValue233
 i66:=by kernel_rfl
 t67:=Tryz.underlying112
 a67:=Tryz.isAgg112
 z67:=Tryz.sizeOf112
 v67:=Tryz.zeroValue112
 i67:=by kernel_rfl
 g0:=by kernel_rfl
 m0:=by kernel_rfl
 g1:=by kernel_rfl
 m1:=by kernel_rfl
 g2:=by kernel_rfl
 m2:=by kernel_rfl
 g3:=by kernel_rfl
 m3:=by kernel_rfl
 g4:=by kernel_rfl
 m4:=by kernel_rfl }
open Go.RowKit in
theorem Tryz.strconv_ParseUint_10_at64_ok (s:ByteArray)(hmax:s.size≤9223372036854775806)(u:Nat)(h:Lib.parseUintB 64 s.data.toList=.ok u)(w:World) :
  Calls Tryz.prog 98 #[.string s,.int .i64 10,.int .i64 64] w fun e w'=>e=.returned (.tuple #[.int .u64 u,.nilIface])∧(w'=w∨w'=Lib.bytesWorld w 5 s):=Any.strconv_ParseUint_10_at64_ok Tryz.laysPu14 s hmax u h w
open Go.RowKit in
theorem Tryz.strconv_ParseUint_10_at64_syntax (s:ByteArray)(hlim:s.size≤281474976710656)(h:Lib.parseUintB 64 s.data.toList= Lib.NumEnd.syntax)(ev:Value)(w:World)(hv:w.cell? ⟨4,0,none⟩=some ev)(hev:ev=.nilIface∨∃ te pe,ev=.iface te pe) :
  Calls Tryz.prog 98 #[.string s,.int .i64 10,.int .i64 64] w fun e w'=>∃ N,e=.returned (.tuple #[.int .u64 0,.iface 200 (.pointer (some ⟨N,0,none⟩))])∧w.heap.size≤N∧w'.heap[N]?=some (.cells #[.string ⟨#[80,97,114,115,101,85,105,110,116]⟩,.string s,ev] 230 (0,0))∧Below w.heap.size w w':=Any.strconv_ParseUint_10_at64_syntax Tryz.laysPu14 s hlim h ev w hv hev
open Go.RowKit in
theorem Tryz.strconv_ParseUint_10_at64_range (s:ByteArray)(hlim:s.size≤281474976710656)(h:Lib.parseUintB 64 s.data.toList=.range)(ev:Value)(w:World)(hv:w.cell? ⟨5,0,none⟩=some ev)(hev:ev=.nilIface∨∃ te pe,ev=.iface te pe) :
  Calls Tryz.prog 98 #[.string s,.int .i64 10,.int .i64 64] w fun e w'=>∃ N,e=.returned (.tuple #[.int .u64 18446744073709551615,.iface 200 (.pointer (some ⟨N,0,none⟩))])∧w.heap.size≤N∧w'.heap[N]?=some (.cells #[.string ⟨#[80,97,114,115,101,85,105,110,116]⟩,.string s,ev] 230 (0,0))∧Below w.heap.size w w':=Any.strconv_ParseUint_10_at64_range Tryz.laysPu14 s hlim h ev w hv hev
def Tryz.lays219_ren:Go.Shelf.Ren:=⟨fun | 219=>150 | 217=>114 | 225=>177 | 224=>178 | 267=>179 | 266=>140 | 314=>200 | n=>n,fun | 9=>9 | 3=>3 | 4=>4 | 5=>5 | 46=>175 | 146=>253 | 51=>227 | n=>n,fun | 1=>3 | n=>n⟩
theorem Tryz.lays219:Go.Proofs.Lays.n219 Tryz.prog Tryz.lays219_ren:={
 mixed:=by kernel_rfl
 f217:=Tryz.func114.trans (congrArg some (by kernel_rfl))
 f219:=Tryz.func150.trans (congrArg some (by kernel_rfl))
 f224:=Tryz.func178.trans (congrArg some (by kernel_rfl))
 f225:=Tryz.func177.trans (congrArg some (by kernel_rfl))
 f266:=Tryz.func140.trans (congrArg some (by kernel_rfl))
 f267:=Tryz.func179.trans (congrArg some (by kernel_rfl))
 f314:=Tryz.func200.trans (congrArg some (by kernel_rfl))
 t3:=Tryz.underlying3
 a3:=Tryz.isAgg3
 z3:=Tryz.sizeOf3
 v3:=Tryz.zeroValue3
 t4:=Tryz.underlying4
 a4:=Tryz.isAgg4
 z4:=Tryz.sizeOf4
 v4:=Tryz.zeroValue4
 t5:=Tryz.underlying5
 a5:=Tryz.isAgg5
 z5:=Tryz.sizeOf5
 v5:=Tryz.zeroValue5
 t9:=Tryz.underlying9
 a9:=Tryz.isAgg9
 z9:=Tryz.sizeOf9
 v9:=Tryz.zeroValue9
 t46:=Tryz.underlying175
 a46:=Tryz.isAgg175
 z46:=Tryz.sizeOf175
 v46:=Tryz.zeroValue175
 t51:=Tryz.underlying227
 a51:=Tryz.isAgg227
 z51:=Tryz.sizeOf227
 v51:=Tryz.zeroValue227
 t146:=Tryz.underlying253
 a146:=Tryz.isAgg253
 z146:=Tryz.sizeOf253
 v146:=Tryz.zeroValue253
 g1:=by kernel_rfl }
open Go.RowKit Go.Lib in
theorem Tryz.stringslite_Index_one (s:ByteArray)(c:UInt8)(w:World) :
  Calls Tryz.prog 150 #[.string s,.string ⟨#[c]⟩] w fun e w'=>e=.returned (.int .i64 (Lib.indexByte s.data.toList c))∧w'=w:=Any.stringslite_Index_one Tryz.lays219 s c w
def Tryz.lays101_ren:Go.Shelf.Ren:=⟨fun | 101=>89 | 208=>117 | 206=>146 | n=>n,fun | 9=>9 | 4=>4 | 3=>3 | n=>n,fun | n=>n⟩
theorem Tryz.lays101:Go.Proofs.Lays.n101 Tryz.prog Tryz.lays101_ren:={
 mixed:=by kernel_rfl
 f101:=Tryz.func89.trans (congrArg some (by kernel_rfl))
 f206:=Tryz.func146.trans (congrArg some (by kernel_rfl))
 f208:=Tryz.func117.trans (congrArg some (by kernel_rfl))
 t3:=Tryz.underlying3
 a3:=Tryz.isAgg3
 z3:=Tryz.sizeOf3
 v3:=Tryz.zeroValue3
 t4:=Tryz.underlying4
 a4:=Tryz.isAgg4
 z4:=Tryz.sizeOf4
 v4:=Tryz.zeroValue4
 t9:=Tryz.underlying9
 a9:=Tryz.isAgg9
 z9:=Tryz.sizeOf9
 v9:=Tryz.zeroValue9 }
open Go.RowKit Go.Lib in
theorem Tryz.strings_TrimPrefix (s p:ByteArray)(w:World) :
  Calls Tryz.prog 89 #[.string s,.string p] w fun e w'=>e=.returned (.string ⟨(Lib.trimPrefix s.data.toList p.data.toList).toArray⟩)∧w'=w:=Any.strings_TrimPrefix Tryz.lays101 s p w
def Tryz.lays105_ren:Go.Shelf.Ren:=⟨fun | 105=>159 | 212=>184 | 99=>185 | 165=>186 | 166=>84 | 170=>187 | 169=>69 | 263=>205 | 264=>206 | 206=>146 | 240=>113 | 241=>207 | 276=>139 | 277=>215 | n=>n,fun | 9=>9 | 3=>3 | 4=>4 | 20=>20 | 0=>0 | 46=>175 | 109=>238 | 5=>5 | 72=>110 | 76=>142 | 51=>227 | 146=>253 | 53=>158 | 148=>259 | 70=>107 | 37=>108 | 75=>141 | 127=>145 | 164=>195 | 80=>112 | n=>n,fun | n=>n⟩
theorem Tryz.lays105:Go.Proofs.Lays.n105 Tryz.prog Tryz.lays105_ren:={
 mixed:=by kernel_rfl
 f99:=Tryz.func185.trans (congrArg some (by kernel_rfl))
 f105:=Tryz.func159.trans (congrArg some (by kernel_rfl))
 f165:=Tryz.func186.trans (congrArg some (by kernel_rfl))
 f166:=Tryz.func84.trans (congrArg some (by kernel_rfl))
 f169:=Tryz.func69.trans (congrArg some (by kernel_rfl))
 f170:=Tryz.func187.trans (congrArg some (by kernel_rfl))
 f206:=Tryz.func146.trans (congrArg some (by kernel_rfl))
 f212:=Tryz.func184.trans (congrArg some (by kernel_rfl))
 f240:=Tryz.func113.trans (congrArg some (by kernel_rfl))
 f241:=Tryz.func207.trans (congrArg some (by kernel_rfl))
 f263:=Tryz.func205.trans (congrArg some (by kernel_rfl))
 f264:=Tryz.func206.trans (congrArg some (by kernel_rfl))
 f276:=Tryz.func139.trans (congrArg some (by kernel_rfl))
 f277:=Tryz.func215.trans (congrArg some (by kernel_rfl))
 t0:=Tryz.underlying0
 a0:=Tryz.isAgg0
 z0:=Tryz.sizeOf0
 v0:=Tryz.zeroValue0
 t3:=Tryz.underlying3
 a3:=Tryz.isAgg3
 z3:=Tryz.sizeOf3
 v3:=Tryz.zeroValue3
 t4:=Tryz.underlying4
 a4:=Tryz.isAgg4
 z4:=Tryz.sizeOf4
 v4:=Tryz.zeroValue4
 t5:=Tryz.underlying5
 a5:=Tryz.isAgg5
 z5:=Tryz.sizeOf5
 v5:=Tryz.zeroValue5
 t9:=Tryz.underlying9
 a9:=Tryz.isAgg9
 z9:=Tryz.sizeOf9
 v9:=Tryz.zeroValue9
 t20:=Tryz.underlying20
 a20:=Tryz.isAgg20
 z20:=Tryz.sizeOf20
 v20:=Tryz.zeroValue20
 t37:=Tryz.underlying108
 a37:=Tryz.isAgg108
 z37:=Tryz.sizeOf108
 v37:=Tryz.zeroValue108
 t46:=Tryz.underlying175
 a46:=Tryz.isAgg175
 z46:=Tryz.sizeOf175
 v46:=Tryz.zeroValue175
 t51:=Tryz.underlying227
 a51:=Tryz.isAgg227
 z51:=Tryz.sizeOf227
 v51:=Tryz.zeroValue227
 t53:=Tryz.underlying158
 a53:=Tryz.isAgg158
 z53:=Tryz.sizeOf158
 v53:=Tryz.zeroValue158
 t70:=Tryz.underlying107
 a70:=Tryz.isAgg107
 z70:=Tryz.sizeOf107
 v70:=Tryz.zeroValue107
 t72:=Tryz.underlying110
 a72:=Tryz.isAgg110
 z72:=Tryz.sizeOf110
 v72:=Tryz.zeroValue110
 t75:=Tryz.underlying141
 a75:=Tryz.isAgg141
 z75:=Tryz.sizeOf141
 v75:=Tryz.zeroValue141
 t76:=Tryz.underlying142
 a76:=Tryz.isAgg142
 z76:=Tryz.sizeOf142
 v76:=Tryz.zeroValue142
 t109:=Tryz.underlying238
 a109:=Tryz.isAgg238
 z109:=Tryz.sizeOf238
 v109:=Tryz.zeroValue238
 t127:=Tryz.underlying145
 a127:=Tryz.isAgg145
 z127:=Tryz.sizeOf145
 v127:=Tryz.zeroValue145
 t146:=Tryz.underlying253
 a146:=Tryz.isAgg253
 z146:=Tryz.sizeOf253
 v146:=Tryz.zeroValue253
 t148:=Tryz.underlying259
 a148:=Tryz.isAgg259
 z148:=Tryz.sizeOf259
 v148:=Tryz.zeroValue259
 t164:=Tryz.underlying195
 a164:=Tryz.isAgg195
 z164:=Tryz.sizeOf195
 v164:=Tryz.zeroValue195 }
theorem Tryz.Builder_Extra_105:Builder.Extra Tryz.prog Tryz.lays105_ren:={
 sizeBuilder:=by kernel_rfl
 liesBuilder:=by kernel_rfl
 t5:=Tryz.underlying5
 a5:=Tryz.isAgg5
 z5:=Tryz.sizeOf5
 v5:=Tryz.zeroValue5
 infoByte:=by kernel_rfl
 cellsByte:=by kernel_rfl
 sizeByte:=by kernel_rfl
 neB5:=by decide }
open Go.RowKit Go.Lib in
theorem Tryz.strings_Repeat (s:ByteArray)(c:Nat)(w:World)(hc:c≤9223372036854775807)(hlen:s.size * c≤140737488355328) :
  Calls Tryz.prog 159 #[.string s,.int .i64 c] w fun e w'=>e=.returned (.string ⟨(Lib.repeatL s.data.toList c).toArray⟩)∧Below w.heap.size w w':=Any.strings_Repeat Tryz.lays105 Tryz.Builder_Extra_105 s c w hc hlen
def Tryz.lays197_ren:Go.Shelf.Ren:=⟨fun | 197=>73 | 260=>103 | n=>n,fun | 9=>9 | 21=>21 | 3=>3 | 4=>4 | 5=>5 | 105=>124 | 119=>186 | 0=>0 | 46=>175 | 139=>189 | 138=>188 | n=>n,fun | 3=>1 | 4=>2 | n=>n⟩
theorem Tryz.lays197:Go.Proofs.Lays.n197 Tryz.prog Tryz.lays197_ren:={
 mixed:=by kernel_rfl
 f197:=Tryz.func73.trans (congrArg some (by kernel_rfl))
 f260:=Tryz.func103.trans (congrArg some (by kernel_rfl))
 t0:=Tryz.underlying0
 a0:=Tryz.isAgg0
 z0:=Tryz.sizeOf0
 v0:=Tryz.zeroValue0
 t3:=Tryz.underlying3
 a3:=Tryz.isAgg3
 z3:=Tryz.sizeOf3
 v3:=Tryz.zeroValue3
 t4:=Tryz.underlying4
 a4:=Tryz.isAgg4
 z4:=Tryz.sizeOf4
 v4:=Tryz.zeroValue4
 t5:=Tryz.underlying5
 a5:=Tryz.isAgg5
 z5:=Tryz.sizeOf5
 v5:=Tryz.zeroValue5
 t9:=Tryz.underlying9
 a9:=Tryz.isAgg9
 z9:=Tryz.sizeOf9
 v9:=Tryz.zeroValue9
 t21:=Tryz.underlying21
 a21:=Tryz.isAgg21
 z21:=Tryz.sizeOf21
 v21:=Tryz.zeroValue21
 t46:=Tryz.underlying175
 a46:=Tryz.isAgg175
 z46:=Tryz.sizeOf175
 v46:=Tryz.zeroValue175
 t105:=Tryz.underlying124
 a105:=Tryz.isAgg124
 z105:=Tryz.sizeOf124
 v105:=Tryz.zeroValue124
 t119:=Tryz.underlying186
 a119:=Tryz.isAgg186
 z119:=Tryz.sizeOf186
 t138:=Tryz.underlying188
 a138:=Tryz.isAgg188
 z138:=Tryz.sizeOf188
 v138:=Tryz.zeroValue188
 t139:=Tryz.underlying189
 a139:=Tryz.isAgg189
 z139:=Tryz.sizeOf189
 v139:=Tryz.zeroValue189
 g3:=by kernel_rfl
 g4:=by kernel_rfl }
open Go.RowKit Go.Lib in
theorem Tryz.utf8_DecodeRuneInString (s:ByteArray)(w:World)(hT:Lib.Utf8Tabs 1 2 w) :
  Calls Tryz.prog 73 #[.string s] w fun e w'=>e=.returned (.tuple #[.int .i32 (Lib.decodeGo s).1,.int .i64 (Lib.decodeGo s).2])∧Below w.heap.size w w':=Any.utf8_DecodeRuneInString Tryz.lays197 s w hT
end Go.Proofs
