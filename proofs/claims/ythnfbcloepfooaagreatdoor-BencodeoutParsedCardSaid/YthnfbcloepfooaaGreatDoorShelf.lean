
import Derived.Shelf.Unicode.ValidAny
import Derived.Shelf.Strings.Trim
import Derived.Shelf.Small.Bits
import Derived.Shelf.Small.Wraps
import Derived.Shelf.Strconv.Itoa3
import Derived.Shelf.Strconv.ErrVar
import Derived.Shelf.Strconv.ErrVarAll
import Derived.Shelf.Strconv.ParseInt10All
import Derived.Shelf.Pu.ErrVarParseUint
import Derived.Shelf.Strings.Shaped
import Derived.Shelf.Unicode.Decode
import Derived.Shelf.Strings.Runes
import Derived.Shelf.Strings.AsciiSet
import Derived.Shelf.Strings.Repeat
import Derived.Shelf.Unicode.DecodeLast
import Derived.Shelf.Strings.BuilderCap
import Derived.Test.YthnfbcloepfooaaGreatDoorProg
set_option linter.all false
namespace Go.Proofs
theorem cgS{α:Type _}{a b:α}(h:a=b):some a=some b:=congrArg some h
open Go.Shelf
def Tryz.Ir:Go.Shelf.Ren:=⟨λ| 106=>43|213=>66|265=>95|n=>n,λ| 9=>9|3=>3|n=>n,λ| n=>n⟩
theorem Tryz.Tf:Go.Proofs.Lays.n106 Tryz.prog Tryz.Ir:={
 mixed:=by kernel_rfl
 f106:=Tryz.func43.trans (cgS (by kernel_rfl))
 f213:=Tryz.func66.trans (cgS (by kernel_rfl))
 f265:=Tryz.func95.trans (cgS (by kernel_rfl))
 t3:=Tryz.underlying3
 a3:=Tryz.isAgg3
 z3:=Tryz.sizeOf3
 v3:=Tryz.zeroValue3
 t9:=Tryz.underlying9
 a9:=Tryz.isAgg9
 z9:=Tryz.sizeOf9
 v9:=Tryz.zeroValue9 }
open Go.RowKit in
theorem Tryz.strings_Compare (a b:ByteArray)(w:World) :
  Calls Tryz.prog 43 #[.string a,.string b] w λe w'=>e=.returned (.int .i64 (Lib.compareBytes a.data.toList b.data.toList))/\w'=w:=Any.strings_Compare Tryz.Tf a b w
def Tryz.It:Go.Shelf.Ren:=⟨λ| 137=>47|217=>72|266=>104|n=>n,λ| 9=>9|5=>5|3=>3|n=>n,λ| n=>n⟩
theorem Tryz.Tg:Go.Proofs.Lays.n137 Tryz.prog Tryz.It:={
 mixed:=by kernel_rfl
 f137:=Tryz.func47.trans (cgS (by kernel_rfl))
 f217:=Tryz.func72.trans (cgS (by kernel_rfl))
 f266:=Tryz.func104.trans (cgS (by kernel_rfl))
 t3:=Tryz.underlying3
 a3:=Tryz.isAgg3
 z3:=Tryz.sizeOf3
 v3:=Tryz.zeroValue3
 t5:=Tryz.underlying5
 a5:=Tryz.isAgg5
 z5:=Tryz.sizeOf5
 v5:=Tryz.zeroValue5
 t9:=Tryz.underlying9
 a9:=Tryz.isAgg9
 z9:=Tryz.sizeOf9
 v9:=Tryz.zeroValue9 }
open Go.RowKit in
theorem Tryz.strings_IndexByte (s:ByteArray)(c:Int)(w:World) :
  Calls Tryz.prog 47 #[.string s,.int .u8 c] w λe w'=>e=.returned (.int .i64 (Lib.indexByte s.data.toList c.toNat.toUInt8))/\w'=w:=Any.strings_IndexByte Tryz.Tg s c w
def Tryz.Iu:Go.Shelf.Ren:=⟨λ| 129=>94|n=>n,λ| 53=>149|3=>3|4=>4|46=>117|5=>5|9=>9|n=>n,λ| n=>n⟩
theorem Tryz.Th:Go.Proofs.Lays.n129 Tryz.prog Tryz.Iu:={
 mixed:=by kernel_rfl
 f129:=Tryz.func94.trans (cgS (by kernel_rfl))
 t3:=Tryz.underlying3
 a3:=Tryz.isAgg3
 z3:=Tryz.sizeOf3
 v3:=Tryz.zeroValue3
 t4:=Tryz.underlying4
 a4:=Tryz.isAgg4
 z4:=Tryz.sizeOf4
 v4:=Tryz.zeroValue4
 t5:=Tryz.underlying5
 a5:=Tryz.isAgg5
 z5:=Tryz.sizeOf5
 v5:=Tryz.zeroValue5
 t9:=Tryz.underlying9
 a9:=Tryz.isAgg9
 z9:=Tryz.sizeOf9
 v9:=Tryz.zeroValue9
 t46:=Tryz.underlying117
 a46:=Tryz.isAgg117
 z46:=Tryz.sizeOf117
 v46:=Tryz.zeroValue117
 t53:=Tryz.underlying149
 a53:=Tryz.isAgg149
 z53:=Tryz.sizeOf149
 v53:=Tryz.zeroValue149 }
theorem Tryz.bits_Len64 (x:Int)(w:World)(h0:0<=x)(h1:x<=18446744073709551615) :
  Calls Tryz.prog 94 #[.int .u64 x] w λe w'=>e=.returned (.int .i64 (Lib.bitLen x.toNat))/\w'=w:=Any.bits_Len64 Tryz.Th x w h0 h1
def Tryz.Fo:Go.Shelf.Ren:=⟨λ| 171=>67|243=>96|246=>116|283=>144|284=>145|285=>146|286=>147|129=>94|317=>171|318=>172|319=>173|320=>174|337=>194|338=>184|n=>n,λ| 3=>3|9=>9|2=>2|4=>4|171=>208|0=>0|53=>149|37=>57|5=>5|173=>210|212=>226|51=>147|20=>20|213=>227|46=>117|232=>252|233=>247|n=>n,λ| 17=>6|18=>8|19=>7|n=>n⟩
theorem Tryz.Qd:Go.Proofs.LaysM.n171 Tryz.prog Tryz.Fo:={
 mixed:=by kernel_rfl
 f129:=Tryz.func94.trans (cgS (by kernel_rfl))
 f171:=Tryz.func67.trans (cgS (by kernel_rfl))
 f243:=Tryz.func96.trans (cgS (by kernel_rfl))
 f246:=Tryz.func116.trans (cgS (by kernel_rfl))
 f283:=Tryz.func144.trans (cgS (by kernel_rfl))
 f284:=Tryz.func145.trans (cgS (by kernel_rfl))
 f285:=Tryz.func146.trans (cgS (by kernel_rfl))
 f286:=Tryz.func147.trans (cgS (by kernel_rfl))
 f317:=Tryz.func171.trans (cgS (by kernel_rfl))
 f318:=Tryz.func172.trans (cgS (by kernel_rfl))
 f319:=Tryz.func173.trans (cgS (by kernel_rfl))
 f320:=Tryz.func174.trans (cgS (by kernel_rfl))
 f337:=Tryz.func194.trans (cgS (by kernel_rfl))
 f338:=Tryz.func184.trans (cgS (by kernel_rfl))
 t0:=Tryz.underlying0
 a0:=Tryz.isAgg0
 z0:=Tryz.sizeOf0
 v0:=Tryz.zeroValue0
 t2:=Tryz.underlying2
 a2:=Tryz.isAgg2
 z2:=Tryz.sizeOf2
 v2:=Tryz.zeroValue2
 t3:=Tryz.underlying3
 a3:=Tryz.isAgg3
 z3:=Tryz.sizeOf3
 v3:=Tryz.zeroValue3
 t4:=Tryz.underlying4
 a4:=Tryz.isAgg4
 z4:=Tryz.sizeOf4
 v4:=Tryz.zeroValue4
 t5:=Tryz.underlying5
 a5:=Tryz.isAgg5
 z5:=Tryz.sizeOf5
 v5:=Tryz.zeroValue5
 t9:=Tryz.underlying9
 a9:=Tryz.isAgg9
 z9:=Tryz.sizeOf9
 v9:=Tryz.zeroValue9
 t20:=Tryz.underlying20
 a20:=Tryz.isAgg20
 z20:=Tryz.sizeOf20
 v20:=Tryz.zeroValue20
 t37:=Tryz.underlying57
 a37:=Tryz.isAgg57
 z37:=Tryz.sizeOf57
 v37:=Tryz.zeroValue57
 t46:=Tryz.underlying117
 a46:=Tryz.isAgg117
 z46:=Tryz.sizeOf117
 v46:=Tryz.zeroValue117
 t51:=Tryz.underlying147
 a51:=Tryz.isAgg147
 z51:=Tryz.sizeOf147
 v51:=Tryz.zeroValue147
 t53:=Tryz.underlying149
 a53:=Tryz.isAgg149
 z53:=Tryz.sizeOf149
 v53:=Tryz.zeroValue149
 t171:=Tryz.underlying208
 a171:=Tryz.isAgg208
 z171:=Tryz.sizeOf208
 v171:=Tryz.zeroValue208
 t173:=Tryz.underlying210
 a173:=Tryz.isAgg210
 z173:=Tryz.sizeOf210
 v173:=Tryz.zeroValue210
 t212:=Tryz.underlying226
 a212:=Tryz.isAgg226
 z212:=Tryz.sizeOf226
 v212:=Tryz.zeroValue226
 t213:=Tryz.underlying227
 a213:=Tryz.isAgg227
 z213:=Tryz.sizeOf227
 t232:=Tryz.underlying252
 a232:=Tryz.isAgg252
 z232:=Tryz.sizeOf252
 v232:=Tryz.zeroValue252
 t233:=Tryz.underlying247
 a233:=Tryz.isAgg247
 z233:=Tryz.sizeOf247
 v233:=Tryz.zeroValue247
 g17:=by kernel_rfl
 g18:=by kernel_rfl
 g19:=by kernel_rfl
 i0:=by kernel_rfl
 i2:=by kernel_rfl
 i3:=by kernel_rfl
 i4:=by kernel_rfl
 i5:=by kernel_rfl
 i9:=by kernel_rfl
 i20:=by kernel_rfl
 i37:=by kernel_rfl
 i46:=by kernel_rfl
 i51:=by kernel_rfl
 i53:=by kernel_rfl
 i171:=by kernel_rfl
 i173:=by kernel_rfl
 i212:=by kernel_rfl
 i232:=by kernel_rfl
 i233:=by kernel_rfl
 m17:=by kernel_rfl
 m18:=by kernel_rfl
 m19:=by kernel_rfl }
open Go.RowKit Go.Sort Go.Lib in
theorem Tryz.strconv_Itoa (n : Int) (h0 : -9223372036854775808 <= n) (h1 : n <= 9223372036854775807) (w : World) (htab : Lib.TabIs Tryz.prog w "internal/strconv.uint64pow10" .u64 Lib.pow10Tab) :
  Calls Tryz.prog 67 #[.int .i64 n] w λe w'=>e=.returned (.string ⟨(Lib.itoa n).toArray⟩)/\∃k os,w'=grow (w.drewN k) os:=Any.strconv_Itoa Tryz.Qd n h0 h1 w htab
def Tryz.Fp:Go.Shelf.Ren:=⟨λ| 172=>74|244=>106|245=>107|247=>136|279=>137|280=>138|281=>139|282=>140|287=>153|316=>165|171=>67|205=>166|321=>179|322=>180|243=>96|246=>116|283=>144|284=>145|285=>146|286=>147|129=>94|317=>171|318=>172|319=>173|320=>174|337=>194|338=>184|n=>n,λ| 9=>9|3=>3|75=>84|76=>85|4=>4|5=>5|167=>197|37=>57|0=>0|85=>198|2=>2|168=>200|53=>149|175=>185|46=>117|210=>222|127=>92|145=>244|143=>242|21=>21|171=>208|173=>210|212=>226|51=>147|20=>20|213=>227|232=>252|233=>247|80=>64|n=>n,λ| 15=>4|16=>5|17=>6|18=>8|19=>7|n=>n⟩
theorem Tryz.Iv:Go.Proofs.LaysC.n172 Tryz.prog Tryz.Fp:={
 mixed:=by kernel_rfl
 f129:=Tryz.func94.trans (cgS (by kernel_rfl))
 f171:=Tryz.func67.trans (cgS (by kernel_rfl))
 f172:=Tryz.func74.trans (cgS (by kernel_rfl))
 f205:=Tryz.func166.trans (cgS (by kernel_rfl))
 f243:=Tryz.func96.trans (cgS (by kernel_rfl))
 f244:=Tryz.func106.trans (cgS (by kernel_rfl))
 f245:=Tryz.func107.trans (cgS (by kernel_rfl))
 f246:=Tryz.func116.trans (cgS (by kernel_rfl))
 f247:=Tryz.func136.trans (cgS (by kernel_rfl))
 f279:=Tryz.func137.trans (cgS (by kernel_rfl))
 f280:=Tryz.func138.trans (cgS (by kernel_rfl))
 f281:=Tryz.func139.trans (cgS (by kernel_rfl))
 f282:=Tryz.func140.trans (cgS (by kernel_rfl))
 f283:=Tryz.func144.trans (cgS (by kernel_rfl))
 f284:=Tryz.func145.trans (cgS (by kernel_rfl))
 f285:=Tryz.func146.trans (cgS (by kernel_rfl))
 f286:=Tryz.func147.trans (cgS (by kernel_rfl))
 f287:=Tryz.func153.trans (cgS (by kernel_rfl))
 f316:=Tryz.func165.trans (cgS (by kernel_rfl))
 f317:=Tryz.func171.trans (cgS (by kernel_rfl))
 f318:=Tryz.func172.trans (cgS (by kernel_rfl))
 f319:=Tryz.func173.trans (cgS (by kernel_rfl))
 f320:=Tryz.func174.trans (cgS (by kernel_rfl))
 f321:=Tryz.func179.trans (cgS (by kernel_rfl))
 f322:=Tryz.func180.trans (cgS (by kernel_rfl))
 f337:=Tryz.func194.trans (cgS (by kernel_rfl))
 f338:=Tryz.func184.trans (cgS (by kernel_rfl))
 t0:=Tryz.underlying0
 a0:=Tryz.isAgg0
 z0:=Tryz.sizeOf0
 v0:=Tryz.zeroValue0
 t2:=Tryz.underlying2
 a2:=Tryz.isAgg2
 z2:=Tryz.sizeOf2
 v2:=Tryz.zeroValue2
 t3:=Tryz.underlying3
 a3:=Tryz.isAgg3
 z3:=Tryz.sizeOf3
 v3:=Tryz.zeroValue3
 t4:=Tryz.underlying4
 a4:=Tryz.isAgg4
 z4:=Tryz.sizeOf4
 v4:=Tryz.zeroValue4
 t5:=Tryz.underlying5
 a5:=Tryz.isAgg5
 z5:=Tryz.sizeOf5
 v5:=Tryz.zeroValue5
 t9:=Tryz.underlying9
 a9:=Tryz.isAgg9
 z9:=Tryz.sizeOf9
 v9:=Tryz.zeroValue9
 t20:=Tryz.underlying20
 a20:=Tryz.isAgg20
 z20:=Tryz.sizeOf20
 v20:=Tryz.zeroValue20
 t21:=Tryz.underlying21
 a21:=Tryz.isAgg21
 z21:=Tryz.sizeOf21
 v21:=Tryz.zeroValue21
 t37:=Tryz.underlying57
 a37:=Tryz.isAgg57
 z37:=Tryz.sizeOf57
 v37:=Tryz.zeroValue57
 t46:=Tryz.underlying117
 a46:=Tryz.isAgg117
 z46:=Tryz.sizeOf117
 v46:=Tryz.zeroValue117
 t51:=Tryz.underlying147
 a51:=Tryz.isAgg147
 z51:=Tryz.sizeOf147
 v51:=Tryz.zeroValue147
 t53:=Tryz.underlying149
 a53:=Tryz.isAgg149
 z53:=Tryz.sizeOf149
 v53:=Tryz.zeroValue149
 t75:=Tryz.underlying84
 a75:=Tryz.isAgg84
 z75:=Tryz.sizeOf84
 v75:=Tryz.zeroValue84
 t76:=Tryz.underlying85
 a76:=Tryz.isAgg85
 z76:=Tryz.sizeOf85
 v76:=Tryz.zeroValue85
 t85:=Tryz.underlying198
 a85:=Tryz.isAgg198
 z85:=Tryz.sizeOf198
 v85:=Tryz.zeroValue198
 t127:=Tryz.underlying92
 a127:=Tryz.isAgg92
 z127:=Tryz.sizeOf92
 v127:=Tryz.zeroValue92
 t143:=Tryz.underlying242
 a143:=Tryz.isAgg242
 z143:=Tryz.sizeOf242
 v143:=Tryz.zeroValue242
 t145:=Tryz.underlying244
 a145:=Tryz.isAgg244
 z145:=Tryz.sizeOf244
 v145:=Tryz.zeroValue244
 t167:=Tryz.underlying197
 a167:=Tryz.isAgg197
 z167:=Tryz.sizeOf197
 v167:=Tryz.zeroValue197
 t168:=Tryz.underlying200
 a168:=Tryz.isAgg200
 z168:=Tryz.sizeOf200
 v168:=Tryz.zeroValue200
 t171:=Tryz.underlying208
 a171:=Tryz.isAgg208
 z171:=Tryz.sizeOf208
 v171:=Tryz.zeroValue208
 t173:=Tryz.underlying210
 a173:=Tryz.isAgg210
 z173:=Tryz.sizeOf210
 v173:=Tryz.zeroValue210
 t175:=Tryz.underlying185
 a175:=Tryz.isAgg185
 z175:=Tryz.sizeOf185
 v175:=Tryz.zeroValue185
 t210:=Tryz.underlying222
 a210:=Tryz.isAgg222
 z210:=Tryz.sizeOf222
 v210:=Tryz.zeroValue222
 t212:=Tryz.underlying226
 a212:=Tryz.isAgg226
 z212:=Tryz.sizeOf226
 v212:=Tryz.zeroValue226
 t213:=Tryz.underlying227
 a213:=Tryz.isAgg227
 z213:=Tryz.sizeOf227
 t232:=Tryz.underlying252
 a232:=Tryz.isAgg252
 z232:=Tryz.sizeOf252
 v232:=Tryz.zeroValue252
 t233:=Tryz.underlying247
 a233:=Tryz.isAgg247
 z233:=Tryz.sizeOf247
 v233:=Tryz.zeroValue247
 g15:=by kernel_rfl
 g16:=by kernel_rfl
 g17:=by kernel_rfl
 g18:=by kernel_rfl
 g19:=by kernel_rfl
 t80:=Tryz.underlying64
 a80:=Tryz.isAgg64
 z80:=Tryz.sizeOf64
 v80:=Tryz.zeroValue64
 i0:=by kernel_rfl
 i2:=by kernel_rfl
 i3:=by kernel_rfl
 i4:=by kernel_rfl
 i5:=by kernel_rfl
 i9:=by kernel_rfl
 i20:=by kernel_rfl
 i21:=by kernel_rfl
 i37:=by kernel_rfl
 i46:=by kernel_rfl
 i51:=by kernel_rfl
 i53:=by kernel_rfl
 i75:=by kernel_rfl
 i76:=by kernel_rfl
 i80:=by kernel_rfl
 i85:=by kernel_rfl
 i127:=by kernel_rfl
 i143:=by kernel_rfl
 i145:=by kernel_rfl
 i167:=by kernel_rfl
 i168:=by kernel_rfl
 i171:=by kernel_rfl
 i173:=by kernel_rfl
 i175:=by kernel_rfl
 i210:=by kernel_rfl
 i212:=by kernel_rfl
 i232:=by kernel_rfl
 i233:=by kernel_rfl
 m15:=by kernel_rfl
 m16:=by kernel_rfl
 m17:=by kernel_rfl
 m18:=by kernel_rfl
 m19:=by kernel_rfl
 c0:=by kernel_rfl
 c2:=by kernel_rfl
 c3:=by kernel_rfl
 c4:=by kernel_rfl
 c5:=by kernel_rfl
 c9:=by kernel_rfl
 c20:=by kernel_rfl
 c21:=by kernel_rfl
 c37:=by kernel_rfl
 c46:=by kernel_rfl
 c51:=by kernel_rfl
 c53:=by kernel_rfl
 c75:=by kernel_rfl
 c76:=by kernel_rfl
 c80:=by kernel_rfl
 c85:=by kernel_rfl
 c127:=by kernel_rfl
 c143:=by kernel_rfl
 c145:=by kernel_rfl
 c167:=by kernel_rfl
 c168:=by kernel_rfl
 c171:=by kernel_rfl
 c173:=by kernel_rfl
 c175:=by kernel_rfl
 c210:=by kernel_rfl
 c212:=by kernel_rfl
 c213:=by kernel_rfl
 c232:=by kernel_rfl
 c233:=by kernel_rfl }
open Go.RowKit in
theorem Tryz.strconv_Atoi_ok (s:ByteArray)(hmax:s.size<=9223372036854775806)(v:Int)(h:Lib.atoiAll s.data.toList=.ok v)(w:World) :
  Calls Tryz.prog 74 #[.string s] w λe w'=>e=.returned (.tuple #[.int .i64 v,.nilIface])/\(w'=w\/∃t,w'=Lib.bytesWorld w 5 t):=Any.strconv_Atoi_ok Tryz.Iv s hmax v h w
open Go.RowKit in
theorem Tryz.strconv_Atoi_range (s:ByteArray)(hlim:s.size<=281474976710656)(h:Lib.atoiAll s.data.toList=.range)(ev:Value)(w:World)(hv:w.cell? ⟨5,0,none⟩=some ev)(hev:ev=.nilIface\/∃te pe,ev=.iface te pe) :
  Calls Tryz.prog 74 #[.string s] w λe w'=>∃N,e=.returned (.tuple #[.int .i64 (Lib.atoiSat s.data.toList),.iface 200 (.pointer (some ⟨N,0,none⟩))])/\w.heap.size<=N/\w'.heap[N]?=some (.cells #[.string ⟨#[65,116,111,105]⟩,.string s,ev] 222 (0,0))/\Below w.heap.size w w':=Any.strconv_Atoi_range Tryz.Iv s hlim h ev w hv hev
def Tryz.Iw:Go.Shelf.Ren:=⟨λ| 197=>75|260=>108|n=>n,λ| 9=>9|21=>21|3=>3|4=>4|5=>5|105=>125|119=>133|0=>0|46=>117|139=>136|138=>135|n=>n,λ| 3=>0|4=>1|n=>n⟩
theorem Tryz.Ti:Go.Proofs.Lays.n197 Tryz.prog Tryz.Iw:={
 mixed:=by kernel_rfl
 f197:=Tryz.func75.trans (cgS (by kernel_rfl))
 f260:=Tryz.func108.trans (cgS (by kernel_rfl))
 t0:=Tryz.underlying0
 a0:=Tryz.isAgg0
 z0:=Tryz.sizeOf0
 v0:=Tryz.zeroValue0
 t3:=Tryz.underlying3
 a3:=Tryz.isAgg3
 z3:=Tryz.sizeOf3
 v3:=Tryz.zeroValue3
 t4:=Tryz.underlying4
 a4:=Tryz.isAgg4
 z4:=Tryz.sizeOf4
 v4:=Tryz.zeroValue4
 t5:=Tryz.underlying5
 a5:=Tryz.isAgg5
 z5:=Tryz.sizeOf5
 v5:=Tryz.zeroValue5
 t9:=Tryz.underlying9
 a9:=Tryz.isAgg9
 z9:=Tryz.sizeOf9
 v9:=Tryz.zeroValue9
 t21:=Tryz.underlying21
 a21:=Tryz.isAgg21
 z21:=Tryz.sizeOf21
 v21:=Tryz.zeroValue21
 t46:=Tryz.underlying117
 a46:=Tryz.isAgg117
 z46:=Tryz.sizeOf117
 v46:=Tryz.zeroValue117
 t105:=Tryz.underlying125
 a105:=Tryz.isAgg125
 z105:=Tryz.sizeOf125
 v105:=Tryz.zeroValue125
 t119:=Tryz.underlying133
 a119:=Tryz.isAgg133
 z119:=Tryz.sizeOf133
 t138:=Tryz.underlying135
 a138:=Tryz.isAgg135
 z138:=Tryz.sizeOf135
 v138:=Tryz.zeroValue135
 t139:=Tryz.underlying136
 a139:=Tryz.isAgg136
 z139:=Tryz.sizeOf136
 v139:=Tryz.zeroValue136
 g3:=by kernel_rfl
 g4:=by kernel_rfl }
open Go.RowKit Go.Lib in
theorem Tryz.utf8_DecodeRuneInString (s:ByteArray)(w:World)(hT:Lib.Utf8Tabs 0 1 w) :
  Calls Tryz.prog 75 #[.string s] w λe w'=>e=.returned (.tuple #[.int .i32 (Lib.decodeGo s).1,.int .i64 (Lib.decodeGo s).2])/\Below w.heap.size w w':=Any.utf8_DecodeRuneInString Tryz.Ti s w hT
def Tryz.Ix:Go.Shelf.Ren:=⟨λ| 196=>62|259=>83|n=>n,λ| 9=>9|4=>4|3=>3|5=>5|12=>12|119=>133|0=>0|46=>117|139=>136|138=>135|53=>149|n=>n,λ| 3=>0|4=>1|n=>n⟩
theorem Tryz.Tj:Go.Proofs.Lays.n196 Tryz.prog Tryz.Ix:={
 mixed:=by kernel_rfl
 f196:=Tryz.func62.trans (cgS (by kernel_rfl))
 f259:=Tryz.func83.trans (cgS (by kernel_rfl))
 t0:=Tryz.underlying0
 a0:=Tryz.isAgg0
 z0:=Tryz.sizeOf0
 v0:=Tryz.zeroValue0
 t3:=Tryz.underlying3
 a3:=Tryz.isAgg3
 z3:=Tryz.sizeOf3
 v3:=Tryz.zeroValue3
 t4:=Tryz.underlying4
 a4:=Tryz.isAgg4
 z4:=Tryz.sizeOf4
 v4:=Tryz.zeroValue4
 t5:=Tryz.underlying5
 a5:=Tryz.isAgg5
 z5:=Tryz.sizeOf5
 v5:=Tryz.zeroValue5
 t9:=Tryz.underlying9
 a9:=Tryz.isAgg9
 z9:=Tryz.sizeOf9
 v9:=Tryz.zeroValue9
 t12:=Tryz.underlying12
 a12:=Tryz.isAgg12
 z12:=Tryz.sizeOf12
 v12:=Tryz.zeroValue12
 t46:=Tryz.underlying117
 a46:=Tryz.isAgg117
 z46:=Tryz.sizeOf117
 v46:=Tryz.zeroValue117
 t53:=Tryz.underlying149
 a53:=Tryz.isAgg149
 z53:=Tryz.sizeOf149
 v53:=Tryz.zeroValue149
 t119:=Tryz.underlying133
 a119:=Tryz.isAgg133
 z119:=Tryz.sizeOf133
 t138:=Tryz.underlying135
 a138:=Tryz.isAgg135
 z138:=Tryz.sizeOf135
 v138:=Tryz.zeroValue135
 t139:=Tryz.underlying136
 a139:=Tryz.isAgg136
 z139:=Tryz.sizeOf136
 v139:=Tryz.zeroValue136
 g3:=by kernel_rfl
 g4:=by kernel_rfl }
open Go.RowKit Go.Lib in
theorem Tryz.utf8_ValidString (s:ByteArray)(w:World)(hs:s.size<=9223372036854775807)(hT:Lib.Utf8Tabs 0 1 w) :
  Calls Tryz.prog 62 #[.string s] w λe w'=>e=.returned (.bool (Lib.validD s.data.toList))/\Below w.heap.size w w':=Any.utf8_ValidString Tryz.Tj s w hs hT
end Go.Proofs
