
import Derived.Shelf.Strings.Trim
import Derived.Shelf.Small.Bits
import Derived.Shelf.Small.Wraps
import Derived.Shelf.Strconv.Itoa3
import Derived.Shelf.Strconv.ErrVar
import Derived.Shelf.Strconv.ErrVarAll
import Derived.Shelf.Strconv.ParseInt10All
import Derived.Shelf.Pu.ErrVarParseUint
import Derived.Shelf.Strings.Shaped
import Derived.Shelf.Unicode.Decode
import Derived.Shelf.Strings.Runes
import Derived.Shelf.Strings.AsciiSet
import Derived.Shelf.Strings.Repeat
import Derived.Shelf.Unicode.DecodeLast
import Derived.Shelf.Strings.BuilderCap
import Derived.Test.YtdbjhobkhjneeaaGreatDoorProg
set_option linter.all false
namespace Go.Proofs
def cgS{α:Type _}{a b:α}(h:a=b):some a=some b:=congrArg some h
open Go.Shelf
def Tryz.Of:Go.Shelf.Ren:=⟨λ| 162=>140|232=>165|227=>166|234=>167|236=>168|228=>186|271=>187|151=>188|120=>198|197=>71|152=>199|260=>105|137=>89|119=>202|224=>176|225=>175|217=>120|266=>145|n=>n,λ| 9=>9|4=>4|3=>3|5=>5|117=>213|116=>212|0=>0|124=>216|21=>21|105=>124|46=>102|119=>186|139=>189|138=>188|n=>n,λ| 3=>1|4=>2|n=>n⟩
def Tryz.acf:Go.Proofs.Lays.n162 Tryz.prog Tryz.Of:=by
 constructor<;>first|(intros;kernel_rfl)|decide|(constructor<;>first|(intros;kernel_rfl)|(constructor<;>intros<;>kernel_rfl))
open Go.RowKit in
def Tryz.strings_TrimRight_one (s:ByteArray)(c:UInt8)(hc:c.toNat<128)(w:World)(hs:s.size<=9223372036854775807) :
  Calls Tryz.prog 140 #[.string s,.string ⟨#[c]⟩] w λe w'=>e=.returned (.string ⟨(Lib.trimRightB s.data.toList c).toArray⟩)/\w'=w:=Any.strings_TrimRight_one Tryz.acf s c hc w hs
def Tryz.Og:Go.Shelf.Ren:=⟨λ| 137=>89|217=>120|266=>145|n=>n,λ| 9=>9|5=>5|3=>3|n=>n,λ| n=>n⟩
def Tryz.acg:Go.Proofs.Lays.n137 Tryz.prog Tryz.Og:=by
 constructor<;>first|(intros;kernel_rfl)|decide|(constructor<;>first|(intros;kernel_rfl)|(constructor<;>intros<;>kernel_rfl))
open Go.RowKit in
def Tryz.strings_IndexByte (s:ByteArray)(c:Int)(w:World) :
  Calls Tryz.prog 89 #[.string s,.int .u8 c] w λe w'=>e=.returned (.int .i64 (Lib.indexByte s.data.toList c.toNat.toUInt8))/\w'=w:=Any.strings_IndexByte Tryz.acg s c w
def Tryz.Oh:Go.Shelf.Ren:=⟨λ| 103=>96|210=>126|206=>151|n=>n,λ| 9=>9|4=>4|24=>151|3=>3|n=>n,λ| n=>n⟩
def Tryz.ach:Go.Proofs.Lays.n103 Tryz.prog Tryz.Oh:=by
 constructor<;>first|(intros;kernel_rfl)|decide|(constructor<;>first|(intros;kernel_rfl)|(constructor<;>intros<;>kernel_rfl))
open Go.RowKit in
def Tryz.strings_CutPrefix (s p:ByteArray)(w:World) :
  Calls Tryz.prog 96 #[.string s,.string p] w λe w'=>e=.returned (.tuple #[.string ⟨(Lib.trimPrefix s.data.toList p.data.toList).toArray⟩,.bool (Lib.hasPrefix s.data.toList p.data.toList)])/\w'=w:=Any.strings_CutPrefix Tryz.ach s p w
def Tryz.Oi:Go.Shelf.Ren:=⟨λ| 129=>86|n=>n,λ| 53=>143|3=>3|4=>4|46=>102|5=>5|9=>9|n=>n,λ| n=>n⟩
def Tryz.aci:Go.Proofs.Lays.n129 Tryz.prog Tryz.Oi:=by
 constructor<;>first|(intros;kernel_rfl)|decide|(constructor<;>first|(intros;kernel_rfl)|(constructor<;>intros<;>kernel_rfl))
def Tryz.bits_Len64 (x:Int)(w:World)(h0:0<=x)(h1:x<=18446744073709551615) :
  Calls Tryz.prog 86 #[.int .u64 x] w λe w'=>e=.returned (.int .i64 (Lib.bitLen x.toNat))/\w'=w:=Any.bits_Len64 Tryz.aci x w h0 h1
def Tryz.Oj:Go.Shelf.Ren:=⟨λ| 283=>178|n=>n,λ| 3=>3|9=>9|4=>4|n=>n,λ| n=>n⟩
def Tryz.acj:Go.Proofs.Lays.n283 Tryz.prog Tryz.Oj:=by
 constructor<;>first|(intros;kernel_rfl)|decide|(constructor<;>first|(intros;kernel_rfl)|(constructor<;>intros<;>kernel_rfl))
open Go.Lib in
def Tryz.internal_strconv_small (i:Nat)(h:i<100)(w:World) :
  Calls Tryz.prog 178 #[.int .i64 i] w λe w'=>e=.returned (.string ⟨(Lib.decDigits i).toArray⟩)/\w'=w:=Any.internal_strconv_small Tryz.acj i h w
def Tryz.LD:Go.Shelf.Ren:=⟨λ| 284=>179|129=>86|317=>191|318=>192|n=>n,λ| 53=>143|3=>3|212=>238|0=>0|4=>4|46=>102|5=>5|9=>9|n=>n,λ| 17=>7|n=>n⟩
def Tryz.X3:Go.Proofs.LaysM.n284 Tryz.prog Tryz.LD:=by
 constructor<;>first|(intros;kernel_rfl)|decide|(constructor<;>first|(intros;kernel_rfl)|(constructor<;>intros<;>kernel_rfl))
open Go.Lib in
def Tryz.internal_strconv_numDigits (u : Nat) (h1 : 1 <= u) (h2 : u < 18446744073709551616) (w : World) (htab : Lib.TabIs Tryz.prog w "internal/strconv.uint64pow10" .u64 Lib.pow10Tab) :
  Calls Tryz.prog 179 #[.int .u64 u] w λe w'=>e=.returned (.int .i64 (Lib.nDigits u))/\w'=w:=Any.internal_strconv_numDigits Tryz.X3 u h1 h2 w htab
def Tryz.Ok:Go.Shelf.Ren:=⟨λ| 285=>180|n=>n,λ| 37=>57|53=>143|3=>3|4=>4|51=>141|9=>9|5=>5|0=>0|n=>n,λ| n=>n⟩
def Tryz.ack:Go.Proofs.Lays.n285 Tryz.prog Tryz.Ok:=by
 constructor<;>first|(intros;kernel_rfl)|decide|(constructor<;>first|(intros;kernel_rfl)|(constructor<;>intros<;>kernel_rfl))
open Go.RowKit Go.Sort Go.Lib in
def Tryz.internal_strconv_formatBase10 (au off cap:Nat)(u:Nat)(d:Array UInt8)(w:World)(hH:Holds (λ(b:UInt8)=>Value.int .u8 (b.toNat:Int)) w au off d)(hu:u<10^d.size)(hu64:u<18446744073709551616)(hsz:d.size<4611686018427387904) :
  Calls Tryz.prog 180 #[.slice (some ⟨au,off,none⟩) d.size cap,.int .u64 u] w λe w'=>
   e=.returned (.tuple #[])/\∃(n v':Nat) (dk:Array UInt8),w'=(putRow (λ(b:UInt8)=>Value.int .u8 (b.toNat:Int)) w au off dk).drewN n/\FmtInv d.size u 0 v' dk:=Any.internal_strconv_formatBase10 Tryz.ack au off cap u d w hH hu hu64 hsz
def Tryz.LG:Go.Shelf.Ren:=⟨λ| 171=>125|243=>154|246=>174|283=>178|284=>179|285=>180|286=>181|129=>86|317=>191|318=>192|319=>193|320=>194|337=>200|338=>161|n=>n,λ| 3=>3|9=>9|2=>2|4=>4|171=>222|0=>0|53=>143|37=>57|5=>5|173=>224|212=>238|51=>141|20=>20|213=>239|46=>102|232=>246|233=>221|n=>n,λ| 17=>7|18=>8|19=>6|n=>n⟩
def Tryz.X4:Go.Proofs.LaysM.n171 Tryz.prog Tryz.LG:=by
 constructor<;>first|(intros;kernel_rfl)|decide|(constructor<;>first|(intros;kernel_rfl)|(constructor<;>intros<;>kernel_rfl))
open Go.RowKit Go.Sort Go.Lib in
def Tryz.strconv_Itoa (n : Int) (h0 : -9223372036854775808 <= n) (h1 : n <= 9223372036854775807) (w : World) (htab : Lib.TabIs Tryz.prog w "internal/strconv.uint64pow10" .u64 Lib.pow10Tab) :
  Calls Tryz.prog 125 #[.int .i64 n] w λe w'=>e=.returned (.string ⟨(Lib.itoa n).toArray⟩)/\∃k os,w'=grow (w.drewN k) os:=Any.strconv_Itoa Tryz.X4 n h0 h1 w htab
def Tryz.LH:Go.Shelf.Ren:=⟨λ| 172=>90|244=>121|245=>122|247=>146|279=>147|280=>148|281=>149|282=>150|287=>129|316=>172|171=>125|205=>173|321=>156|322=>157|243=>154|246=>174|283=>178|284=>179|285=>180|286=>181|129=>86|317=>191|318=>192|319=>193|320=>194|337=>200|338=>161|n=>n,λ| 9=>9|3=>3|75=>84|76=>85|4=>4|5=>5|167=>196|37=>57|0=>0|85=>197|2=>2|168=>199|53=>143|175=>157|46=>102|210=>218|127=>88|145=>234|143=>232|21=>21|171=>222|173=>224|212=>238|51=>141|20=>20|213=>239|232=>246|233=>221|80=>61|n=>n,λ| 15=>4|16=>5|17=>7|18=>8|19=>6|n=>n⟩
def Tryz.HZ:Go.Proofs.LaysC.n172 Tryz.prog Tryz.LH:=by
 constructor<;>first|(intros;kernel_rfl)|decide|(constructor<;>first|(intros;kernel_rfl)|(constructor<;>intros<;>kernel_rfl))
open Go.RowKit in
def Tryz.strconv_Atoi_ok (s:ByteArray)(hmax:s.size<=9223372036854775806)(v:Int)(h:Lib.atoiAll s.data.toList=.ok v)(w:World) :
  Calls Tryz.prog 90 #[.string s] w λe w'=>e=.returned (.tuple #[.int .i64 v,.nilIface])/\(w'=w\/∃t,w'=Lib.bytesWorld w 5 t):=Any.strconv_Atoi_ok Tryz.HZ s hmax v h w
open Go.RowKit in
def Tryz.strconv_Atoi_syntax (s:ByteArray)(hlim:s.size<=281474976710656)(h:Lib.atoiAll s.data.toList= Lib.NumEnd.syntax)(ev:Value)(w:World)(hv:w.cell? ⟨4,0,none⟩=some ev)(hev:ev=.nilIface\/∃te pe,ev=.iface te pe) :
  Calls Tryz.prog 90 #[.string s] w λe w'=>∃N,e=.returned (.tuple #[.int .i64 (0),.iface 199 (.pointer (some ⟨N,0,none⟩))])/\w.heap.size<=N/\w'.heap[N]?=some (.cells #[.string ⟨#[65,116,111,105]⟩,.string s,ev] 218 (0,0))/\Below w.heap.size w w':=Any.strconv_Atoi_syntax Tryz.HZ s hlim h ev w hv hev
open Go.RowKit in
def Tryz.strconv_Atoi_range (s:ByteArray)(hlim:s.size<=281474976710656)(h:Lib.atoiAll s.data.toList=.range)(ev:Value)(w:World)(hv:w.cell? ⟨5,0,none⟩=some ev)(hev:ev=.nilIface\/∃te pe,ev=.iface te pe) :
  Calls Tryz.prog 90 #[.string s] w λe w'=>∃N,e=.returned (.tuple #[.int .i64 (Lib.atoiSat s.data.toList),.iface 199 (.pointer (some ⟨N,0,none⟩))])/\w.heap.size<=N/\w'.heap[N]?=some (.cells #[.string ⟨#[65,116,111,105]⟩,.string s,ev] 218 (0,0))/\Below w.heap.size w w':=Any.strconv_Atoi_range Tryz.HZ s hlim h ev w hv hev
def Tryz.LJ:Go.Shelf.Ren:=⟨λ| 14=>100|16=>129|17=>122|19=>156|20=>157|21=>147|22=>148|23=>149|24=>150|25=>172|27=>125|26=>173|28=>154|29=>174|30=>178|31=>179|32=>180|33=>181|35=>86|34=>191|36=>192|37=>193|38=>194|39=>200|40=>161|n=>n,λ| 9=>9|3=>3|22=>143|24=>84|25=>157|4=>4|34=>196|5=>5|36=>102|37=>57|0=>0|39=>199|21=>21|44=>218|47=>88|50=>234|48=>232|2=>2|52=>222|55=>224|59=>238|60=>141|20=>20|61=>239|65=>246|66=>221|67=>61|n=>n,λ| 0=>4|1=>5|2=>7|3=>8|4=>6|n=>n⟩
def Tryz.H0:Go.Proofs.LaysPu.n14 Tryz.prog Tryz.LJ:=by
 constructor<;>first|(intros;kernel_rfl)|decide|(constructor<;>first|(intros;kernel_rfl)|(constructor<;>intros<;>kernel_rfl))
open Go.RowKit in
def Tryz.strconv_ParseUint_10_at64_ok (s:ByteArray)(hmax:s.size<=9223372036854775806)(u:Nat)(h:Lib.parseUintB 64 s.data.toList=.ok u)(w:World) :
  Calls Tryz.prog 100 #[.string s,.int .i64 10,.int .i64 64] w λe w'=>e=.returned (.tuple #[.int .u64 u,.nilIface])/\(w'=w\/w'=Lib.bytesWorld w 5 s):=Any.strconv_ParseUint_10_at64_ok Tryz.H0 s hmax u h w
open Go.RowKit in
def Tryz.strconv_ParseUint_10_at64_syntax (s:ByteArray)(hlim:s.size<=281474976710656)(h:Lib.parseUintB 64 s.data.toList= Lib.NumEnd.syntax)(ev:Value)(w:World)(hv:w.cell? ⟨4,0,none⟩=some ev)(hev:ev=.nilIface\/∃te pe,ev=.iface te pe) :
  Calls Tryz.prog 100 #[.string s,.int .i64 10,.int .i64 64] w λe w'=>∃N,e=.returned (.tuple #[.int .u64 0,.iface 199 (.pointer (some ⟨N,0,none⟩))])/\w.heap.size<=N/\w'.heap[N]?=some (.cells #[.string ⟨#[80,97,114,115,101,85,105,110,116]⟩,.string s,ev] 218 (0,0))/\Below w.heap.size w w':=Any.strconv_ParseUint_10_at64_syntax Tryz.H0 s hlim h ev w hv hev
open Go.RowKit in
def Tryz.strconv_ParseUint_10_at64_range (s:ByteArray)(hlim:s.size<=281474976710656)(h:Lib.parseUintB 64 s.data.toList=.range)(ev:Value)(w:World)(hv:w.cell? ⟨5,0,none⟩=some ev)(hev:ev=.nilIface\/∃te pe,ev=.iface te pe) :
  Calls Tryz.prog 100 #[.string s,.int .i64 10,.int .i64 64] w λe w'=>∃N,e=.returned (.tuple #[.int .u64 18446744073709551615,.iface 199 (.pointer (some ⟨N,0,none⟩))])/\w.heap.size<=N/\w'.heap[N]?=some (.cells #[.string ⟨#[80,97,114,115,101,85,105,110,116]⟩,.string s,ev] 218 (0,0))/\Below w.heap.size w w':=Any.strconv_ParseUint_10_at64_range Tryz.H0 s hlim h ev w hv hev
def Tryz.Ol:Go.Shelf.Ren:=⟨λ| 219=>155|217=>120|225=>175|224=>176|267=>177|266=>145|314=>190|n=>n,λ| 9=>9|3=>3|4=>4|5=>5|46=>102|146=>235|51=>141|n=>n,λ| 1=>3|n=>n⟩
def Tryz.acm:Go.Proofs.Lays.n219 Tryz.prog Tryz.Ol:=by
 constructor<;>first|(intros;kernel_rfl)|decide|(constructor<;>first|(intros;kernel_rfl)|(constructor<;>intros<;>kernel_rfl))
open Go.RowKit Go.Lib in
def Tryz.stringslite_Index_one (s:ByteArray)(c:UInt8)(w:World) :
  Calls Tryz.prog 155 #[.string s,.string ⟨#[c]⟩] w λe w'=>e=.returned (.int .i64 (Lib.indexByte s.data.toList c))/\w'=w:=Any.stringslite_Index_one Tryz.acm s c w
def Tryz.Om:Go.Shelf.Ren:=⟨λ| 101=>91|208=>123|206=>151|n=>n,λ| 9=>9|4=>4|3=>3|n=>n,λ| n=>n⟩
def Tryz.acn:Go.Proofs.Lays.n101 Tryz.prog Tryz.Om:=by
 constructor<;>first|(intros;kernel_rfl)|decide|(constructor<;>first|(intros;kernel_rfl)|(constructor<;>intros<;>kernel_rfl))
open Go.RowKit Go.Lib in
def Tryz.strings_TrimPrefix (s p:ByteArray)(w:World) :
  Calls Tryz.prog 91 #[.string s,.string p] w λe w'=>e=.returned (.string ⟨(Lib.trimPrefix s.data.toList p.data.toList).toArray⟩)/\w'=w:=Any.strings_TrimPrefix Tryz.acn s p w
def Tryz.On:Go.Shelf.Ren:=⟨λ| 197=>71|260=>105|n=>n,λ| 9=>9|21=>21|3=>3|4=>4|5=>5|105=>124|119=>186|0=>0|46=>102|139=>189|138=>188|n=>n,λ| 3=>1|4=>2|n=>n⟩
def Tryz.aco:Go.Proofs.Lays.n197 Tryz.prog Tryz.On:=by
 constructor<;>first|(intros;kernel_rfl)|decide|(constructor<;>first|(intros;kernel_rfl)|(constructor<;>intros<;>kernel_rfl))
def Tryz.F3:Go.Shelf.Ren:=⟨λ| 105=>164|212=>182|99=>183|165=>184|166=>42|170=>185|169=>26|263=>195|264=>196|206=>151|240=>55|241=>197|276=>67|277=>201|n=>n,λ| 9=>9|3=>3|4=>4|20=>20|0=>0|46=>102|109=>226|5=>5|72=>59|76=>85|51=>141|146=>235|53=>143|148=>241|70=>56|37=>57|75=>84|127=>88|164=>111|80=>61|n=>n,λ| n=>n⟩
def Tryz.acp:Go.Proofs.Lays.n105 Tryz.prog Tryz.F3:=by
 constructor<;>first|(intros;kernel_rfl)|decide|(constructor<;>first|(intros;kernel_rfl)|(constructor<;>intros<;>kernel_rfl))
def Tryz.Ea:Builder.Extra Tryz.prog Tryz.F3:=by
 constructor<;>first|(intros;kernel_rfl)|decide|(constructor<;>first|(intros;kernel_rfl)|(constructor<;>intros<;>kernel_rfl))
open Go.RowKit Go.Lib in
def Tryz.strings_Repeat (s:ByteArray)(c:Nat)(w:World)(hc:c<=9223372036854775807)(hlen:s.size*c<=140737488355328) :
  Calls Tryz.prog 164 #[.string s,.int .i64 c] w λe w'=>e=.returned (.string ⟨(Lib.repeatL s.data.toList c).toArray⟩)/\Below w.heap.size w w':=Any.strings_Repeat Tryz.acp Tryz.Ea s c w hc hlen
open Go.RowKit Go.Lib in
def Tryz.utf8_DecodeRuneInString (s:ByteArray)(w:World)(hT:Lib.Utf8Tabs 1 2 w) :
  Calls Tryz.prog 71 #[.string s] w λe w'=>e=.returned (.tuple #[.int .i32 (Lib.decodeGo s).1,.int .i64 (Lib.decodeGo s).2])/\Below w.heap.size w w':=Any.utf8_DecodeRuneInString Tryz.aco s w hT
end Go.Proofs
