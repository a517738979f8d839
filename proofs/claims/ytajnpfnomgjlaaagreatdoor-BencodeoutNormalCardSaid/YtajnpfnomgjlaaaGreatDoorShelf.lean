
import Derived.Shelf.Unicode.ValidAny
import Derived.Shelf.Strings.Trim
import Derived.Shelf.Small.Bits
import Derived.Shelf.Small.Wraps
import Derived.Shelf.Strconv.Itoa3
import Derived.Shelf.Strconv.ErrVar
import Derived.Shelf.Strconv.ErrVarAll
import Derived.Shelf.Strconv.ParseInt10All
import Derived.Shelf.Pu.ErrVarParseUint
import Derived.Shelf.Strings.Shaped
import Derived.Shelf.Unicode.Decode
import Derived.Shelf.Strings.Runes
import Derived.Shelf.Strings.AsciiSet
import Derived.Shelf.Strings.Repeat
import Derived.Shelf.Unicode.DecodeLast
import Derived.Shelf.Strings.BuilderCap
import Derived.Test.YtajnpfnomgjlaaaGreatDoorProg
set_option linter.all false
namespace Go.Proofs
theorem cgS{α:Type _}{a b:α}(h:a=b):some a=some b:=congrArg some h
open Go.Shelf
def Tryz.MZ:Go.Shelf.Ren:=⟨λ| 162=>156|232=>182|227=>183|234=>184|236=>185|228=>197|271=>198|151=>199|120=>205|197=>92|152=>206|260=>123|137=>107|119=>208|224=>192|225=>191|217=>137|266=>163|n=>n,λ| 9=>9|4=>4|3=>3|5=>5|117=>221|116=>220|0=>0|124=>224|21=>21|105=>142|46=>103|119=>113|139=>116|138=>115|n=>n,λ| 3=>0|4=>1|n=>n⟩
theorem Tryz.aal:Go.Proofs.Lays.n162 Tryz.prog Tryz.MZ:=by
 constructor<;>first|(intros;kernel_rfl)|decide|(constructor<;>first|(intros;kernel_rfl)|(constructor<;>intros<;>kernel_rfl))
open Go.RowKit in
theorem Tryz.strings_TrimRight_one (s:ByteArray)(c:UInt8)(hc:c.toNat<128)(w:World)(hs:s.size<=9223372036854775807) :
  Calls Tryz.prog 156 #[.string s,.string ⟨#[c]⟩] w λe w'=>e=.returned (.string ⟨(Lib.trimRightB s.data.toList c).toArray⟩)/\w'=w:=Any.strings_TrimRight_one Tryz.aal s c hc w hs
def Tryz.M0:Go.Shelf.Ren:=⟨λ| 137=>107|217=>137|266=>163|n=>n,λ| 9=>9|5=>5|3=>3|n=>n,λ| n=>n⟩
theorem Tryz.aam:Go.Proofs.Lays.n137 Tryz.prog Tryz.M0:=by
 constructor<;>first|(intros;kernel_rfl)|decide|(constructor<;>first|(intros;kernel_rfl)|(constructor<;>intros<;>kernel_rfl))
open Go.RowKit in
theorem Tryz.strings_IndexByte (s:ByteArray)(c:Int)(w:World) :
  Calls Tryz.prog 107 #[.string s,.int .u8 c] w λe w'=>e=.returned (.int .i64 (Lib.indexByte s.data.toList c.toNat.toUInt8))/\w'=w:=Any.strings_IndexByte Tryz.aam s c w
def Tryz.M4:Go.Shelf.Ren:=⟨λ| 103=>114|210=>142|206=>169|n=>n,λ| 9=>9|4=>4|24=>165|3=>3|n=>n,λ| n=>n⟩
theorem Tryz.aan:Go.Proofs.Lays.n103 Tryz.prog Tryz.M4:=by
 constructor<;>first|(intros;kernel_rfl)|decide|(constructor<;>first|(intros;kernel_rfl)|(constructor<;>intros<;>kernel_rfl))
open Go.RowKit in
theorem Tryz.strings_CutPrefix (s p:ByteArray)(w:World) :
  Calls Tryz.prog 114 #[.string s,.string p] w λe w'=>e=.returned (.tuple #[.string ⟨(Lib.trimPrefix s.data.toList p.data.toList).toArray⟩,.bool (Lib.hasPrefix s.data.toList p.data.toList)])/\w'=w:=Any.strings_CutPrefix Tryz.aan s p w
def Tryz.M5:Go.Shelf.Ren:=⟨λ| 129=>85|n=>n,λ| 53=>129|3=>3|4=>4|46=>103|5=>5|9=>9|n=>n,λ| n=>n⟩
theorem Tryz.aao:Go.Proofs.Lays.n129 Tryz.prog Tryz.M5:=by
 constructor<;>first|(intros;kernel_rfl)|decide|(constructor<;>first|(intros;kernel_rfl)|(constructor<;>intros<;>kernel_rfl))
theorem Tryz.bits_Len64 (x:Int)(w:World)(h0:0<=x)(h1:x<=18446744073709551615) :
  Calls Tryz.prog 85 #[.int .u64 x] w λe w'=>e=.returned (.int .i64 (Lib.bitLen x.toNat))/\w'=w:=Any.bits_Len64 Tryz.aao x w h0 h1
def Tryz.M6:Go.Shelf.Ren:=⟨λ| 283=>130|n=>n,λ| 3=>3|9=>9|4=>4|n=>n,λ| n=>n⟩
theorem Tryz.aap:Go.Proofs.Lays.n283 Tryz.prog Tryz.M6:=by
 constructor<;>first|(intros;kernel_rfl)|decide|(constructor<;>first|(intros;kernel_rfl)|(constructor<;>intros<;>kernel_rfl))
open Go.Lib in
theorem Tryz.internal_strconv_small (i:Nat)(h:i<100)(w:World) :
  Calls Tryz.prog 130 #[.int .i64 i] w λe w'=>e=.returned (.string ⟨(Lib.decDigits i).toArray⟩)/\w'=w:=Any.internal_strconv_small Tryz.aap i h w
def Tryz.Jh:Go.Shelf.Ren:=⟨λ| 284=>131|129=>85|317=>157|318=>158|n=>n,λ| 53=>129|3=>3|212=>201|0=>0|4=>4|46=>103|5=>5|9=>9|n=>n,λ| 17=>4|n=>n⟩
theorem Tryz.VV:Go.Proofs.LaysM.n284 Tryz.prog Tryz.Jh:=by
 constructor<;>first|(intros;kernel_rfl)|decide|(constructor<;>first|(intros;kernel_rfl)|(constructor<;>intros<;>kernel_rfl))
open Go.Lib in
theorem Tryz.internal_strconv_numDigits (u : Nat)(h1 : 1 <= u)(h2 : u < 18446744073709551616)(w : World)(htab : Lib.TabIs Tryz.prog w "internal/strconv.uint64pow10" .u64 Lib.pow10Tab) :
  Calls Tryz.prog 131 #[.int .u64 u] w λe w'=>e=.returned (.int .i64 (Lib.nDigits u))/\w'=w:=Any.internal_strconv_numDigits Tryz.VV u h1 h2 w htab
def Tryz.M7:Go.Shelf.Ren:=⟨λ| 285=>132|n=>n,λ| 37=>45|53=>129|3=>3|4=>4|51=>127|9=>9|5=>5|0=>0|n=>n,λ| n=>n⟩
theorem Tryz.aaq:Go.Proofs.Lays.n285 Tryz.prog Tryz.M7:=by
 constructor<;>first|(intros;kernel_rfl)|decide|(constructor<;>first|(intros;kernel_rfl)|(constructor<;>intros<;>kernel_rfl))
open Go.RowKit Go.Sort Go.Lib in
theorem Tryz.internal_strconv_formatBase10 (au off cap:Nat)(u:Nat)(d:Array UInt8)(w:World)(hH:Holds (λ(b:UInt8)=>Value.int .u8 (b.toNat:Int)) w au off d)(hu:u<10^d.size)(hu64:u<18446744073709551616)(hsz:d.size<4611686018427387904) :
  Calls Tryz.prog 132 #[.slice (some ⟨au,off,none⟩) d.size cap,.int .u64 u] w λe w'=>
   e=.returned (.tuple #[])/\∃(n v':Nat) (dk:Array UInt8),w'=(putRow (λ(b:UInt8)=>Value.int .u8 (b.toNat:Int)) w au off dk).drewN n/\FmtInv d.size u 0 v' dk:=Any.internal_strconv_formatBase10 Tryz.aaq au off cap u d w hH hu hu64 hsz
def Tryz.Ji:Go.Shelf.Ren:=⟨λ| 171=>60|243=>87|246=>104|283=>130|284=>131|285=>132|286=>133|129=>85|317=>157|318=>158|319=>159|320=>160|337=>186|338=>178|n=>n,λ| 3=>3|9=>9|2=>2|4=>4|171=>186|0=>0|53=>129|37=>45|5=>5|173=>188|212=>201|51=>127|20=>20|213=>202|46=>103|232=>234|233=>229|n=>n,λ| 17=>4|18=>8|19=>7|n=>n⟩
theorem Tryz.VW:Go.Proofs.LaysM.n171 Tryz.prog Tryz.Ji:=by
 constructor<;>first|(intros;kernel_rfl)|decide|(constructor<;>first|(intros;kernel_rfl)|(constructor<;>intros<;>kernel_rfl))
open Go.RowKit Go.Sort Go.Lib in
theorem Tryz.strconv_Itoa (n : Int)(h0 : -9223372036854775808 <= n)(h1 : n <= 9223372036854775807)(w : World)(htab : Lib.TabIs Tryz.prog w "internal/strconv.uint64pow10" .u64 Lib.pow10Tab) :
  Calls Tryz.prog 60 #[.int .i64 n] w λe w'=>e=.returned (.string ⟨(Lib.itoa n).toArray⟩)/\∃k os,w'=grow (w.drewN k) os:=Any.strconv_Itoa Tryz.VW n h0 h1 w htab
def Tryz.Jj:Go.Shelf.Ren:=⟨λ| 172=>108|244=>138|245=>139|247=>164|279=>165|280=>166|281=>167|282=>168|287=>145|316=>189|171=>60|205=>190|321=>173|322=>174|243=>87|246=>104|283=>130|284=>131|285=>132|286=>133|129=>85|317=>157|318=>158|319=>159|320=>160|337=>186|338=>178|n=>n,λ| 9=>9|3=>3|75=>70|76=>71|4=>4|5=>5|167=>205|37=>45|0=>0|85=>206|2=>2|168=>208|53=>129|175=>171|46=>103|210=>227|127=>78|145=>238|143=>236|21=>21|171=>186|173=>188|212=>201|51=>127|20=>20|213=>202|232=>234|233=>229|80=>52|n=>n,λ| 15=>5|16=>6|17=>4|18=>8|19=>7|n=>n⟩
theorem Tryz.Gx:Go.Proofs.LaysC.n172 Tryz.prog Tryz.Jj:=by
 constructor<;>first|(intros;kernel_rfl)|decide|(constructor<;>first|(intros;kernel_rfl)|(constructor<;>intros<;>kernel_rfl))
open Go.RowKit in
theorem Tryz.strconv_Atoi_ok (s:ByteArray)(hmax:s.size<=9223372036854775806)(v:Int)(h:Lib.atoiAll s.data.toList=.ok v)(w:World) :
  Calls Tryz.prog 108 #[.string s] w λe w'=>e=.returned (.tuple #[.int .i64 v,.nilIface])/\(w'=w\/∃t,w'=Lib.bytesWorld w 5 t):=Any.strconv_Atoi_ok Tryz.Gx s hmax v h w
open Go.RowKit in
theorem Tryz.strconv_Atoi_syntax (s:ByteArray)(hlim:s.size<=281474976710656)(h:Lib.atoiAll s.data.toList= Lib.NumEnd.syntax)(ev:Value)(w:World)(hv:w.cell? ⟨5,0,none⟩=some ev)(hev:ev=.nilIface\/∃te pe,ev=.iface te pe) :
  Calls Tryz.prog 108 #[.string s] w λe w'=>∃N,e=.returned (.tuple #[.int .i64 (0),.iface 208 (.pointer (some ⟨N,0,none⟩))])/\w.heap.size<=N/\w'.heap[N]?=some (.cells #[.string ⟨#[65,116,111,105]⟩,.string s,ev] 227 (0,0))/\Below w.heap.size w w':=Any.strconv_Atoi_syntax Tryz.Gx s hlim h ev w hv hev
open Go.RowKit in
theorem Tryz.strconv_Atoi_range (s:ByteArray)(hlim:s.size<=281474976710656)(h:Lib.atoiAll s.data.toList=.range)(ev:Value)(w:World)(hv:w.cell? ⟨6,0,none⟩=some ev)(hev:ev=.nilIface\/∃te pe,ev=.iface te pe) :
  Calls Tryz.prog 108 #[.string s] w λe w'=>∃N,e=.returned (.tuple #[.int .i64 (Lib.atoiSat s.data.toList),.iface 208 (.pointer (some ⟨N,0,none⟩))])/\w.heap.size<=N/\w'.heap[N]?=some (.cells #[.string ⟨#[65,116,111,105]⟩,.string s,ev] 227 (0,0))/\Below w.heap.size w w':=Any.strconv_Atoi_range Tryz.Gx s hlim h ev w hv hev
def Tryz.Jk:Go.Shelf.Ren:=⟨λ| 14=>118|16=>145|17=>139|19=>173|20=>174|21=>165|22=>166|23=>167|24=>168|25=>189|27=>60|26=>190|28=>87|29=>104|30=>130|31=>131|32=>132|33=>133|35=>85|34=>157|36=>158|37=>159|38=>160|39=>186|40=>178|n=>n,λ| 9=>9|3=>3|22=>129|24=>70|25=>171|4=>4|34=>205|5=>5|36=>103|37=>45|0=>0|39=>208|21=>21|44=>227|47=>78|50=>238|48=>236|2=>2|52=>186|55=>188|59=>201|60=>127|20=>20|61=>202|65=>234|66=>229|67=>52|n=>n,λ| 0=>5|1=>6|2=>4|3=>8|4=>7|n=>n⟩
theorem Tryz.Gy:Go.Proofs.LaysPu.n14 Tryz.prog Tryz.Jk:=by
 constructor<;>first|(intros;kernel_rfl)|decide|(constructor<;>first|(intros;kernel_rfl)|(constructor<;>intros<;>kernel_rfl))
open Go.RowKit in
theorem Tryz.strconv_ParseUint_10_at64_ok (s:ByteArray)(hmax:s.size<=9223372036854775806)(u:Nat)(h:Lib.parseUintB 64 s.data.toList=.ok u)(w:World) :
  Calls Tryz.prog 118 #[.string s,.int .i64 10,.int .i64 64] w λe w'=>e=.returned (.tuple #[.int .u64 u,.nilIface])/\(w'=w\/w'=Lib.bytesWorld w 5 s):=Any.strconv_ParseUint_10_at64_ok Tryz.Gy s hmax u h w
open Go.RowKit in
theorem Tryz.strconv_ParseUint_10_at64_syntax (s:ByteArray)(hlim:s.size<=281474976710656)(h:Lib.parseUintB 64 s.data.toList= Lib.NumEnd.syntax)(ev:Value)(w:World)(hv:w.cell? ⟨5,0,none⟩=some ev)(hev:ev=.nilIface\/∃te pe,ev=.iface te pe) :
  Calls Tryz.prog 118 #[.string s,.int .i64 10,.int .i64 64] w λe w'=>∃N,e=.returned (.tuple #[.int .u64 0,.iface 208 (.pointer (some ⟨N,0,none⟩))])/\w.heap.size<=N/\w'.heap[N]?=some (.cells #[.string ⟨#[80,97,114,115,101,85,105,110,116]⟩,.string s,ev] 227 (0,0))/\Below w.heap.size w w':=Any.strconv_ParseUint_10_at64_syntax Tryz.Gy s hlim h ev w hv hev
open Go.RowKit in
theorem Tryz.strconv_ParseUint_10_at64_range (s:ByteArray)(hlim:s.size<=281474976710656)(h:Lib.parseUintB 64 s.data.toList=.range)(ev:Value)(w:World)(hv:w.cell? ⟨6,0,none⟩=some ev)(hev:ev=.nilIface\/∃te pe,ev=.iface te pe) :
  Calls Tryz.prog 118 #[.string s,.int .i64 10,.int .i64 64] w λe w'=>∃N,e=.returned (.tuple #[.int .u64 18446744073709551615,.iface 208 (.pointer (some ⟨N,0,none⟩))])/\w.heap.size<=N/\w'.heap[N]?=some (.cells #[.string ⟨#[80,97,114,115,101,85,105,110,116]⟩,.string s,ev] 227 (0,0))/\Below w.heap.size w w':=Any.strconv_ParseUint_10_at64_range Tryz.Gy s hlim h ev w hv hev
def Tryz.M8:Go.Shelf.Ren:=⟨λ| 219=>172|217=>137|225=>191|224=>192|267=>193|266=>163|314=>201|n=>n,λ| 9=>9|3=>3|4=>4|5=>5|46=>103|146=>239|51=>127|n=>n,λ| 1=>2|n=>n⟩
theorem Tryz.aar:Go.Proofs.Lays.n219 Tryz.prog Tryz.M8:=by
 constructor<;>first|(intros;kernel_rfl)|decide|(constructor<;>first|(intros;kernel_rfl)|(constructor<;>intros<;>kernel_rfl))
open Go.RowKit Go.Lib in
theorem Tryz.stringslite_Index_one (s:ByteArray)(c:UInt8)(w:World) :
  Calls Tryz.prog 172 #[.string s,.string ⟨#[c]⟩] w λe w'=>e=.returned (.int .i64 (Lib.indexByte s.data.toList c))/\w'=w:=Any.stringslite_Index_one Tryz.aar s c w
def Tryz.M9:Go.Shelf.Ren:=⟨λ| 101=>109|208=>140|206=>169|n=>n,λ| 9=>9|4=>4|3=>3|n=>n,λ| n=>n⟩
theorem Tryz.aas:Go.Proofs.Lays.n101 Tryz.prog Tryz.M9:=by
 constructor<;>first|(intros;kernel_rfl)|decide|(constructor<;>first|(intros;kernel_rfl)|(constructor<;>intros<;>kernel_rfl))
open Go.RowKit Go.Lib in
theorem Tryz.strings_TrimPrefix (s p:ByteArray)(w:World) :
  Calls Tryz.prog 109 #[.string s,.string p] w λe w'=>e=.returned (.string ⟨(Lib.trimPrefix s.data.toList p.data.toList).toArray⟩)/\w'=w:=Any.strings_TrimPrefix Tryz.aas s p w
def Tryz.Nc:Go.Shelf.Ren:=⟨λ| 197=>92|260=>123|n=>n,λ| 9=>9|21=>21|3=>3|4=>4|5=>5|105=>142|119=>113|0=>0|46=>103|139=>116|138=>115|n=>n,λ| 3=>0|4=>1|n=>n⟩
theorem Tryz.aat:Go.Proofs.Lays.n197 Tryz.prog Tryz.Nc:=by
 constructor<;>first|(intros;kernel_rfl)|decide|(constructor<;>first|(intros;kernel_rfl)|(constructor<;>intros<;>kernel_rfl))
def Tryz.Ej:Go.Shelf.Ren:=⟨λ| 105=>181|212=>194|99=>195|165=>196|166=>34|170=>16|169=>17|263=>202|264=>203|206=>169|240=>56|241=>204|276=>75|277=>207|n=>n,λ| 9=>9|3=>3|4=>4|20=>20|0=>0|46=>103|109=>230|5=>5|72=>47|76=>71|51=>127|146=>239|53=>129|148=>242|70=>44|37=>45|75=>70|127=>78|164=>117|80=>52|n=>n,λ| n=>n⟩
theorem Tryz.aau:Go.Proofs.Lays.n105 Tryz.prog Tryz.Ej:=by
 constructor<;>first|(intros;kernel_rfl)|decide|(constructor<;>first|(intros;kernel_rfl)|(constructor<;>intros<;>kernel_rfl))
theorem Tryz.Co:Builder.Extra Tryz.prog Tryz.Ej:=by
 constructor<;>first|(intros;kernel_rfl)|decide|(constructor<;>first|(intros;kernel_rfl)|(constructor<;>intros<;>kernel_rfl))
open Go.RowKit Go.Lib in
theorem Tryz.strings_Repeat (s:ByteArray)(c:Nat)(w:World)(hc:c<=9223372036854775807)(hlen:s.size*c<=140737488355328) :
  Calls Tryz.prog 181 #[.string s,.int .i64 c] w λe w'=>e=.returned (.string ⟨(Lib.repeatL s.data.toList c).toArray⟩)/\Below w.heap.size w w':=Any.strings_Repeat Tryz.aau Tryz.Co s c w hc hlen
open Go.RowKit Go.Lib in
theorem Tryz.utf8_DecodeRuneInString (s:ByteArray)(w:World)(hT:Lib.Utf8Tabs 0 1 w) :
  Calls Tryz.prog 92 #[.string s] w λe w'=>e=.returned (.tuple #[.int .i32 (Lib.decodeGo s).1,.int .i64 (Lib.decodeGo s).2])/\Below w.heap.size w w':=Any.utf8_DecodeRuneInString Tryz.aat s w hT
def Tryz.Nd:Go.Shelf.Ren:=⟨λ| 196=>55|259=>74|n=>n,λ| 9=>9|4=>4|3=>3|5=>5|12=>12|119=>113|0=>0|46=>103|139=>116|138=>115|53=>129|n=>n,λ| 3=>0|4=>1|n=>n⟩
theorem Tryz.aav:Go.Proofs.Lays.n196 Tryz.prog Tryz.Nd:=by
 constructor<;>first|(intros;kernel_rfl)|decide|(constructor<;>first|(intros;kernel_rfl)|(constructor<;>intros<;>kernel_rfl))
open Go.RowKit Go.Lib in
theorem Tryz.utf8_ValidString (s:ByteArray)(w:World)(hs:s.size<=9223372036854775807)(hT:Lib.Utf8Tabs 0 1 w) :
  Calls Tryz.prog 55 #[.string s] w λe w'=>e=.returned (.bool (Lib.validD s.data.toList))/\Below w.heap.size w w':=Any.utf8_ValidString Tryz.aav s w hs hT
end Go.Proofs
