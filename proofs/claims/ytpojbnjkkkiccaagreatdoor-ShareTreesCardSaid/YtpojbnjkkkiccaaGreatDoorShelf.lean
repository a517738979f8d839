
import Derived.Shelf.Strings.Trim
import Derived.Shelf.Small.Bits
import Derived.Shelf.Small.Wraps
import Derived.Shelf.Strconv.Itoa3
import Derived.Shelf.Strconv.ErrVar
import Derived.Shelf.Strconv.ErrVarAll
import Derived.Shelf.Strconv.ParseInt10All
import Derived.Shelf.Pu.ErrVarParseUint
import Derived.Shelf.Strings.Shaped
import Derived.Shelf.Unicode.Decode
import Derived.Shelf.Strings.Runes
import Derived.Shelf.Strings.AsciiSet
import Derived.Shelf.Strings.Repeat
import Derived.Shelf.Unicode.DecodeLast
import Derived.Shelf.Strings.BuilderCap
import Derived.Test.YtpojbnjkkkiccaaGreatDoorProg
set_option linter.all false
namespace Go.Proofs
def cgS{α:Type _}{a b:α}(h:a=b):some a=some b:=congrArg some h
open Go.Shelf
def Tryz.PG:Go.Shelf.Ren:=⟨λ| 162=>138|232=>169|227=>170|234=>171|236=>172|228=>191|271=>192|151=>193|120=>205|197=>69|152=>206|260=>99|137=>83|119=>210|224=>181|225=>180|217=>118|266=>149|n=>n,λ| 9=>9|4=>4|3=>3|5=>5|117=>205|116=>204|0=>0|124=>208|21=>21|105=>109|46=>121|119=>174|139=>177|138=>176|n=>n,λ| 3=>1|4=>2|n=>n⟩
def Tryz.adv:Go.Proofs.Lays.n162 Tryz.prog Tryz.PG:=by
 constructor<;>first|(intros;kernel_rfl)|decide|(constructor<;>first|(intros;kernel_rfl)|(constructor<;>intros<;>kernel_rfl))
open Go.RowKit in
def Tryz.strings_TrimRight_one (s:ByteArray)(c:UInt8)(hc:c.toNat<128)(w:World)(hs:s.size<=9223372036854775807) :
  Calls Tryz.prog 138 #[.string s,.string ⟨#[c]⟩] w λe w'=>e=.returned (.string ⟨(Lib.trimRightB s.data.toList c).toArray⟩)/\w'=w:=Any.strings_TrimRight_one Tryz.adv s c hc w hs
def Tryz.PH:Go.Shelf.Ren:=⟨λ| 137=>83|217=>118|266=>149|n=>n,λ| 9=>9|5=>5|3=>3|n=>n,λ| n=>n⟩
def Tryz.adw:Go.Proofs.Lays.n137 Tryz.prog Tryz.PH:=by
 constructor<;>first|(intros;kernel_rfl)|decide|(constructor<;>first|(intros;kernel_rfl)|(constructor<;>intros<;>kernel_rfl))
open Go.RowKit in
def Tryz.strings_IndexByte (s:ByteArray)(c:Int)(w:World) :
  Calls Tryz.prog 83 #[.string s,.int .u8 c] w λe w'=>e=.returned (.int .i64 (Lib.indexByte s.data.toList c.toNat.toUInt8))/\w'=w:=Any.strings_IndexByte Tryz.adw s c w
def Tryz.PI:Go.Shelf.Ren:=⟨λ| 103=>90|210=>124|206=>155|n=>n,λ| 9=>9|4=>4|24=>135|3=>3|n=>n,λ| n=>n⟩
def Tryz.adx:Go.Proofs.Lays.n103 Tryz.prog Tryz.PI:=by
 constructor<;>first|(intros;kernel_rfl)|decide|(constructor<;>first|(intros;kernel_rfl)|(constructor<;>intros<;>kernel_rfl))
open Go.RowKit in
def Tryz.strings_CutPrefix (s p:ByteArray)(w:World) :
  Calls Tryz.prog 90 #[.string s,.string p] w λe w'=>e=.returned (.tuple #[.string ⟨(Lib.trimPrefix s.data.toList p.data.toList).toArray⟩,.bool (Lib.hasPrefix s.data.toList p.data.toList)])/\w'=w:=Any.strings_CutPrefix Tryz.adx s p w
def Tryz.PJ:Go.Shelf.Ren:=⟨λ| 129=>115|n=>n,λ| 53=>141|3=>3|4=>4|46=>121|5=>5|9=>9|n=>n,λ| n=>n⟩
def Tryz.ady:Go.Proofs.Lays.n129 Tryz.prog Tryz.PJ:=by
 constructor<;>first|(intros;kernel_rfl)|decide|(constructor<;>first|(intros;kernel_rfl)|(constructor<;>intros<;>kernel_rfl))
def Tryz.bits_Len64 (x:Int)(w:World)(h0:0<=x)(h1:x<=18446744073709551615) :
  Calls Tryz.prog 115 #[.int .u64 x] w λe w'=>e=.returned (.int .i64 (Lib.bitLen x.toNat))/\w'=w:=Any.bits_Len64 Tryz.ady x w h0 h1
def Tryz.PK:Go.Shelf.Ren:=⟨λ| 283=>183|n=>n,λ| 3=>3|9=>9|4=>4|n=>n,λ| n=>n⟩
def Tryz.adz:Go.Proofs.Lays.n283 Tryz.prog Tryz.PK:=by
 constructor<;>first|(intros;kernel_rfl)|decide|(constructor<;>first|(intros;kernel_rfl)|(constructor<;>intros<;>kernel_rfl))
open Go.Lib in
def Tryz.internal_strconv_small (i:Nat)(h:i<100)(w:World) :
  Calls Tryz.prog 183 #[.int .i64 i] w λe w'=>e=.returned (.string ⟨(Lib.decDigits i).toArray⟩)/\w'=w:=Any.internal_strconv_small Tryz.adz i h w
def Tryz.Nu:Go.Shelf.Ren:=⟨λ| 284=>184|129=>115|317=>198|318=>199|n=>n,λ| 53=>141|3=>3|212=>234|0=>0|4=>4|46=>121|5=>5|9=>9|n=>n,λ| 17=>7|n=>n⟩
def Tryz.Zl:Go.Proofs.LaysM.n284 Tryz.prog Tryz.Nu:=by
 constructor<;>first|(intros;kernel_rfl)|decide|(constructor<;>first|(intros;kernel_rfl)|(constructor<;>intros<;>kernel_rfl))
open Go.Lib in
def Tryz.internal_strconv_numDigits (u : Nat) (h1 : 1 <= u) (h2 : u < 18446744073709551616) (w : World) (htab : Lib.TabIs Tryz.prog w "internal/strconv.uint64pow10" .u64 Lib.pow10Tab) :
  Calls Tryz.prog 184 #[.int .u64 u] w λe w'=>e=.returned (.int .i64 (Lib.nDigits u))/\w'=w:=Any.internal_strconv_numDigits Tryz.Zl u h1 h2 w htab
def Tryz.PL:Go.Shelf.Ren:=⟨λ| 285=>185|n=>n,λ| 37=>82|53=>141|3=>3|4=>4|51=>163|9=>9|5=>5|0=>0|n=>n,λ| n=>n⟩
def Tryz.adA:Go.Proofs.Lays.n285 Tryz.prog Tryz.PL:=by
 constructor<;>first|(intros;kernel_rfl)|decide|(constructor<;>first|(intros;kernel_rfl)|(constructor<;>intros<;>kernel_rfl))
open Go.RowKit Go.Sort Go.Lib in
def Tryz.internal_strconv_formatBase10 (ar off cap:Nat)(u:Nat)(d:Array UInt8)(w:World)(hH:Holds (λ(b:UInt8)=>Value.int .u8 (b.toNat:Int)) w ar off d)(hu:u<10^d.size)(hu64:u<18446744073709551616)(hsz:d.size<4611686018427387904) :
  Calls Tryz.prog 185 #[.slice (some ⟨ar,off,none⟩) d.size cap,.int .u64 u] w λe w'=>
   e=.returned (.tuple #[])/\∃(n v':Nat) (dk:Array UInt8),w'=(putRow (λ(b:UInt8)=>Value.int .u8 (b.toNat:Int)) w ar off dk).drewN n/\FmtInv d.size u 0 v' dk:=Any.internal_strconv_formatBase10 Tryz.adA ar off cap u d w hH hu hu64 hsz
def Tryz.Nv:Go.Shelf.Ren:=⟨λ| 171=>123|243=>158|246=>179|283=>183|284=>184|285=>185|286=>186|129=>115|317=>198|318=>199|319=>200|320=>201|337=>208|338=>165|n=>n,λ| 3=>3|9=>9|2=>2|4=>4|171=>219|0=>0|53=>141|37=>82|5=>5|173=>221|212=>234|51=>163|20=>20|213=>235|46=>121|232=>243|233=>218|n=>n,λ| 17=>7|18=>8|19=>6|n=>n⟩
def Tryz.Zm:Go.Proofs.LaysM.n171 Tryz.prog Tryz.Nv:=by
 constructor<;>first|(intros;kernel_rfl)|decide|(constructor<;>first|(intros;kernel_rfl)|(constructor<;>intros<;>kernel_rfl))
open Go.RowKit Go.Sort Go.Lib in
def Tryz.strconv_Itoa (n : Int) (h0 : -9223372036854775808 <= n) (h1 : n <= 9223372036854775807) (w : World) (htab : Lib.TabIs Tryz.prog w "internal/strconv.uint64pow10" .u64 Lib.pow10Tab) :
  Calls Tryz.prog 123 #[.int .i64 n] w λe w'=>e=.returned (.string ⟨(Lib.itoa n).toArray⟩)/\∃k os,w'=grow (w.drewN k) os:=Any.strconv_Itoa Tryz.Zm n h0 h1 w htab
def Tryz.Nw:Go.Shelf.Ren:=⟨λ| 172=>84|244=>119|245=>120|247=>150|279=>151|280=>152|281=>153|282=>154|287=>127|316=>177|171=>123|205=>178|321=>160|322=>161|243=>158|246=>179|283=>183|284=>184|285=>185|286=>186|129=>115|317=>198|318=>199|319=>200|320=>201|337=>208|338=>165|n=>n,λ| 9=>9|3=>3|75=>124|76=>125|4=>4|5=>5|167=>189|37=>82|0=>0|85=>190|2=>2|168=>192|53=>141|175=>142|46=>121|210=>215|127=>128|145=>230|143=>228|21=>21|171=>219|173=>221|212=>234|51=>163|20=>20|213=>235|232=>243|233=>218|80=>97|n=>n,λ| 15=>4|16=>5|17=>7|18=>8|19=>6|n=>n⟩
def Tryz.JU:Go.Proofs.LaysC.n172 Tryz.prog Tryz.Nw:=by
 constructor<;>first|(intros;kernel_rfl)|decide|(constructor<;>first|(intros;kernel_rfl)|(constructor<;>intros<;>kernel_rfl))
open Go.RowKit in
def Tryz.strconv_Atoi_ok (s:ByteArray)(hmax:s.size<=9223372036854775806)(v:Int)(h:Lib.atoiAll s.data.toList=.ok v)(w:World) :
  Calls Tryz.prog 84 #[.string s] w λe w'=>e=.returned (.tuple #[.int .i64 v,.nilIface])/\(w'=w\/∃t,w'=Lib.bytesWorld w 5 t):=Any.strconv_Atoi_ok Tryz.JU s hmax v h w
open Go.RowKit in
def Tryz.strconv_Atoi_syntax (s:ByteArray)(hlim:s.size<=281474976710656)(h:Lib.atoiAll s.data.toList= Lib.NumEnd.syntax)(ev:Value)(w:World)(hv:w.cell? ⟨4,0,none⟩=some ev)(hev:ev=.nilIface\/∃te pe,ev=.iface te pe) :
  Calls Tryz.prog 84 #[.string s] w λe w'=>∃N,e=.returned (.tuple #[.int .i64 (0),.iface 192 (.pointer (some ⟨N,0,none⟩))])/\w.heap.size<=N/\w'.heap[N]?=some (.cells #[.string ⟨#[65,116,111,105]⟩,.string s,ev] 215 (0,0))/\Below w.heap.size w w':=Any.strconv_Atoi_syntax Tryz.JU s hlim h ev w hv hev
open Go.RowKit in
def Tryz.strconv_Atoi_range (s:ByteArray)(hlim:s.size<=281474976710656)(h:Lib.atoiAll s.data.toList=.range)(ev:Value)(w:World)(hv:w.cell? ⟨5,0,none⟩=some ev)(hev:ev=.nilIface\/∃te pe,ev=.iface te pe) :
  Calls Tryz.prog 84 #[.string s] w λe w'=>∃N,e=.returned (.tuple #[.int .i64 (Lib.atoiSat s.data.toList),.iface 192 (.pointer (some ⟨N,0,none⟩))])/\w.heap.size<=N/\w'.heap[N]?=some (.cells #[.string ⟨#[65,116,111,105]⟩,.string s,ev] 215 (0,0))/\Below w.heap.size w w':=Any.strconv_Atoi_range Tryz.JU s hlim h ev w hv hev
def Tryz.Nx:Go.Shelf.Ren:=⟨λ| 14=>94|16=>127|17=>120|19=>160|20=>161|21=>151|22=>152|23=>153|24=>154|25=>177|27=>123|26=>178|28=>158|29=>179|30=>183|31=>184|32=>185|33=>186|35=>115|34=>198|36=>199|37=>200|38=>201|39=>208|40=>165|n=>n,λ| 9=>9|3=>3|22=>141|24=>124|25=>142|4=>4|34=>189|5=>5|36=>121|37=>82|0=>0|39=>192|21=>21|44=>215|47=>128|50=>230|48=>228|2=>2|52=>219|55=>221|59=>234|60=>163|20=>20|61=>235|65=>243|66=>218|67=>97|n=>n,λ| 0=>4|1=>5|2=>7|3=>8|4=>6|n=>n⟩
def Tryz.JV:Go.Proofs.LaysPu.n14 Tryz.prog Tryz.Nx:=by
 constructor<;>first|(intros;kernel_rfl)|decide|(constructor<;>first|(intros;kernel_rfl)|(constructor<;>intros<;>kernel_rfl))
open Go.RowKit in
def Tryz.strconv_ParseUint_10_at64_ok (s:ByteArray)(hmax:s.size<=9223372036854775806)(u:Nat)(h:Lib.parseUintB 64 s.data.toList=.ok u)(w:World) :
  Calls Tryz.prog 94 #[.string s,.int .i64 10,.int .i64 64] w λe w'=>e=.returned (.tuple #[.int .u64 u,.nilIface])/\(w'=w\/w'=Lib.bytesWorld w 5 s):=Any.strconv_ParseUint_10_at64_ok Tryz.JV s hmax u h w
open Go.RowKit in
def Tryz.strconv_ParseUint_10_at64_syntax (s:ByteArray)(hlim:s.size<=281474976710656)(h:Lib.parseUintB 64 s.data.toList= Lib.NumEnd.syntax)(ev:Value)(w:World)(hv:w.cell? ⟨4,0,none⟩=some ev)(hev:ev=.nilIface\/∃te pe,ev=.iface te pe) :
  Calls Tryz.prog 94 #[.string s,.int .i64 10,.int .i64 64] w λe w'=>∃N,e=.returned (.tuple #[.int .u64 0,.iface 192 (.pointer (some ⟨N,0,none⟩))])/\w.heap.size<=N/\w'.heap[N]?=some (.cells #[.string ⟨#[80,97,114,115,101,85,105,110,116]⟩,.string s,ev] 215 (0,0))/\Below w.heap.size w w':=Any.strconv_ParseUint_10_at64_syntax Tryz.JV s hlim h ev w hv hev
open Go.RowKit in
def Tryz.strconv_ParseUint_10_at64_range (s:ByteArray)(hlim:s.size<=281474976710656)(h:Lib.parseUintB 64 s.data.toList=.range)(ev:Value)(w:World)(hv:w.cell? ⟨5,0,none⟩=some ev)(hev:ev=.nilIface\/∃te pe,ev=.iface te pe) :
  Calls Tryz.prog 94 #[.string s,.int .i64 10,.int .i64 64] w λe w'=>∃N,e=.returned (.tuple #[.int .u64 18446744073709551615,.iface 192 (.pointer (some ⟨N,0,none⟩))])/\w.heap.size<=N/\w'.heap[N]?=some (.cells #[.string ⟨#[80,97,114,115,101,85,105,110,116]⟩,.string s,ev] 215 (0,0))/\Below w.heap.size w w':=Any.strconv_ParseUint_10_at64_range Tryz.JV s hlim h ev w hv hev
def Tryz.PM:Go.Shelf.Ren:=⟨λ| 219=>159|217=>118|225=>180|224=>181|267=>182|266=>149|314=>197|n=>n,λ| 9=>9|3=>3|4=>4|5=>5|46=>121|146=>231|51=>163|n=>n,λ| 1=>3|n=>n⟩
def Tryz.adB:Go.Proofs.Lays.n219 Tryz.prog Tryz.PM:=by
 constructor<;>first|(intros;kernel_rfl)|decide|(constructor<;>first|(intros;kernel_rfl)|(constructor<;>intros<;>kernel_rfl))
open Go.RowKit Go.Lib in
def Tryz.stringslite_Index_one (s:ByteArray)(c:UInt8)(w:World) :
  Calls Tryz.prog 159 #[.string s,.string ⟨#[c]⟩] w λe w'=>e=.returned (.int .i64 (Lib.indexByte s.data.toList c))/\w'=w:=Any.stringslite_Index_one Tryz.adB s c w
def Tryz.PN:Go.Shelf.Ren:=⟨λ| 101=>85|208=>121|206=>155|n=>n,λ| 9=>9|4=>4|3=>3|n=>n,λ| n=>n⟩
def Tryz.adC:Go.Proofs.Lays.n101 Tryz.prog Tryz.PN:=by
 constructor<;>first|(intros;kernel_rfl)|decide|(constructor<;>first|(intros;kernel_rfl)|(constructor<;>intros<;>kernel_rfl))
open Go.RowKit Go.Lib in
def Tryz.strings_TrimPrefix (s p:ByteArray)(w:World) :
  Calls Tryz.prog 85 #[.string s,.string p] w λe w'=>e=.returned (.string ⟨(Lib.trimPrefix s.data.toList p.data.toList).toArray⟩)/\w'=w:=Any.strings_TrimPrefix Tryz.adC s p w
def Tryz.PR:Go.Shelf.Ren:=⟨λ| 197=>69|260=>99|n=>n,λ| 9=>9|21=>21|3=>3|4=>4|5=>5|105=>109|119=>174|0=>0|46=>121|139=>177|138=>176|n=>n,λ| 3=>1|4=>2|n=>n⟩
def Tryz.adD:Go.Proofs.Lays.n197 Tryz.prog Tryz.PR:=by
 constructor<;>first|(intros;kernel_rfl)|decide|(constructor<;>first|(intros;kernel_rfl)|(constructor<;>intros<;>kernel_rfl))
def Tryz.HU:Go.Shelf.Ren:=⟨λ| 105=>168|212=>187|99=>188|165=>189|166=>80|170=>190|169=>65|263=>202|264=>203|206=>155|240=>117|241=>204|276=>148|277=>209|n=>n,λ| 9=>9|3=>3|4=>4|20=>20|0=>0|46=>121|109=>223|5=>5|72=>95|76=>125|51=>163|146=>231|53=>141|148=>237|70=>93|37=>82|75=>124|127=>128|164=>187|80=>97|n=>n,λ| n=>n⟩
def Tryz.adE:Go.Proofs.Lays.n105 Tryz.prog Tryz.HU:=by
 constructor<;>first|(intros;kernel_rfl)|decide|(constructor<;>first|(intros;kernel_rfl)|(constructor<;>intros<;>kernel_rfl))
def Tryz.FK:Builder.Extra Tryz.prog Tryz.HU:=by
 constructor<;>first|(intros;kernel_rfl)|decide|(constructor<;>first|(intros;kernel_rfl)|(constructor<;>intros<;>kernel_rfl))
open Go.RowKit Go.Lib in
def Tryz.strings_Repeat (s:ByteArray)(c:Nat)(w:World)(hc:c<=9223372036854775807)(hlen:s.size*c<=140737488355328) :
  Calls Tryz.prog 168 #[.string s,.int .i64 c] w λe w'=>e=.returned (.string ⟨(Lib.repeatL s.data.toList c).toArray⟩)/\Below w.heap.size w w':=Any.strings_Repeat Tryz.adE Tryz.FK s c w hc hlen
open Go.RowKit Go.Lib in
def Tryz.utf8_DecodeRuneInString (s:ByteArray)(w:World)(hT:Lib.Utf8Tabs 1 2 w) :
  Calls Tryz.prog 69 #[.string s] w λe w'=>e=.returned (.tuple #[.int .i32 (Lib.decodeGo s).1,.int .i64 (Lib.decodeGo s).2])/\Below w.heap.size w w':=Any.utf8_DecodeRuneInString Tryz.adD s w hT
end Go.Proofs
