
import Derived.Shelf.Unicode.ValidAny
import Derived.Shelf.Strings.Trim
import Derived.Shelf.Small.Utf8
import Derived.Shelf.Small.Bits
import Derived.Shelf.Small.Wraps
import Derived.Shelf.Strings.BuilderK
import Derived.Shelf.Strconv.Itoa3
import Derived.Shelf.Strconv.ErrVarAll
import Derived.Shelf.Strconv.ParseInt10All
import Derived.Shelf.Pu.ErrVarParseUint
import Derived.Shelf.Strings.Shaped
import Derived.Shelf.Strings.Runes
import Derived.Shelf.Strings.AsciiSet
import Derived.Shelf.Strings.Repeat
import Derived.Test.YthcljaholofonaaGreatDoorProg
set_option linter.all false
namespace Go.Proofs
def cgS{α:Type _}{a b:α}(h:a=b):some a=some b:=congrArg some h
open Go.Shelf
def Tryz.P9:Go.Shelf.Ren:=⟨λ| 162=>194|232=>234|227=>235|234=>236|236=>237|228=>261|271=>262|151=>263|120=>273|197=>107|152=>274|260=>149|137=>133|119=>277|224=>256|225=>255|217=>175|266=>215|n=>n,λ| 9=>9|4=>4|3=>3|5=>5|117=>270|116=>269|0=>0|124=>273|21=>21|105=>149|46=>102|119=>120|139=>123|138=>122|n=>n,λ| 3=>0|4=>1|n=>n⟩
def Tryz.aey:Go.Proofs.Lays.n162 Tryz.prog Tryz.P9:=by
 constructor<;>first|(intros;kernel_rfl)|decide|(constructor<;>first|(intros;kernel_rfl)|(constructor<;>intros<;>kernel_rfl))
open Go.RowKit in
def Tryz.strings_TrimRight_one (s:ByteArray)(c:UInt8)(hc:c.toNat<128)(w:World)(hs:s.size<=9223372036854775807) :
  Calls Tryz.prog 194 #[.string s,.string ⟨#[c]⟩] w λe w'=>e=.returned (.string ⟨(Lib.trimRightB s.data.toList c).toArray⟩)/\w'=w:=Any.strings_TrimRight_one Tryz.aey s c hc w hs
def Tryz.Qa:Go.Shelf.Ren:=⟨λ| 137=>133|217=>175|266=>215|n=>n,λ| 9=>9|5=>5|3=>3|n=>n,λ| n=>n⟩
def Tryz.aez:Go.Proofs.Lays.n137 Tryz.prog Tryz.Qa:=by
 constructor<;>first|(intros;kernel_rfl)|decide|(constructor<;>first|(intros;kernel_rfl)|(constructor<;>intros<;>kernel_rfl))
open Go.RowKit in
def Tryz.strings_IndexByte (s:ByteArray)(c:Int)(w:World) :
  Calls Tryz.prog 133 #[.string s,.int .u8 c] w λe w'=>e=.returned (.int .i64 (Lib.indexByte s.data.toList c.toNat.toUInt8))/\w'=w:=Any.strings_IndexByte Tryz.aez s c w
def Tryz.Qb:Go.Shelf.Ren:=⟨λ| 103=>140|210=>180|206=>221|n=>n,λ| 9=>9|4=>4|24=>188|3=>3|n=>n,λ| n=>n⟩
def Tryz.aeA:Go.Proofs.Lays.n103 Tryz.prog Tryz.Qb:=by
 constructor<;>first|(intros;kernel_rfl)|decide|(constructor<;>first|(intros;kernel_rfl)|(constructor<;>intros<;>kernel_rfl))
open Go.RowKit in
def Tryz.strings_CutPrefix (s p:ByteArray)(w:World) :
  Calls Tryz.prog 140 #[.string s,.string p] w λe w'=>e=.returned (.tuple #[.string ⟨(Lib.trimPrefix s.data.toList p.data.toList).toArray⟩,.bool (Lib.hasPrefix s.data.toList p.data.toList)])/\w'=w:=Any.strings_CutPrefix Tryz.aeA s p w
def Tryz.Qc:Go.Shelf.Ren:=⟨λ| 129=>97|n=>n,λ| 53=>136|3=>3|4=>4|46=>102|5=>5|9=>9|n=>n,λ| n=>n⟩
def Tryz.aeB:Go.Proofs.Lays.n129 Tryz.prog Tryz.Qc:=by
 constructor<;>first|(intros;kernel_rfl)|decide|(constructor<;>first|(intros;kernel_rfl)|(constructor<;>intros<;>kernel_rfl))
def Tryz.bits_Len64 (x:Int)(w:World)(h0:0<=x)(h1:x<=18446744073709551615) :
  Calls Tryz.prog 97 #[.int .u64 x] w λe w'=>e=.returned (.int .i64 (Lib.bitLen x.toNat))/\w'=w:=Any.bits_Len64 Tryz.aeB x w h0 h1
def Tryz.Qd:Go.Shelf.Ren:=⟨λ| 283=>158|n=>n,λ| 3=>3|9=>9|4=>4|n=>n,λ| n=>n⟩
def Tryz.aeC:Go.Proofs.Lays.n283 Tryz.prog Tryz.Qd:=by
 constructor<;>first|(intros;kernel_rfl)|decide|(constructor<;>first|(intros;kernel_rfl)|(constructor<;>intros<;>kernel_rfl))
open Go.Lib in
def Tryz.internal_strconv_small (i:Nat)(h:i<100)(w:World) :
  Calls Tryz.prog 158 #[.int .i64 i] w λe w'=>e=.returned (.string ⟨(Lib.decDigits i).toArray⟩)/\w'=w:=Any.internal_strconv_small Tryz.aeC i h w
def Tryz.NF:Go.Shelf.Ren:=⟨λ| 284=>159|129=>97|317=>199|318=>200|n=>n,λ| 53=>136|3=>3|212=>243|0=>0|4=>4|46=>102|5=>5|9=>9|n=>n,λ| 17=>4|n=>n⟩
def Tryz.ZW:Go.Proofs.LaysM.n284 Tryz.prog Tryz.NF:=by
 constructor<;>first|(intros;kernel_rfl)|decide|(constructor<;>first|(intros;kernel_rfl)|(constructor<;>intros<;>kernel_rfl))
open Go.Lib in
def Tryz.internal_strconv_numDigits (u : Nat) (h1 : 1 <= u) (h2 : u < 18446744073709551616) (w : World) (htab : Lib.TabIs Tryz.prog w "internal/strconv.uint64pow10" .u64 Lib.pow10Tab) :
  Calls Tryz.prog 159 #[.int .u64 u] w λe w'=>e=.returned (.int .i64 (Lib.nDigits u))/\w'=w:=Any.internal_strconv_numDigits Tryz.ZW u h1 h2 w htab
def Tryz.Qe:Go.Shelf.Ren:=⟨λ| 285=>160|n=>n,λ| 37=>45|53=>136|3=>3|4=>4|51=>134|9=>9|5=>5|0=>0|n=>n,λ| n=>n⟩
def Tryz.aeD:Go.Proofs.Lays.n285 Tryz.prog Tryz.Qe:=by
 constructor<;>first|(intros;kernel_rfl)|decide|(constructor<;>first|(intros;kernel_rfl)|(constructor<;>intros<;>kernel_rfl))
open Go.RowKit Go.Sort Go.Lib in
def Tryz.internal_strconv_formatBase10 (au off cap:Nat)(u:Nat)(d:Array UInt8)(w:World)(hH:Holds (λ(b:UInt8)=>Value.int .u8 (b.toNat:Int)) w au off d)(hu:u<10^d.size)(hu64:u<18446744073709551616)(hsz:d.size<4611686018427387904) :
  Calls Tryz.prog 160 #[.slice (some ⟨au,off,none⟩) d.size cap,.int .u64 u] w λe w'=>
   e=.returned (.tuple #[])/\∃(n v':Nat) (dk:Array UInt8),w'=(putRow (λ(b:UInt8)=>Value.int .u8 (b.toNat:Int)) w au off dk).drewN n/\FmtInv d.size u 0 v' dk:=Any.internal_strconv_formatBase10 Tryz.aeD au off cap u d w hH hu hu64 hsz
def Tryz.NG:Go.Shelf.Ren:=⟨λ| 171=>65|243=>99|246=>120|283=>158|284=>159|285=>160|286=>161|129=>97|317=>199|318=>200|319=>201|320=>202|337=>240|338=>230|n=>n,λ| 3=>3|9=>9|2=>2|4=>4|171=>211|0=>0|53=>136|37=>45|5=>5|173=>213|212=>243|51=>134|20=>20|213=>244|46=>102|232=>293|233=>288|n=>n,λ| 17=>4|18=>8|19=>7|n=>n⟩
def Tryz.ZX:Go.Proofs.LaysM.n171 Tryz.prog Tryz.NG:=by
 constructor<;>first|(intros;kernel_rfl)|decide|(constructor<;>first|(intros;kernel_rfl)|(constructor<;>intros<;>kernel_rfl))
open Go.RowKit Go.Sort Go.Lib in
def Tryz.strconv_Itoa (n : Int) (h0 : -9223372036854775808 <= n) (h1 : n <= 9223372036854775807) (w : World) (htab : Lib.TabIs Tryz.prog w "internal/strconv.uint64pow10" .u64 Lib.pow10Tab) :
  Calls Tryz.prog 65 #[.int .i64 n] w λe w'=>e=.returned (.string ⟨(Lib.itoa n).toArray⟩)/\∃k os,w'=grow (w.drewN k) os:=Any.strconv_Itoa Tryz.ZX n h0 h1 w htab
def Tryz.NH:Go.Shelf.Ren:=⟨λ| 172=>134|244=>176|245=>177|247=>216|279=>217|280=>218|281=>219|282=>220|287=>183|316=>253|171=>65|205=>254|321=>225|322=>226|243=>99|246=>120|283=>158|284=>159|285=>160|286=>161|129=>97|317=>199|318=>200|319=>201|320=>202|337=>240|338=>230|n=>n,λ| 9=>9|3=>3|75=>72|76=>73|4=>4|5=>5|167=>254|37=>45|0=>0|85=>255|2=>2|168=>257|53=>136|175=>194|46=>102|210=>286|127=>80|145=>298|143=>296|21=>21|171=>211|173=>213|212=>243|51=>134|20=>20|213=>244|232=>293|233=>288|80=>52|n=>n,λ| 15=>5|16=>6|17=>4|18=>8|19=>7|n=>n⟩
def Tryz.Ke:Go.Proofs.LaysC.n172 Tryz.prog Tryz.NH:=by
 constructor<;>first|(intros;kernel_rfl)|decide|(constructor<;>first|(intros;kernel_rfl)|(constructor<;>intros<;>kernel_rfl))
open Go.RowKit in
def Tryz.strconv_Atoi_ok (s:ByteArray)(hmax:s.size<=9223372036854775806)(v:Int)(h:Lib.atoiAll s.data.toList=.ok v)(w:World) :
  Calls Tryz.prog 134 #[.string s] w λe w'=>e=.returned (.tuple #[.int .i64 v,.nilIface])/\(w'=w\/∃t,w'=Lib.bytesWorld w 5 t):=Any.strconv_Atoi_ok Tryz.Ke s hmax v h w
open Go.RowKit in
def Tryz.strconv_Atoi_syntax (s:ByteArray)(hlim:s.size<=281474976710656)(h:Lib.atoiAll s.data.toList= Lib.NumEnd.syntax)(ev:Value)(w:World)(hv:w.cell? ⟨5,0,none⟩=some ev)(hev:ev=.nilIface\/∃te pe,ev=.iface te pe) :
  Calls Tryz.prog 134 #[.string s] w λe w'=>∃N,e=.returned (.tuple #[.int .i64 (0),.iface 257 (.pointer (some ⟨N,0,none⟩))])/\w.heap.size<=N/\w'.heap[N]?=some (.cells #[.string ⟨#[65,116,111,105]⟩,.string s,ev] 286 (0,0))/\Below w.heap.size w w':=Any.strconv_Atoi_syntax Tryz.Ke s hlim h ev w hv hev
open Go.RowKit in
def Tryz.strconv_Atoi_range (s:ByteArray)(hlim:s.size<=281474976710656)(h:Lib.atoiAll s.data.toList=.range)(ev:Value)(w:World)(hv:w.cell? ⟨6,0,none⟩=some ev)(hev:ev=.nilIface\/∃te pe,ev=.iface te pe) :
  Calls Tryz.prog 134 #[.string s] w λe w'=>∃N,e=.returned (.tuple #[.int .i64 (Lib.atoiSat s.data.toList),.iface 257 (.pointer (some ⟨N,0,none⟩))])/\w.heap.size<=N/\w'.heap[N]?=some (.cells #[.string ⟨#[65,116,111,105]⟩,.string s,ev] 286 (0,0))/\Below w.heap.size w w':=Any.strconv_Atoi_range Tryz.Ke s hlim h ev w hv hev
def Tryz.NI:Go.Shelf.Ren:=⟨λ| 14=>144|16=>183|17=>177|19=>225|20=>226|21=>217|22=>218|23=>219|24=>220|25=>253|27=>65|26=>254|28=>99|29=>120|30=>158|31=>159|32=>160|33=>161|35=>97|34=>199|36=>200|37=>201|38=>202|39=>240|40=>230|n=>n,λ| 9=>9|3=>3|22=>136|24=>72|25=>194|4=>4|34=>254|5=>5|36=>102|37=>45|0=>0|39=>257|21=>21|44=>286|47=>80|50=>298|48=>296|2=>2|52=>211|55=>213|59=>243|60=>134|20=>20|61=>244|65=>293|66=>288|67=>52|n=>n,λ| 0=>5|1=>6|2=>4|3=>8|4=>7|n=>n⟩
def Tryz.Kf:Go.Proofs.LaysPu.n14 Tryz.prog Tryz.NI:=by
 constructor<;>first|(intros;kernel_rfl)|decide|(constructor<;>first|(intros;kernel_rfl)|(constructor<;>intros<;>kernel_rfl))
open Go.RowKit in
def Tryz.strconv_ParseUint_10_at64_ok (s:ByteArray)(hmax:s.size<=9223372036854775806)(u:Nat)(h:Lib.parseUintB 64 s.data.toList=.ok u)(w:World) :
  Calls Tryz.prog 144 #[.string s,.int .i64 10,.int .i64 64] w λe w'=>e=.returned (.tuple #[.int .u64 u,.nilIface])/\(w'=w\/w'=Lib.bytesWorld w 5 s):=Any.strconv_ParseUint_10_at64_ok Tryz.Kf s hmax u h w
open Go.RowKit in
def Tryz.strconv_ParseUint_10_at64_syntax (s:ByteArray)(hlim:s.size<=281474976710656)(h:Lib.parseUintB 64 s.data.toList= Lib.NumEnd.syntax)(ev:Value)(w:World)(hv:w.cell? ⟨5,0,none⟩=some ev)(hev:ev=.nilIface\/∃te pe,ev=.iface te pe) :
  Calls Tryz.prog 144 #[.string s,.int .i64 10,.int .i64 64] w λe w'=>∃N,e=.returned (.tuple #[.int .u64 0,.iface 257 (.pointer (some ⟨N,0,none⟩))])/\w.heap.size<=N/\w'.heap[N]?=some (.cells #[.string ⟨#[80,97,114,115,101,85,105,110,116]⟩,.string s,ev] 286 (0,0))/\Below w.heap.size w w':=Any.strconv_ParseUint_10_at64_syntax Tryz.Kf s hlim h ev w hv hev
open Go.RowKit in
def Tryz.strconv_ParseUint_10_at64_range (s:ByteArray)(hlim:s.size<=281474976710656)(h:Lib.parseUintB 64 s.data.toList=.range)(ev:Value)(w:World)(hv:w.cell? ⟨6,0,none⟩=some ev)(hev:ev=.nilIface\/∃te pe,ev=.iface te pe) :
  Calls Tryz.prog 144 #[.string s,.int .i64 10,.int .i64 64] w λe w'=>∃N,e=.returned (.tuple #[.int .u64 18446744073709551615,.iface 257 (.pointer (some ⟨N,0,none⟩))])/\w.heap.size<=N/\w'.heap[N]?=some (.cells #[.string ⟨#[80,97,114,115,101,85,105,110,116]⟩,.string s,ev] 286 (0,0))/\Below w.heap.size w w':=Any.strconv_ParseUint_10_at64_range Tryz.Kf s hlim h ev w hv hev
def Tryz.Qf:Go.Shelf.Ren:=⟨λ| 219=>224|217=>175|225=>255|224=>256|267=>257|266=>215|314=>269|n=>n,λ| 9=>9|3=>3|4=>4|5=>5|46=>102|146=>299|51=>134|n=>n,λ| 1=>2|n=>n⟩
def Tryz.aeE:Go.Proofs.Lays.n219 Tryz.prog Tryz.Qf:=by
 constructor<;>first|(intros;kernel_rfl)|decide|(constructor<;>first|(intros;kernel_rfl)|(constructor<;>intros<;>kernel_rfl))
open Go.RowKit Go.Lib in
def Tryz.stringslite_Index_one (s:ByteArray)(c:UInt8)(w:World) :
  Calls Tryz.prog 224 #[.string s,.string ⟨#[c]⟩] w λe w'=>e=.returned (.int .i64 (Lib.indexByte s.data.toList c))/\w'=w:=Any.stringslite_Index_one Tryz.aeE s c w
def Tryz.Qg:Go.Shelf.Ren:=⟨λ| 101=>135|208=>178|206=>221|n=>n,λ| 9=>9|4=>4|3=>3|n=>n,λ| n=>n⟩
def Tryz.aeF:Go.Proofs.Lays.n101 Tryz.prog Tryz.Qg:=by
 constructor<;>first|(intros;kernel_rfl)|decide|(constructor<;>first|(intros;kernel_rfl)|(constructor<;>intros<;>kernel_rfl))
open Go.RowKit Go.Lib in
def Tryz.strings_TrimPrefix (s p:ByteArray)(w:World) :
  Calls Tryz.prog 135 #[.string s,.string p] w λe w'=>e=.returned (.string ⟨(Lib.trimPrefix s.data.toList p.data.toList).toArray⟩)/\w'=w:=Any.strings_TrimPrefix Tryz.aeF s p w
def Tryz.Ie:Go.Shelf.Ren:=⟨λ| 105=>233|212=>258|99=>259|165=>260|166=>36|170=>16|169=>17|263=>270|264=>271|206=>221|240=>61|241=>272|276=>87|277=>276|n=>n,λ| 9=>9|3=>3|4=>4|20=>20|0=>0|46=>102|109=>289|5=>5|72=>47|76=>73|51=>134|146=>299|53=>136|148=>302|70=>44|37=>45|75=>72|127=>80|164=>124|80=>52|n=>n,λ| n=>n⟩
def Tryz.aeG:Go.Proofs.Lays.n105 Tryz.prog Tryz.Ie:=by
 constructor<;>first|(intros;kernel_rfl)|decide|(constructor<;>first|(intros;kernel_rfl)|(constructor<;>intros<;>kernel_rfl))
def Tryz.Gh:Builder.Extra Tryz.prog Tryz.Ie:=by
 constructor<;>first|(intros;kernel_rfl)|decide|(constructor<;>first|(intros;kernel_rfl)|(constructor<;>intros<;>kernel_rfl))
open Go.RowKit Go.Lib in
def Tryz.strings_Repeat (s:ByteArray)(c:Nat)(w:World)(hc:c<=9223372036854775807)(hlen:s.size*c<=140737488355328) :
  Calls Tryz.prog 233 #[.string s,.int .i64 c] w λe w'=>e=.returned (.string ⟨(Lib.repeatL s.data.toList c).toArray⟩)/\Below w.heap.size w w':=Any.strings_Repeat Tryz.aeG Tryz.Gh s c w hc hlen
def Tryz.Qh:Go.Shelf.Ren:=⟨λ| 197=>107|260=>149|n=>n,λ| 9=>9|21=>21|3=>3|4=>4|5=>5|105=>149|119=>120|0=>0|46=>102|139=>123|138=>122|n=>n,λ| 3=>0|4=>1|n=>n⟩
def Tryz.aeH:Go.Proofs.Lays.n197 Tryz.prog Tryz.Qh:=by
 constructor<;>first|(intros;kernel_rfl)|decide|(constructor<;>first|(intros;kernel_rfl)|(constructor<;>intros<;>kernel_rfl))
open Go.RowKit Go.Lib in
def Tryz.utf8_DecodeRuneInString (s:ByteArray)(w:World)(hT:Lib.Utf8Tabs 0 1 w) :
  Calls Tryz.prog 107 #[.string s] w λe w'=>e=.returned (.tuple #[.int .i32 (Lib.decodeGo s).1,.int .i64 (Lib.decodeGo s).2])/\Below w.heap.size w w':=Any.utf8_DecodeRuneInString Tryz.aeH s w hT
def Tryz.Qi:Go.Shelf.Ren:=⟨λ| 196=>60|259=>86|n=>n,λ| 9=>9|4=>4|3=>3|5=>5|12=>12|119=>120|0=>0|46=>102|139=>123|138=>122|53=>136|n=>n,λ| 3=>0|4=>1|n=>n⟩
def Tryz.aeI:Go.Proofs.Lays.n196 Tryz.prog Tryz.Qi:=by
 constructor<;>first|(intros;kernel_rfl)|decide|(constructor<;>first|(intros;kernel_rfl)|(constructor<;>intros<;>kernel_rfl))
open Go.RowKit Go.Lib in
def Tryz.utf8_ValidString (s:ByteArray)(w:World)(hs:s.size<=9223372036854775807)(hT:Lib.Utf8Tabs 0 1 w) :
  Calls Tryz.prog 60 #[.string s] w λe w'=>e=.returned (.bool (Lib.validD s.data.toList))/\Below w.heap.size w w':=Any.utf8_ValidString Tryz.aeI s w hs hT
end Go.Proofs
