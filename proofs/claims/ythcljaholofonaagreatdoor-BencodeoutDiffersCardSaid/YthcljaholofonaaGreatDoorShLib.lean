
import Derived.Test.YthcljaholofonaaGreatDoorShT
import Derived.Test.YthcljaholofonaaGreatDoorAgoL
import Derived.Test.YthcljaholofonaaGreatDoorTz
import Derived.Test.YthcljaholofonaaGreatDoorFu
set_option linter.all false
namespace Go.Sh
open Go Go.Ago Go.Proofs Go.RowKit
def strings_IndexByte (_:Nat)(s:ζ)(c:Int):M Int:=AI (Lib.indexByte s.data.toList c.toNat.toUInt8)
def tf (_:Nat)(s:ζ):M (Int×Int):=AI (ahu (rY s (s.size+1) 0),Uv (rY s (s.size+1) 0))
def pD (b:UInt8):Bool:=Nat.ble 48 b.toNat&&Nat.ble b.toNat 57
def decFrom (a:Nat)(D:List UInt8):Nat:=D.foldl (λa b=>10*a+(b.toNat-48)) a
def R9 (D:List UInt8):Nat:=decFrom 0 D
def u8 (s:ζ):Bool:=(rY s (s.size+1) 0).isNone
def Cc (v:Int):M (Int×ξ):=sh opq λb=>AI (v,.iface vB (.pointer (some ⟨b,0,none⟩)))
def strconv_Atoi (_:Nat)(s:ζ):M (Int×ξ):=
 if s.size<=281474976710656 then (match Lib.atoiAll s.data.toList with
  |.ok v=>AI (v,.nilIface)
  |  Lib.NumEnd.syntax=>Cc 0
  |.range=>Cc (Lib.atoiSat s.data.toList))
 else AS
def gq (_:Nat)(s:ζ)(base bits:Int):M (Int×ξ):=
 if s.size<=281474976710656/\base=10/\bits=64 then (match Lib.parseUintB 64 s.data.toList with
  |.ok v=>AI ((v:Int),.nilIface)
  |  Lib.NumEnd.syntax=>Cc 0
  |.range=>Cc 18446744073709551615)
 else AS
def strconv_Itoa (_:Nat)(n:Int):M ζ:=if -9223372036854775808<=n/\n<=9223372036854775807 then AI ⟨(Lib.itoa n).toArray⟩ else AS
def hG (_:Nat)(u:Int)(base:Int):M ζ:=if 0<=u/\u<18446744073709551616/\base=10 then AI ⟨(Lib.itoa u).toArray⟩ else AS
def eV (_:Nat)(s:ζ):M Bool:=if s.size<=9223372036854775807 then AI (Lib.validD s.data.toList) else AS
def strings_Repeat (_:Nat)(s:ζ)(c:Int):M ζ:=if 0<=c/\c<=1048576/\s.size<=65536 then AI ⟨(Lib.repeatL s.data.toList c.toNat).toArray⟩ else AS
def iJ (_:Nat)(s t:ζ):M ζ:=match t.data.toList with
 |[c]=>if c.toNat<128/\s.size<=9223372036854775807 then AI ⟨(Lib.trimRightB s.data.toList c).toArray⟩ else AS
 |_=>AS
def strings_TrimPrefix (_:Nat)(s p:ζ):M ζ:=AI ⟨(Lib.trimPrefix s.data.toList p.data.toList).toArray⟩
def strings_CutPrefix (_:Nat)(s p:ζ):M (ζ×Bool):=AI (⟨(Lib.trimPrefix s.data.toList p.data.toList).toArray⟩,Lib.hasPrefix s.data.toList p.data.toList)
def kY (_:Nat)(s t:ζ):M Int:=match t.data.toList with
 |[c]=>AI (Lib.indexByte s.data.toList c)
 |_=>AS
def gR (_:Nat)(x:Int):M Int:=if 0<=x/\x<=18446744073709551615 then AI (Lib.bitLen x.toNat) else AS
def dm (_:Nat)(x:Int):M Int:=if x=0 then AI 64 else if 0<=Uw x/\Uw x<64 then AI (wrap64 (Nj (Uw x).toNat)) else AS
def fU (_:Nat)(b:Nat):M Int:=AI (b:Int)
def dB (_:Nat)(n:Int):M Nat:=AI n.toNat
def ur (_:Nat)(p:θ):M θ:=AI p
def aeR (a b:ζ):Int:=Extern.BytealgCompare.cmp a b
def cU (_:Nat)(a b:ζ):M Int:=AI (aeR a b)
def two {P:Program}{ι:iE}{a b a' b':ξ}(ha:aO P ι a a')(hb:aO P ι b b'):aO P ι (.tuple #[a,b]) (.tuple #[a',b']):=.tuple _ _ rfl λi v v' q1 q2=>by
 match i,q1,q2 with
 |0,q1,q2=>cases q1;cases q2;exact ha
 |1,q1,q2=>cases q1;cases q2;exact hb
def aod {t:ζ}{c:UInt8}(h:t.data.toList=[c]):t=⟨#[c]⟩:=by
 obtain⟨⟨l⟩⟩:=t;have h:l=[c]:=h;rw[h]
variable {h h1:aj}{n:Nat}
def Z7 {w : World} (L : nj w) : Lib.TabIs Tryz.prog w "internal/strconv.uint64pow10" .u64 Lib.pow10Tab :=by
 obtain⟨t,fz,hp⟩:=L.pow;show World.var? Tryz.prog w "internal/strconv.uint64pow10" = _
 unfold World.var?;rw[show Tryz.prog.globalNamed "internal/strconv.uint64pow10" = some 4 by kernel_rfl]
 simp only[anI,hp]
def Z8 {s:ζ}{c:Int}{y:ζ}(hx:strings_Repeat n s c h=some (y,h1)):∃m:Nat,c=m/\m<=1048576/\s.size*m<=140737488355328/\y=⟨(Lib.repeatL s.data.toList m).toArray⟩/\h1=h:=by
 unfold strings_Repeat at hx;split at hx
 .rename_i hc;cases hx;obtain⟨m,rfl⟩:∃m:Nat,c=m:=⟨c.toNat,by omega⟩;have hm:s.size*m<=65536*1048576:=apE hc.2.2 (by omega);exact⟨m,rfl,by omega,by omega,rfl,rfl⟩
 .simp[AS] at hx
def aeS {s t y:ζ}(hx:iJ n s t h=some (y,h1)):∃c:UInt8,t=⟨#[c]⟩/\c.toNat<128/\s.size<=9223372036854775807/\y=⟨(Lib.trimRightB s.data.toList c).toArray⟩/\h1=h:=by
 unfold iJ at hx;cases e:t.data.toList with
 |nil=>rw[e] at hx;cases hx
 |cons c r=>
  cases r with
  |cons d r=>rw[e] at hx;cases hx
  |nil=>
   rw[e] at hx;have hx:(if c.toNat<128/\s.size<=9223372036854775807 then AI (⟨(Lib.trimRightB s.data.toList c).toArray⟩:ζ) else AS) h=some (y,h1):=hx;split at hx
   .rename_i hs;cases hx;exact⟨c,aod e,hs.1,hs.2,rfl,rfl⟩
   .simp[AS] at hx
def aeT {s t}{y}(hx:kY n s t h=some (y,h1)):∃c:UInt8,t=⟨#[c]⟩/\y=Lib.indexByte s.data.toList c/\h1=h:=by
 unfold kY at hx;cases e:t.data.toList with
 |nil=>rw[e] at hx;cases hx
 |cons c r=>
  cases r with
  |cons d r=>rw[e] at hx;cases hx
  |nil=>rw[e] at hx;cases hx;exact⟨c,aod e,rfl,rfl⟩
def aeU {s:ζ}{y:Int×ξ}(hx:strconv_Atoi n s h=some (y,h1)):s.size<=281474976710656/\((∃v,Lib.atoiAll s.data.toList=.ok v/\y=(v,.nilIface)/\h1=h)\/(Lib.atoiAll s.data.toList= Lib.NumEnd.syntax/\Cc 0 h=some (y,h1)) \/
  (Lib.atoiAll s.data.toList=.range/\Cc (Lib.atoiSat s.data.toList) h=some (y,h1))):=by
 unfold strconv_Atoi at hx;split at hx
 .rename_i hc;refine⟨hc,?_⟩;cases e:Lib.atoiAll s.data.toList with
  |ok v=>rw[e] at hx;cases hx;exact .inl ⟨v,rfl,rfl,rfl⟩
  |range=>rw[e] at hx;exact .inr (.inr ⟨rfl,hx⟩)
  |_=>rw[e] at hx;exact .inr (.inl ⟨rfl,hx⟩)
 .simp[AS] at hx
def aeV {s:ζ}{b c:Int}{y:Int×ξ}(hx:gq n s b c h=some (y,h1)):(s.size<=281474976710656/\b=10/\c=64)/\((∃v:Nat,Lib.parseUintB 64 s.data.toList=.ok v/\y=((v:Int),.nilIface)/\h1=h)\/(Lib.parseUintB 64 s.data.toList= Lib.NumEnd.syntax/\Cc 0 h=some (y,h1)) \/
  (Lib.parseUintB 64 s.data.toList=.range/\Cc 18446744073709551615 h=some (y,h1))):=by
 unfold gq at hx;split at hx
 .rename_i hc;refine⟨hc,?_⟩;cases e:Lib.parseUintB 64 s.data.toList with
  |ok v=>rw[e] at hx;cases hx;exact .inl ⟨v,rfl,rfl,rfl⟩
  |range=>rw[e] at hx;exact .inr (.inr ⟨rfl,hx⟩)
  |_=>rw[e] at hx;exact .inr (.inl ⟨rfl,hx⟩)
 .simp[AS] at hx
def CX (n:Nat):aC Tryz.prog ⟨133,[.one .str,.one (.int .u8)],[.one (.int .i64)],λx=>strings_IndexByte n x.1 x.2⟩:=by
 intro x;refine iG.of (λargs w=>jl (fn:=Tryz.f133) (by kernel_rfl) (by kernel_rfl) (by kernel_rfl) args w) ?_;intro F h y h1 hx ι w vs' R hl;cases hx;obtain rfl:=aZ.nA hl rfl;exact lX R (.flat _ rfl) ((Tryz.strings_IndexByte x.1 x.2 w).mono λe w' hx=>⟨hx.1,by rw[hx.2];exact Below.refl _ _⟩)
def Fh (n:Nat):aC Tryz.prog ⟨76,[.one .str],[.one (.int .i64),.one (.int .i64)],λx=>tf n x⟩:=by
 intro x;refine iG.of (λargs w=>jl (fn:=Tryz.f76) (by kernel_rfl) (by kernel_rfl) (by kernel_rfl) args w) ?_;intro F h y h1 hx ι w vs' R hl;cases hx;obtain rfl:=aZ.nA hl rfl;have L:=R.GP w R.qC;exact lX R (two (.flat _ rfl) (.flat _ rfl)) (Qk x w ⟨L.first,L.accept⟩)
def Ix (n:Nat):aC Tryz.prog ⟨65,[.one (.int .i64)],[.one .str],λx=>strconv_Itoa n x⟩:=by
 intro x;refine iG.of (λargs w=>jl (fn:=Tryz.f65) (by kernel_rfl) (by kernel_rfl) (by kernel_rfl) args w) ?_;intro F h y h1 hx ι w vs' R hl;obtain rfl:=aZ.nA hl rfl;have hx:strconv_Itoa n x h=some (y,h1):=hx;unfold strconv_Itoa at hx;split at hx
 .rename_i hc;cases hx;have htab:=Z7 (R.GP w R.qC);exact lX R (.flat _ rfl) ((Tryz.strconv_Itoa x hc.1 hc.2 w htab).mono λe w' hx=>⟨hx.1,by
   obtain⟨_,k,os,rfl⟩:=hx;exact Lib.below_grow _ _ (acX _) _ _⟩)
 .simp[AS] at hx
def Gj (n:Nat):aC Tryz.prog ⟨233,[.one .str,.one (.int .i64)],[.one .str],λx=>strings_Repeat n x.1 x.2⟩:=by
 intro x;refine iG.of (λargs w=>jl (fn:=Tryz.f233) (by kernel_rfl) (by kernel_rfl) (by kernel_rfl) args w) ?_;intro F h y h1 hx ι w vs' R hl;obtain rfl:=aZ.nA hl rfl;obtain⟨m,hm,h2,h3,rfl,rfl⟩:=Z8 (n:=n) hx;have e:x=(x.1,(m:Int)):=by rw[<-hm]
 rw[e];exact lX R (.flat _ rfl) ((Tryz.strings_Repeat x.1 m w (by omega) h3).mono λe w' hx=>⟨hx.1,hx.2⟩)
def CZ (n:Nat):aC Tryz.prog ⟨194,[.one .str,.one .str],[.one .str],λx=>iJ n x.1 x.2⟩:=by
 intro x;refine iG.of (λargs w=>jl (fn:=Tryz.f194) (by kernel_rfl) (by kernel_rfl) (by kernel_rfl) args w) ?_;intro F h y h1 hx ι w vs' R hl;obtain rfl:=aZ.nA hl rfl;obtain⟨c,hm,h2,h3,rfl,rfl⟩:=aeS (n:=n) hx;have e:x=(x.1,(⟨#[c]⟩:ζ)):=by rw[<-hm]
 rw[e];exact lX R (.flat _ rfl) ((Tryz.strings_TrimRight_one x.1 c h2 w h3).mono λe w' hx=>⟨hx.1,by rw[hx.2];exact Below.refl _ _⟩)
def Cd (n:Nat):aC Tryz.prog ⟨135,[.one .str,.one .str],[.one .str],λx=>strings_TrimPrefix n x.1 x.2⟩:=by
 intro x;refine iG.of (λargs w=>jl (fn:=Tryz.f135) (by kernel_rfl) (by kernel_rfl) (by kernel_rfl) args w) ?_;intro F h y h1 hx ι w vs' R hl;cases hx;obtain rfl:=aZ.nA hl rfl;exact lX R (.flat _ rfl) ((Tryz.strings_TrimPrefix x.1 x.2 w).mono λe w' hx=>⟨hx.1,by rw[hx.2];exact Below.refl _ _⟩)
def Da (n:Nat):aC Tryz.prog ⟨140,[.one .str,.one .str],[.one .str,.one .bool],λx=>strings_CutPrefix n x.1 x.2⟩:=by
 intro x;refine iG.of (λargs w=>jl (fn:=Tryz.f140) (by kernel_rfl) (by kernel_rfl) (by kernel_rfl) args w) ?_;intro F h y h1 hx ι w vs' R hl;cases hx;obtain rfl:=aZ.nA hl rfl;exact lX R (two (.flat _ rfl) (.flat _ rfl)) ((Tryz.strings_CutPrefix x.1 x.2 w).mono λe w' hx=>⟨hx.1,by rw[hx.2];exact Below.refl _ _⟩)
def Bb (n:Nat):aC Tryz.prog ⟨224,[.one .str,.one .str],[.one (.int .i64)],λx=>kY n x.1 x.2⟩:=by
 intro x;refine iG.of (λargs w=>jl (fn:=Tryz.f224) (by kernel_rfl) (by kernel_rfl) (by kernel_rfl) args w) ?_;intro F h y h1 hx ι w vs' R hl;obtain rfl:=aZ.nA hl rfl;obtain⟨c,hm,rfl,rfl⟩:=aeT (n:=n) hx;have e:x=(x.1,(⟨#[c]⟩:ζ)):=by rw[<-hm]
 rw[e];exact lX R (.flat _ rfl) ((Tryz.stringslite_Index_one x.1 c w).mono λe w' hx=>⟨hx.1,by rw[hx.2];exact Below.refl _ _⟩)
def Fi (n:Nat):aC Tryz.prog ⟨97,[.one (.int .u64)],[.one (.int .i64)],λx=>gR n x⟩:=by
 intro x;refine iG.of (λargs w=>jl (fn:=Tryz.f97) (by kernel_rfl) (by kernel_rfl) (by kernel_rfl) args w) ?_;intro F h y h1 hx ι w vs' R hl;obtain rfl:=aZ.nA hl rfl;have hx:gR n x h=some (y,h1):=hx;unfold gR at hx;split at hx
 .rename_i hc;cases hx;exact lX R (.flat _ rfl) ((Tryz.bits_Len64 x w hc.1 hc.2).mono λe w' hx=>⟨hx.1,by rw[hx.2];exact Below.refl _ _⟩)
 .simp[AS] at hx
def Jh {F:Fz}{ι:iE}{h h1:aj}{w:World}{f:FuncId}{vs:ν}{v:Int}{k:IntKind}{ev:ξ}{nm s:ζ}{y:Int×ξ}(R:Rel Tryz.prog F ι h w)(hx:Cc v h=some (y,h1))
  (hc:Calls Tryz.prog f vs w λe w'=>∃N,e=.returned (.tuple #[.int k v,.iface vB (.pointer (some ⟨N,0,none⟩))])/\w.heap.size<=N/\w'.heap[N]?=some (.cells #[.string nm,.string s,ev] Ff (0,0))/\Below w.heap.size w w') :
  Calls Tryz.prog f vs w λe w'=>∃v' ι',e=.returned v'/\aO Tryz.prog ι' (.tuple #[.int k y.1,y.2]) v'/\Rel Tryz.prog F ι' h1 w'/\ι.le ι':=by
 simp only[Cc,sh,opq,AI,adW,aqf] at hx;obtain⟨rfl,rfl⟩:=hx;refine hc.mono λe w' hx=>?_;obtain⟨N,rfl,hN,hw,hb⟩:=hx;obtain⟨ι',q1,q2,q3⟩:=(R.below hb).opq hw;exact⟨_,ι',rfl,two (.flat _ rfl) (.iface _ _ _ (.ptr _ _ ⟨rfl,rfl,_,q2,rfl,rfl⟩)),q3,q1⟩
def strconv_Atoi_ok (n:Nat):aC Tryz.prog ⟨134,[.one .str],[.one (.int .i64),.one .raw],λx=>strconv_Atoi n x⟩:=by
 intro x;refine iG.of (λargs w=>jl (fn:=Tryz.f134) (by kernel_rfl) (by kernel_rfl) (by kernel_rfl) args w) ?_;intro F h y h1 hx ι w vs' R hl;obtain rfl:=aZ.nA hl rfl;have L:=R.GP w R.qC;obtain⟨hc,hv⟩:=aeU (n:=n) hx;rcases hv with⟨v,hv,rfl,rfl⟩|⟨hv,hx⟩|⟨hv,hx⟩
 .refine (Tryz.strconv_Atoi_ok x (by have:ByteArray.size x<=281474976710656:=hc;omega) _ hv w).mono λe w' hx=>?_;obtain⟨rfl,hw⟩:=hx;refine⟨_,ι,rfl,two (.flat _ rfl) (.flat _ rfl),?_,.refl _⟩;rcases hw with rfl|⟨t,rfl⟩
  .exact R
  .exact R.below (Lib.bytesWorld_below _ _ _)
 .obtain⟨ev,e1,e2⟩:=L.ai2;exact Jh R hx (Tryz.strconv_Atoi_syntax x hc hv ev w e1 e2)
 .obtain⟨ev,e1,e2⟩:=L.ai3;exact Jh R hx (Tryz.strconv_Atoi_range x hc hv ev w e1 e2)
def Db (n:Nat):aC Tryz.prog ⟨144,[.one .str,.one (.int .i64),.one (.int .i64)],[.one (.int .u64),.one .raw],λx=>gq n x.1 x.2.1 x.2.2⟩:=by
 intro x;refine iG.of (λargs w=>jl (fn:=Tryz.f144) (by kernel_rfl) (by kernel_rfl) (by kernel_rfl) args w) ?_;intro F h y h1 hx ι w vs' R hl;obtain rfl:=aZ.nA hl rfl;have L:=R.GP w R.qC;obtain⟨⟨hc,hb,hd⟩,hv⟩:=aeV (n:=n) hx;have e:x=(x.1,(10:Int),(64:Int)):=by rw[<-hb,<-hd]
 rw[e];rcases hv with⟨v,hv,rfl,rfl⟩|⟨hv,hx⟩|⟨hv,hx⟩
 .refine (Tryz.strconv_ParseUint_10_at64_ok x.1 (by have:ByteArray.size x.1<=281474976710656:=hc;omega) _ hv w).mono λe w' hx=>?_;obtain⟨rfl,hw⟩:=hx;refine⟨_,ι,rfl,two (.flat _ rfl) (.flat _ rfl),?_,.refl _⟩;rcases hw with rfl|rfl
  .exact R
  .exact R.below (Lib.bytesWorld_below _ _ _)
 .obtain⟨ev,e1,e2⟩:=L.ai2;exact Jh R hx (Tryz.strconv_ParseUint_10_at64_syntax x.1 hc hv ev w e1 e2)
 .obtain⟨ev,e1,e2⟩:=L.ai3;exact Jh R hx (Tryz.strconv_ParseUint_10_at64_range x.1 hc hv ev w e1 e2)
def Ed (n:Nat):aC Tryz.prog ⟨190,[.one .f64],[.one (.int .u64)],λx=>fU n x⟩:=by
 intro x;refine⟨.inr ?_,λhe=>?_⟩
 .intro F h y h1 hx ι w vs' R hl;cases hx;obtain rfl:=aZ.nA hl rfl;exact⟨.int .u64 ((show Nat from x):Int),w,ι,Ql x w,.flat _ rfl,R,.refl _⟩
 .intro F h y h1 hx ι w vs' R hl;have:=(he #[.float .f64 0] w).symm.trans (Ql 0 w);cases this
def Ax (n:Nat):aC Tryz.prog ⟨181,[.one (.int .u64)],[.one .f64],λx=>dB n x⟩:=by
 intro x;refine⟨.inr ?_,λhe=>?_⟩
 .intro F h y h1 hx ι w vs' R hl;cases hx;obtain rfl:=aZ.nA hl rfl;exact⟨.float .f64 ((show Int from x).toNat),w,ι,Qm x w,.flat _ rfl,R,.refl _⟩
 .intro F h y h1 hx ι w vs' R hl;have:=(he #[.int .u64 0] w).symm.trans (Qm 0 w);cases this
def Z9 {x y:Int}(hx:dm n x h=some (y,h1)):(x=0/\y=64/\h1=h)\/(x≠0/\(0<=Uw x/\Uw x<64)/\y=wrap64 (Nj (Uw x).toNat)/\h1=h):=by
 unfold dm at hx;split at hx
 .cases hx;exact .inl ⟨‹_›,rfl,rfl⟩
 .split at hx
  .cases hx;exact .inr ⟨‹_›,‹_›,rfl,rfl⟩
  .simp[AS] at hx
def wY (n:Nat):aC Tryz.prog ⟨230,[.one (.int .u64)],[.one (.int .i64)],λx=>dm n x⟩:=by
 intro x;refine iG.of (λargs w=>jl (fn:=Tryz.f230) (by kernel_rfl) (by kernel_rfl) (by kernel_rfl) args w) ?_;intro F h y h1 hx ι w vs' R hl;obtain rfl:=aZ.nA hl rfl;have L:=R.GP w R.qC;rcases Z9 (n:=n) hx with⟨h0,rfl,rfl⟩|⟨h0,h2,rfl,rfl⟩
 .have e:x=(0:Int):=h0;rw[e];exact lX R (.flat _ rfl) ((aeQ w).mono λe w' hx=>⟨hx.1,by rw[hx.2];exact Below.refl _ _⟩)
 .exact lX R (.flat _ rfl) ((Z5 x w h0 h2 L.deb).mono λe w' hx=>⟨hx.1,by rw[hx.2];exact Below.refl _ _⟩)
def aeW {u b:Int}{y:ζ}(hx:hG n u b h=some (y,h1)):∃m:Nat,u=m/\m<18446744073709551616/\b=10/\y=⟨(Lib.itoa m).toArray⟩/\h1=h:=by
 unfold hG at hx;split at hx
 .rename_i hc;cases hx;obtain⟨m,rfl⟩:∃m:Nat,u=m:=⟨u.toNat,by omega⟩;exact⟨m,rfl,by omega,hc.2.2,rfl,rfl⟩
 .simp[AS] at hx
def Ay (n:Nat):aC Tryz.prog ⟨231,[.one (.int .u64),.one (.int .i64)],[.one .str],λx=>hG n x.1 x.2⟩:=by
 intro x;refine iG.of (λargs w=>jl (fn:=Tryz.f231) (by kernel_rfl) (by kernel_rfl) (by kernel_rfl) args w) ?_;intro F h y h1 hx ι w vs' R hl;obtain rfl:=aZ.nA hl rfl;obtain⟨m,hm,h2,h3,rfl,rfl⟩:=aeW (n:=n) hx;have e:x=((m:Int),(10:Int)):=by rw[<-hm,<-h3]
 rw[e];exact lX R (.flat _ rfl) (Z6 m h2 w (Z7 (R.GP w R.qC)))
theorem Ux (p:θ)(w:World):(callFunc 87 #[.pointer p]).run Tryz.prog w=.ok (.value (.pointer p)) w:=by kernel_rfl
theorem Uy (a b:ζ)(w:World):(callFunc 98 #[.string a,.string b]).run Tryz.prog w=.ok (.value (.int .i64 (aeR a b))) w:=by kernel_rfl
def Gk (n:Nat):aC Tryz.prog ⟨87,[.one .ptr],[.one .ptr],λx=>ur n x⟩:=by
 intro x;refine⟨.inr ?_,λhe=>?_⟩
 .intro F h y h1 hx ι w vs' R hl;cases hx;obtain⟨v',e1,e2⟩:=hl.one;have hvs:vs'=#[v']:=anC (by simpa using e1);subst hvs;obtain⟨p',rfl,hp⟩:=aO.aef (p:=x) e2;exact⟨.pointer p',w,ι,Ux p' w,e2,R,.refl _⟩
 .intro F h y h1 hx ι w vs' R hl;have:=(he #[.pointer none] w).symm.trans (Ux none w);cases this
def rZ (n:Nat):aC Tryz.prog ⟨98,[.one .str,.one .str],[.one (.int .i64)],λx=>cU n x.1 x.2⟩:=by
 intro x;refine⟨.inr ?_,λhe=>?_⟩
 .intro F h y h1 hx ι w vs' R hl;cases hx;obtain rfl:=aZ.nA hl rfl;exact⟨.int .i64 (aeR x.1 x.2),w,ι,Uy x.1 x.2 w,.flat _ rfl,R,.refl _⟩
 .intro F h y h1 hx ι w vs' R hl;have:=(he #[.string .empty,.string .empty] w).symm.trans (Uy .empty .empty w);cases this
def xC (n:Nat):aC Tryz.prog ⟨60,[.one .str],[.one .bool],λx=>eV n x⟩:=by
 intro x;refine iG.of (λargs w=>jl (fn:=Tryz.f60) (by kernel_rfl) (by kernel_rfl) (by kernel_rfl) args w) ?_;intro F h y h1 hx ι w vs' R hl;obtain rfl:=aZ.nA hl rfl;have hx:eV n x h=some (y,h1):=hx;unfold eV at hx;split at hx
 .rename_i hc;cases hx;have L:=R.GP w R.qC;exact lX R (.flat _ rfl) (Tryz.utf8_ValidString x w hc ⟨L.first,L.accept⟩)
 .simp[AS] at hx
end Go.Sh
