
import Derived.Test.YtdbjhobkhjneeaaGreatDoorShT
import Derived.Test.YtdbjhobkhjneeaaGreatDoorAgoL
import Derived.Test.YtdbjhobkhjneeaaGreatDoorTz
import Derived.Test.YtdbjhobkhjneeaaGreatDoorFu
set_option linter.all false
namespace Go.Sh
open Go Go.Ago Go.Proofs Go.RowKit
def strings_IndexByte (_:Nat)(s:ζ)(c:Int):M Int:=AI (Lib.indexByte s.data.toList c.toNat.toUInt8)
def qJ (_:Nat)(s:ζ):M (Int×Int):=AI (ae1 (vC s (s.size+1) 0),Yc (vC s (s.size+1) 0))
def nQ (b:UInt8):Bool:=Nat.ble 48 b.toNat&&Nat.ble b.toNat 57
def decFrom (a:Nat)(D:List UInt8):Nat:=D.foldl (λa b=>10*a+(b.toNat-48)) a
def QA (D:List UInt8):Nat:=decFrom 0 D
def u8 (s:ζ):Bool:=(vC s (s.size+1) 0).isNone
def zX (v:Int):M (Int×ο):=sh opq λb=>AI (v,.iface tD (.pointer (some ⟨b,0,none⟩)))
def strconv_Atoi (_:Nat)(s:ζ):M (Int×ο):=
 if s.size<=281474976710656 then (match Lib.atoiAll s.data.toList with
  |.ok v=>AI (v,.nilIface)
  |  Lib.NumEnd.syntax=>zX 0
  |.range=>zX (Lib.atoiSat s.data.toList))
 else AS
def fP (_:Nat)(s:ζ)(base bits:Int):M (Int×ο):=
 if s.size<=281474976710656/\base=10/\bits=64 then (match Lib.parseUintB 64 s.data.toList with
  |.ok v=>AI ((v:Int),.nilIface)
  |  Lib.NumEnd.syntax=>zX 0
  |.range=>zX 18446744073709551615)
 else AS
def strconv_Itoa (_:Nat)(n:Int):M ζ:=if -9223372036854775808<=n/\n<=9223372036854775807 then AI ⟨(Lib.itoa n).toArray⟩ else AS
def gE (_:Nat)(u:Int)(base:Int):M ζ:=if 0<=u/\u<18446744073709551616/\base=10 then AI ⟨(Lib.itoa u).toArray⟩ else AS
def strings_Repeat (_:Nat)(s:ζ)(c:Int):M ζ:=if 0<=c/\c<=1048576/\s.size<=65536 then AI ⟨(Lib.repeatL s.data.toList c.toNat).toArray⟩ else AS
def gZ (_:Nat)(s t:ζ):M ζ:=match t.data.toList with
 |[c]=>if c.toNat<128/\s.size<=9223372036854775807 then AI ⟨(Lib.trimRightB s.data.toList c).toArray⟩ else AS
 |_=>AS
def strings_TrimPrefix (_:Nat)(s p:ζ):M ζ:=AI ⟨(Lib.trimPrefix s.data.toList p.data.toList).toArray⟩
def strings_CutPrefix (_:Nat)(s p:ζ):M (ζ×Bool):=AI (⟨(Lib.trimPrefix s.data.toList p.data.toList).toArray⟩,Lib.hasPrefix s.data.toList p.data.toList)
def jF (_:Nat)(s t:ζ):M Int:=match t.data.toList with
 |[c]=>AI (Lib.indexByte s.data.toList c)
 |_=>AS
def gf (_:Nat)(x:Int):M Int:=if 0<=x/\x<=18446744073709551615 then AI (Lib.bitLen x.toNat) else AS
def da (_:Nat)(x:Int):M Int:=if x=0 then AI 64 else if 0<=Sp x/\Sp x<64 then AI (wrap64 (Ld (Sp x).toNat)) else AS
def bX (_:Nat)(b:Nat):M Int:=AI (b:Int)
def bA (_:Nat)(n:Int):M Nat:=AI n.toNat
def sd (_:Nat)(p:θ):M θ:=AI p
def LN (a b:ζ):Int:=Extern.BytealgCompare.cmp a b
def ea (_:Nat)(a b:ζ):M Int:=AI (LN a b)
def two {P:Program}{ι:gX}{a b a' b':ο}(ha:aM P ι a a')(hb:aM P ι b b'):aM P ι (.tuple #[a,b]) (.tuple #[a',b']):=.tuple _ _ rfl λi v v' q1 q2=>by
 match i,q1,q2 with
 |0,q1,q2=>cases q1;cases q2;exact ha
 |1,q1,q2=>cases q1;cases q2;exact hb
def ak1 {t:ζ}{c:UInt8}(h:t.data.toList=[c]):t=⟨#[c]⟩:=by
 obtain⟨⟨l⟩⟩:=t;have h:l=[c]:=h;rw[h]
variable {h h1:aj}{n:Nat}
def Yf {w : World} (L : kY w) : Lib.TabIs Tryz.prog w "internal/strconv.uint64pow10" .u64 Lib.pow10Tab :=by
 obtain⟨t,fz,hp⟩:=L.pow;show World.var? Tryz.prog w "internal/strconv.uint64pow10" = _
 unfold World.var?;rw[show Tryz.prog.globalNamed "internal/strconv.uint64pow10" = some 7 by kernel_rfl]
 simp only[ame,hp]
def Yg {s:ζ}{c:Int}{y:ζ}(hx:strings_Repeat n s c h=some (y,h1)):∃m:Nat,c=m/\m<=1048576/\s.size*m<=140737488355328/\y=⟨(Lib.repeatL s.data.toList m).toArray⟩/\h1=h:=by
 unfold strings_Repeat at hx;split at hx
 .rename_i hc;cases hx;obtain⟨m,rfl⟩:∃m:Nat,c=m:=⟨c.toNat,by omega⟩;have hm:s.size*m<=65536*1048576:=amJ hc.2.2 (by omega);exact⟨m,rfl,by omega,by omega,rfl,rfl⟩
 .simp[AS] at hx
def acz {s t y:ζ}(hx:gZ n s t h=some (y,h1)):∃c:UInt8,t=⟨#[c]⟩/\c.toNat<128/\s.size<=9223372036854775807/\y=⟨(Lib.trimRightB s.data.toList c).toArray⟩/\h1=h:=by
 unfold gZ at hx;cases e:t.data.toList with
 |nil=>rw[e] at hx;cases hx
 |cons c r=>
  cases r with
  |cons d r=>rw[e] at hx;cases hx
  |nil=>
   rw[e] at hx;have hx:(if c.toNat<128/\s.size<=9223372036854775807 then AI (⟨(Lib.trimRightB s.data.toList c).toArray⟩:ζ) else AS) h=some (y,h1):=hx;split at hx
   .rename_i hs;cases hx;exact⟨c,ak1 e,hs.1,hs.2,rfl,rfl⟩
   .simp[AS] at hx
def acA {s t}{y}(hx:jF n s t h=some (y,h1)):∃c:UInt8,t=⟨#[c]⟩/\y=Lib.indexByte s.data.toList c/\h1=h:=by
 unfold jF at hx;cases e:t.data.toList with
 |nil=>rw[e] at hx;cases hx
 |cons c r=>
  cases r with
  |cons d r=>rw[e] at hx;cases hx
  |nil=>rw[e] at hx;cases hx;exact⟨c,ak1 e,rfl,rfl⟩
def acB {s:ζ}{y:Int×ο}(hx:strconv_Atoi n s h=some (y,h1)):s.size<=281474976710656/\((∃v,Lib.atoiAll s.data.toList=.ok v/\y=(v,.nilIface)/\h1=h)\/(Lib.atoiAll s.data.toList= Lib.NumEnd.syntax/\zX 0 h=some (y,h1)) \/
  (Lib.atoiAll s.data.toList=.range/\zX (Lib.atoiSat s.data.toList) h=some (y,h1))):=by
 unfold strconv_Atoi at hx;split at hx
 .rename_i hc;refine⟨hc,?_⟩;cases e:Lib.atoiAll s.data.toList with
  |ok v=>rw[e] at hx;cases hx;exact .inl ⟨v,rfl,rfl,rfl⟩
  |range=>rw[e] at hx;exact .inr (.inr ⟨rfl,hx⟩)
  |_=>rw[e] at hx;exact .inr (.inl ⟨rfl,hx⟩)
 .simp[AS] at hx
def acC {s:ζ}{b c:Int}{y:Int×ο}(hx:fP n s b c h=some (y,h1)):(s.size<=281474976710656/\b=10/\c=64)/\((∃v:Nat,Lib.parseUintB 64 s.data.toList=.ok v/\y=((v:Int),.nilIface)/\h1=h)\/(Lib.parseUintB 64 s.data.toList= Lib.NumEnd.syntax/\zX 0 h=some (y,h1)) \/
  (Lib.parseUintB 64 s.data.toList=.range/\zX 18446744073709551615 h=some (y,h1))):=by
 unfold fP at hx;split at hx
 .rename_i hc;refine⟨hc,?_⟩;cases e:Lib.parseUintB 64 s.data.toList with
  |ok v=>rw[e] at hx;cases hx;exact .inl ⟨v,rfl,rfl,rfl⟩
  |range=>rw[e] at hx;exact .inr (.inr ⟨rfl,hx⟩)
  |_=>rw[e] at hx;exact .inr (.inl ⟨rfl,hx⟩)
 .simp[AS] at hx
theorem AG (n:Nat):aH Tryz.prog ⟨89,[.one .str,.one (.int .u8)],[.one (.int .i64)],λx=>strings_IndexByte n x.1 x.2⟩:=by
 intro x;refine iH.of (λargs w=>iV (fn:=Tryz.f89) (by kernel_rfl) (by kernel_rfl) (by kernel_rfl) args w) ?_;intro F h y h1 hx ι w vs' R hl;cases hx;obtain rfl:=aX.lZ hl rfl;exact kO R (.flat _ rfl) ((Tryz.strings_IndexByte x.1 x.2 w).mono λe w' hx=>⟨hx.1,by rw[hx.2];exact Below.refl _ _⟩)
theorem CT (n:Nat):aH Tryz.prog ⟨59,[.one .str],[.one (.int .i64),.one (.int .i64)],λx=>qJ n x⟩:=by
 intro x;refine iH.of (λargs w=>iV (fn:=Tryz.f59) (by kernel_rfl) (by kernel_rfl) (by kernel_rfl) args w) ?_;intro F h y h1 hx ι w vs' R hl;cases hx;obtain rfl:=aX.lZ hl rfl;have L:=R.EK w R.mR;exact kO R (two (.flat _ rfl) (.flat _ rfl)) (Oq x w ⟨L.first,L.accept⟩)
theorem Gi (n:Nat):aH Tryz.prog ⟨125,[.one (.int .i64)],[.one .str],λx=>strconv_Itoa n x⟩:=by
 intro x;refine iH.of (λargs w=>iV (fn:=Tryz.f125) (by kernel_rfl) (by kernel_rfl) (by kernel_rfl) args w) ?_;intro F h y h1 hx ι w vs' R hl;obtain rfl:=aX.lZ hl rfl;have hx:strconv_Itoa n x h=some (y,h1):=hx;unfold strconv_Itoa at hx;split at hx
 .rename_i hc;cases hx;have htab:=Yf (R.EK w R.mR);exact kO R (.flat _ rfl) ((Tryz.strconv_Itoa x hc.1 hc.2 w htab).mono λe w' hx=>⟨hx.1,by
   obtain⟨_,k,os,rfl⟩:=hx;exact Lib.below_grow _ _ (aa2 _) _ _⟩)
 .simp[AS] at hx
theorem Eb (n:Nat):aH Tryz.prog ⟨164,[.one .str,.one (.int .i64)],[.one .str],λx=>strings_Repeat n x.1 x.2⟩:=by
 intro x;refine iH.of (λargs w=>iV (fn:=Tryz.f164) (by kernel_rfl) (by kernel_rfl) (by kernel_rfl) args w) ?_;intro F h y h1 hx ι w vs' R hl;obtain rfl:=aX.lZ hl rfl;obtain⟨m,hm,h2,h3,rfl,rfl⟩:=Yg (n:=n) hx;have e:x=(x.1,(m:Int)):=by rw[<-hm]
 rw[e];exact kO R (.flat _ rfl) ((Tryz.strings_Repeat x.1 m w (by omega) h3).mono λe w' hx=>⟨hx.1,hx.2⟩)
theorem AH (n:Nat):aH Tryz.prog ⟨140,[.one .str,.one .str],[.one .str],λx=>gZ n x.1 x.2⟩:=by
 intro x;refine iH.of (λargs w=>iV (fn:=Tryz.f140) (by kernel_rfl) (by kernel_rfl) (by kernel_rfl) args w) ?_;intro F h y h1 hx ι w vs' R hl;obtain rfl:=aX.lZ hl rfl;obtain⟨c,hm,h2,h3,rfl,rfl⟩:=acz (n:=n) hx;have e:x=(x.1,(⟨#[c]⟩:ζ)):=by rw[<-hm]
 rw[e];exact kO R (.flat _ rfl) ((Tryz.strings_TrimRight_one x.1 c h2 w h3).mono λe w' hx=>⟨hx.1,by rw[hx.2];exact Below.refl _ _⟩)
theorem zY (n:Nat):aH Tryz.prog ⟨91,[.one .str,.one .str],[.one .str],λx=>strings_TrimPrefix n x.1 x.2⟩:=by
 intro x;refine iH.of (λargs w=>iV (fn:=Tryz.f91) (by kernel_rfl) (by kernel_rfl) (by kernel_rfl) args w) ?_;intro F h y h1 hx ι w vs' R hl;cases hx;obtain rfl:=aX.lZ hl rfl;exact kO R (.flat _ rfl) ((Tryz.strings_TrimPrefix x.1 x.2 w).mono λe w' hx=>⟨hx.1,by rw[hx.2];exact Below.refl _ _⟩)
theorem AJ (n:Nat):aH Tryz.prog ⟨96,[.one .str,.one .str],[.one .str,.one .bool],λx=>strings_CutPrefix n x.1 x.2⟩:=by
 intro x;refine iH.of (λargs w=>iV (fn:=Tryz.f96) (by kernel_rfl) (by kernel_rfl) (by kernel_rfl) args w) ?_;intro F h y h1 hx ι w vs' R hl;cases hx;obtain rfl:=aX.lZ hl rfl;exact kO R (two (.flat _ rfl) (.flat _ rfl)) ((Tryz.strings_CutPrefix x.1 x.2 w).mono λe w' hx=>⟨hx.1,by rw[hx.2];exact Below.refl _ _⟩)
theorem yX (n:Nat):aH Tryz.prog ⟨155,[.one .str,.one .str],[.one (.int .i64)],λx=>jF n x.1 x.2⟩:=by
 intro x;refine iH.of (λargs w=>iV (fn:=Tryz.f155) (by kernel_rfl) (by kernel_rfl) (by kernel_rfl) args w) ?_;intro F h y h1 hx ι w vs' R hl;obtain rfl:=aX.lZ hl rfl;obtain⟨c,hm,rfl,rfl⟩:=acA (n:=n) hx;have e:x=(x.1,(⟨#[c]⟩:ζ)):=by rw[<-hm]
 rw[e];exact kO R (.flat _ rfl) ((Tryz.stringslite_Index_one x.1 c w).mono λe w' hx=>⟨hx.1,by rw[hx.2];exact Below.refl _ _⟩)
theorem CU (n:Nat):aH Tryz.prog ⟨86,[.one (.int .u64)],[.one (.int .i64)],λx=>gf n x⟩:=by
 intro x;refine iH.of (λargs w=>iV (fn:=Tryz.f86) (by kernel_rfl) (by kernel_rfl) (by kernel_rfl) args w) ?_;intro F h y h1 hx ι w vs' R hl;obtain rfl:=aX.lZ hl rfl;have hx:gf n x h=some (y,h1):=hx;unfold gf at hx;split at hx
 .rename_i hc;cases hx;exact kO R (.flat _ rfl) ((Tryz.bits_Len64 x w hc.1 hc.2).mono λe w' hx=>⟨hx.1,by rw[hx.2];exact Below.refl _ _⟩)
 .simp[AS] at hx
def GR {F:Fz}{ι:gX}{h h1:aj}{w:World}{f:FuncId}{vs:ξ}{v:Int}{k:IntKind}{ev:ο}{nm s:ζ}{y:Int×ο}(R:Rel Tryz.prog F ι h w)(hx:zX v h=some (y,h1))
  (hc:Calls Tryz.prog f vs w λe w'=>∃N,e=.returned (.tuple #[.int k v,.iface tD (.pointer (some ⟨N,0,none⟩))])/\w.heap.size<=N/\w'.heap[N]?=some (.cells #[.string nm,.string s,ev] CQ (0,0))/\Below w.heap.size w w') :
  Calls Tryz.prog f vs w λe w'=>∃v' ι',e=.returned v'/\aM Tryz.prog ι' (.tuple #[.int k y.1,y.2]) v'/\Rel Tryz.prog F ι' h1 w'/\ι.le ι':=by
 simp only[zX,sh,opq,AI,abH,amn] at hx;obtain⟨rfl,rfl⟩:=hx;refine hc.mono λe w' hx=>?_;obtain⟨N,rfl,hN,hw,hb⟩:=hx;obtain⟨ι',q1,q2,q3⟩:=(R.below hb).opq hw;exact⟨_,ι',rfl,two (.flat _ rfl) (.iface _ _ _ (.ptr _ _ ⟨rfl,rfl,_,q2,rfl,rfl⟩)),q3,q1⟩
theorem strconv_Atoi_ok (n:Nat):aH Tryz.prog ⟨90,[.one .str],[.one (.int .i64),.one .raw],λx=>strconv_Atoi n x⟩:=by
 intro x;refine iH.of (λargs w=>iV (fn:=Tryz.f90) (by kernel_rfl) (by kernel_rfl) (by kernel_rfl) args w) ?_;intro F h y h1 hx ι w vs' R hl;obtain rfl:=aX.lZ hl rfl;have L:=R.EK w R.mR;obtain⟨hc,hv⟩:=acB (n:=n) hx;rcases hv with⟨v,hv,rfl,rfl⟩|⟨hv,hx⟩|⟨hv,hx⟩
 .refine (Tryz.strconv_Atoi_ok x (by have:ByteArray.size x<=281474976710656:=hc;omega) _ hv w).mono λe w' hx=>?_;obtain⟨rfl,hw⟩:=hx;refine⟨_,ι,rfl,two (.flat _ rfl) (.flat _ rfl),?_,.refl _⟩;rcases hw with rfl|⟨t,rfl⟩
  .exact R
  .exact R.below (Lib.bytesWorld_below _ _ _)
 .obtain⟨ev,e1,e2⟩:=L.agx;exact GR R hx (Tryz.strconv_Atoi_syntax x hc hv ev w e1 e2)
 .obtain⟨ev,e1,e2⟩:=L.agy;exact GR R hx (Tryz.strconv_Atoi_range x hc hv ev w e1 e2)
theorem AK (n:Nat):aH Tryz.prog ⟨100,[.one .str,.one (.int .i64),.one (.int .i64)],[.one (.int .u64),.one .raw],λx=>fP n x.1 x.2.1 x.2.2⟩:=by
 intro x;refine iH.of (λargs w=>iV (fn:=Tryz.f100) (by kernel_rfl) (by kernel_rfl) (by kernel_rfl) args w) ?_;intro F h y h1 hx ι w vs' R hl;obtain rfl:=aX.lZ hl rfl;have L:=R.EK w R.mR;obtain⟨⟨hc,hb,hd⟩,hv⟩:=acC (n:=n) hx;have e:x=(x.1,(10:Int),(64:Int)):=by rw[<-hb,<-hd]
 rw[e];rcases hv with⟨v,hv,rfl,rfl⟩|⟨hv,hx⟩|⟨hv,hx⟩
 .refine (Tryz.strconv_ParseUint_10_at64_ok x.1 (by have:ByteArray.size x.1<=281474976710656:=hc;omega) _ hv w).mono λe w' hx=>?_;obtain⟨rfl,hw⟩:=hx;refine⟨_,ι,rfl,two (.flat _ rfl) (.flat _ rfl),?_,.refl _⟩;rcases hw with rfl|rfl
  .exact R
  .exact R.below (Lib.bytesWorld_below _ _ _)
 .obtain⟨ev,e1,e2⟩:=L.agx;exact GR R hx (Tryz.strconv_ParseUint_10_at64_syntax x.1 hc hv ev w e1 e2)
 .obtain⟨ev,e1,e2⟩:=L.agy;exact GR R hx (Tryz.strconv_ParseUint_10_at64_range x.1 hc hv ev w e1 e2)
theorem BU (n:Nat):aH Tryz.prog ⟨136,[.one .f64],[.one (.int .u64)],λx=>bX n x⟩:=by
 intro x;refine⟨.inr ?_,λhe=>?_⟩
 .intro F h y h1 hx ι w vs' R hl;cases hx;obtain rfl:=aX.lZ hl rfl;exact⟨.int .u64 ((show Nat from x):Int),w,ι,Ot x w,.flat _ rfl,R,.refl _⟩
 .intro F h y h1 hx ι w vs' R hl;have:=(he #[.float .f64 0] w).symm.trans (Ot 0 w);cases this
theorem yg (n:Nat):aH Tryz.prog ⟨127,[.one (.int .u64)],[.one .f64],λx=>bA n x⟩:=by
 intro x;refine⟨.inr ?_,λhe=>?_⟩
 .intro F h y h1 hx ι w vs' R hl;cases hx;obtain rfl:=aX.lZ hl rfl;exact⟨.float .f64 ((show Int from x).toNat),w,ι,Ou x w,.flat _ rfl,R,.refl _⟩
 .intro F h y h1 hx ι w vs' R hl;have:=(he #[.int .u64 0] w).symm.trans (Ou 0 w);cases this
def Yh {x y:Int}(hx:da n x h=some (y,h1)):(x=0/\y=64/\h1=h)\/(x≠0/\(0<=Sp x/\Sp x<64)/\y=wrap64 (Ld (Sp x).toNat)/\h1=h):=by
 unfold da at hx;split at hx
 .cases hx;exact .inl ⟨‹_›,rfl,rfl⟩
 .split at hx
  .cases hx;exact .inr ⟨‹_›,‹_›,rfl,rfl⟩
  .simp[AS] at hx
theorem uW (n:Nat):aH Tryz.prog ⟨161,[.one (.int .u64)],[.one (.int .i64)],λx=>da n x⟩:=by
 intro x;refine iH.of (λargs w=>iV (fn:=Tryz.f161) (by kernel_rfl) (by kernel_rfl) (by kernel_rfl) args w) ?_;intro F h y h1 hx ι w vs' R hl;obtain rfl:=aX.lZ hl rfl;have L:=R.EK w R.mR;rcases Yh (n:=n) hx with⟨h0,rfl,rfl⟩|⟨h0,h2,rfl,rfl⟩
 .have e:x=(0:Int):=h0;rw[e];exact kO R (.flat _ rfl) ((acy w).mono λe w' hx=>⟨hx.1,by rw[hx.2];exact Below.refl _ _⟩)
 .exact kO R (.flat _ rfl) ((Yd x w h0 h2 L.deb).mono λe w' hx=>⟨hx.1,by rw[hx.2];exact Below.refl _ _⟩)
def acD {u b:Int}{y:ζ}(hx:gE n u b h=some (y,h1)):∃m:Nat,u=m/\m<18446744073709551616/\b=10/\y=⟨(Lib.itoa m).toArray⟩/\h1=h:=by
 unfold gE at hx;split at hx
 .rename_i hc;cases hx;obtain⟨m,rfl⟩:∃m:Nat,u=m:=⟨u.toNat,by omega⟩;exact⟨m,rfl,by omega,hc.2.2,rfl,rfl⟩
 .simp[AS] at hx
theorem yh (n:Nat):aH Tryz.prog ⟨162,[.one (.int .u64),.one (.int .i64)],[.one .str],λx=>gE n x.1 x.2⟩:=by
 intro x;refine iH.of (λargs w=>iV (fn:=Tryz.f162) (by kernel_rfl) (by kernel_rfl) (by kernel_rfl) args w) ?_;intro F h y h1 hx ι w vs' R hl;obtain rfl:=aX.lZ hl rfl;obtain⟨m,hm,h2,h3,rfl,rfl⟩:=acD (n:=n) hx;have e:x=((m:Int),(10:Int)):=by rw[<-hm,<-h3]
 rw[e];exact kO R (.flat _ rfl) (Ye m h2 w (Yf (R.EK w R.mR)))
theorem Sq (p:θ)(w:World):(callFunc 67 #[.pointer p]).run Tryz.prog w=.ok (.value (.pointer p)) w:=by kernel_rfl
theorem Sr (a b:ζ)(w:World):(callFunc 171 #[.string a,.string b]).run Tryz.prog w=.ok (.value (.int .i64 (LN a b))) w:=by kernel_rfl
theorem Ec (n:Nat):aH Tryz.prog ⟨67,[.one .ptr],[.one .ptr],λx=>sd n x⟩:=by
 intro x;refine⟨.inr ?_,λhe=>?_⟩
 .intro F h y h1 hx ι w vs' R hl;cases hx;obtain⟨v',e1,e2⟩:=hl.one;have hvs:vs'=#[v']:=akp (by simpa using e1);subst hvs;obtain⟨p',rfl,hp⟩:=aM.abV (p:=x) e2;exact⟨.pointer p',w,ι,Sq p' w,e2,R,.refl _⟩
 .intro F h y h1 hx ι w vs' R hl;have:=(he #[.pointer none] w).symm.trans (Sq none w);cases this
theorem pP (n:Nat):aH Tryz.prog ⟨171,[.one .str,.one .str],[.one (.int .i64)],λx=>ea n x.1 x.2⟩:=by
 intro x;refine⟨.inr ?_,λhe=>?_⟩
 .intro F h y h1 hx ι w vs' R hl;cases hx;obtain rfl:=aX.lZ hl rfl;exact⟨.int .i64 (LN x.1 x.2),w,ι,Sr x.1 x.2 w,.flat _ rfl,R,.refl _⟩
 .intro F h y h1 hx ι w vs' R hl;have:=(he #[.string .empty,.string .empty] w).symm.trans (Sr .empty .empty w);cases this
end Go.Sh
