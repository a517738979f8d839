
import Derived.Test.YtcdofopdlaebaaaGreatDoorShT
import Derived.Test.YtcdofopdlaebaaaGreatDoorAgoL
import Derived.Test.YtcdofopdlaebaaaGreatDoorTz
import Derived.Test.YtcdofopdlaebaaaGreatDoorFu
namespace Go.Sh
open Go Go.Ago Go.Proofs Go.RowKit
def strings_IndexByte (_:Nat)(s:ByteArray)(c:Int):M Int:=AI (Lib.indexByte s.data.toList c.toNat.toUInt8)
def oM (_:Nat)(s:ByteArray):M (Int×Int):=AI (ZF (sZ s (s.size+1) 0),Ue (sZ s (s.size+1) 0))
def tO (b:UInt8):Bool:=Nat.ble 48 b.toNat&&Nat.ble b.toNat 57
def decFrom (a:Nat)(D:List UInt8):Nat:=D.foldl (λa b=>10*a+(b.toNat-48)) a
def MX (D:List UInt8):Nat:=decFrom 0 D
def u8 (s:ByteArray):Bool:=(sZ s (s.size+1) 0).isNone
def wY (v:Int):M (Int×Value):=sh opq λb=>AI (v,.iface qK (.pointer (some ⟨b,0,none⟩)))
def strconv_Atoi (_:Nat)(s:ByteArray):M (Int×Value):=
 if s.size<=281474976710656 then (match Lib.atoiAll s.data.toList with
  |.ok v=>AI (v,.nilIface)
  | Lib.NumEnd.syntax=>wY 0
  |.range=>wY (Lib.atoiSat s.data.toList))
 else AS
def ft (_:Nat)(s:ByteArray)(base bits:Int):M (Int×Value):=
 if s.size<=281474976710656/\base=10/\bits=64 then (match Lib.parseUintB 64 s.data.toList with
  |.ok v=>AI ((v:Int),.nilIface)
  | Lib.NumEnd.syntax=>wY 0
  |.range=>wY 18446744073709551615)
 else AS
def strconv_Itoa (_:Nat)(n:Int):M ByteArray:=if -9223372036854775808<=n/\n<=9223372036854775807 then AI ⟨(Lib.itoa n).toArray⟩ else AS
def fS (_:Nat)(u:Int)(base:Int):M ByteArray:=if 0<=u/\u<18446744073709551616/\base=10 then AI ⟨(Lib.itoa u).toArray⟩ else AS
def strings_Repeat (_:Nat)(s:ByteArray)(c:Int):M ByteArray:=if 0<=c/\c<=1048576/\s.size<=65536 then AI ⟨(Lib.repeatL s.data.toList c.toNat).toArray⟩ else AS
def gn (_:Nat)(s t:ByteArray):M ByteArray:=match t.data.toList with
 |[c]=>if c.toNat<128/\s.size<=9223372036854775807 then AI ⟨(Lib.trimRightB s.data.toList c).toArray⟩ else AS
 |_=>AS
def strings_TrimPrefix (_:Nat)(s p:ByteArray):M ByteArray:=AI ⟨(Lib.trimPrefix s.data.toList p.data.toList).toArray⟩
def strings_CutPrefix (_:Nat)(s p:ByteArray):M (ByteArray×Bool):=AI (⟨(Lib.trimPrefix s.data.toList p.data.toList).toArray⟩,Lib.hasPrefix s.data.toList p.data.toList)
def iG (_:Nat)(s t:ByteArray):M Int:=match t.data.toList with
 |[c]=>AI (Lib.indexByte s.data.toList c)
 |_=>AS
def fJ (_:Nat)(x:Int):M Int:=if 0<=x/\x<=18446744073709551615 then AI (Lib.bitLen x.toNat) else AS
def cU (_:Nat)(x:Int):M Int:=if x=0 then AI 64 else if 0<=Pf x/\Pf x<64 then AI (wrap64 (Hl (Pf x).toNat)) else AS
def eU (_:Nat)(b:Nat):M Int:=AI (b:Int)
def cY (_:Nat)(n:Int):M Nat:=AI n.toNat
def pO (_:Nat)(p:Option Addr):M (Option Addr):=AI p
def X3 (a b:ByteArray):Int:=Extern.BytealgCompare.cmp a b
def dK (_:Nat)(a b:ByteArray):M Int:=AI (X3 a b)
theorem two {P:Program}{ι:fM}{a b a' b':Value}(ha:aS P ι a a')(hb:aS P ι b b'):aS P ι (.tuple #[a,b]) (.tuple #[a',b']):=.tuple _ _ rfl λi v v' q1 q2=>by
 match i,q1,q2 with
 |0,q1,q2=>cases q1;cases q2;exact ha
 |1,q1,q2=>cases q1;cases q2;exact hb
theorem ad9 {t:ByteArray}{c:UInt8}(h:t.data.toList=[c]):t=⟨#[c]⟩:=by
 obtain⟨⟨l⟩⟩:=t;have h:l=[c]:=h;rw[h]
variable {h h1:af}{n:Nat}
theorem Uh {w : World} (L : mV w) : Lib.TabIs Tryz.prog w "internal/strconv.uint64pow10" .u64 Lib.pow10Tab :=by
 obtain⟨t,fz,hp⟩:=L.pow;show World.var? Tryz.prog w "internal/strconv.uint64pow10" = _
 unfold World.var?;rw[show Tryz.prog.globalNamed "internal/strconv.uint64pow10" = some 7 by kernel_rfl]
 simp only[aeD,hp]
theorem Ui {s:ByteArray}{c:Int}{y:ByteArray}(hx:strings_Repeat n s c h=some (y,h1)):∃m:Nat,c=m/\m<=1048576/\s.size*m<=140737488355328/\y=⟨(Lib.repeatL s.data.toList m).toArray⟩/\h1=h:=by
 unfold strings_Repeat at hx;split at hx
 .rename_i hc;cases hx;obtain⟨m,rfl⟩:∃m:Nat,c=m:=⟨c.toNat,by omega⟩;have hm:s.size*m<=65536*1048576:=afV hc.2.2 (by omega);exact⟨m,rfl,by omega,by omega,rfl,rfl⟩
 .simp[AS] at hx
theorem X4 {s t y:ByteArray}(hx:gn n s t h=some (y,h1)):∃c:UInt8,t=⟨#[c]⟩/\c.toNat<128/\s.size<=9223372036854775807/\y=⟨(Lib.trimRightB s.data.toList c).toArray⟩/\h1=h:=by
 unfold gn at hx;cases e:t.data.toList with
 |nil=>rw[e] at hx;cases hx
 |cons c r=>
  cases r with
  |cons d r=>rw[e] at hx;cases hx
  |nil=>
   rw[e] at hx;have hx:(if c.toNat<128/\s.size<=9223372036854775807 then AI (⟨(Lib.trimRightB s.data.toList c).toArray⟩:ByteArray) else AS) h=some (y,h1):=hx;split at hx
   .rename_i hs;cases hx;exact⟨c,ad9 e,hs.1,hs.2,rfl,rfl⟩
   .simp[AS] at hx
theorem X5 {s t:ByteArray}{y:Int}(hx:iG n s t h=some (y,h1)):∃c:UInt8,t=⟨#[c]⟩/\y=Lib.indexByte s.data.toList c/\h1=h:=by
 unfold iG at hx;cases e:t.data.toList with
 |nil=>rw[e] at hx;cases hx
 |cons c r=>
  cases r with
  |cons d r=>rw[e] at hx;cases hx
  |nil=>rw[e] at hx;cases hx;exact⟨c,ad9 e,rfl,rfl⟩
theorem X6 {s:ByteArray}{y:Int×Value}(hx:strconv_Atoi n s h=some (y,h1)):s.size<=281474976710656/\((∃v,Lib.atoiAll s.data.toList=.ok v/\y=(v,.nilIface)/\h1=h)\/(Lib.atoiAll s.data.toList= Lib.NumEnd.syntax/\wY 0 h=some (y,h1)) \/
  (Lib.atoiAll s.data.toList=.range/\wY (Lib.atoiSat s.data.toList) h=some (y,h1))):=by
 unfold strconv_Atoi at hx;split at hx
 .rename_i hc;refine⟨hc,?_⟩;cases e:Lib.atoiAll s.data.toList with
  |ok v=>rw[e] at hx;cases hx;exact .inl ⟨v,rfl,rfl,rfl⟩
  |range=>rw[e] at hx;exact .inr (.inr ⟨rfl,hx⟩)
  | _=>rw[e] at hx;exact .inr (.inl ⟨rfl,hx⟩)
 .simp[AS] at hx
theorem X7 {s:ByteArray}{b c:Int}{y:Int×Value}(hx:ft n s b c h=some (y,h1)):(s.size<=281474976710656/\b=10/\c=64)/\((∃v:Nat,Lib.parseUintB 64 s.data.toList=.ok v/\y=((v:Int),.nilIface)/\h1=h)\/(Lib.parseUintB 64 s.data.toList= Lib.NumEnd.syntax/\wY 0 h=some (y,h1)) \/
  (Lib.parseUintB 64 s.data.toList=.range/\wY 18446744073709551615 h=some (y,h1))):=by
 unfold ft at hx;split at hx
 .rename_i hc;refine⟨hc,?_⟩;cases e:Lib.parseUintB 64 s.data.toList with
  |ok v=>rw[e] at hx;cases hx;exact .inl ⟨v,rfl,rfl,rfl⟩
  |range=>rw[e] at hx;exact .inr (.inr ⟨rfl,hx⟩)
  | _=>rw[e] at hx;exact .inr (.inl ⟨rfl,hx⟩)
 .simp[AS] at hx
theorem xz (n:Nat):aP Tryz.prog ⟨52,[.one .str,.one (.int .u8)],[.one (.int .i64)],λx=>strings_IndexByte n x.1 x.2⟩:=by
 intro x;refine gF.of (λargs w=>iF (fn:=Tryz.f52) (by kernel_rfl) (by kernel_rfl) (by kernel_rfl) args w) ?_;intro F h y h1 hx ι w vs' R hl;cases hx;obtain rfl:=bA.kH hl rfl;exact jH R (.flat _ rfl) ((Tryz.strings_IndexByte x.1 x.2 w).mono λe w' hx=>⟨hx.1,by rw[hx.2];exact Below.refl _ _⟩)
theorem zK (n:Nat):aP Tryz.prog ⟨30,[.one .str],[.one (.int .i64),.one (.int .i64)],λx=>oM n x⟩:=by
 intro x;refine gF.of (λargs w=>iF (fn:=Tryz.f30) (by kernel_rfl) (by kernel_rfl) (by kernel_rfl) args w) ?_;intro F h y h1 hx ι w vs' R hl;cases hx;obtain rfl:=bA.kH hl rfl;have L:=R.Ei w R.nr;exact jH R (two (.flat _ rfl) (.flat _ rfl)) (Lj x w ⟨L.first,L.accept⟩)
theorem CM (n:Nat):aP Tryz.prog ⟨87,[.one (.int .i64)],[.one .str],λx=>strconv_Itoa n x⟩:=by
 intro x;refine gF.of (λargs w=>iF (fn:=Tryz.f87) (by kernel_rfl) (by kernel_rfl) (by kernel_rfl) args w) ?_;intro F h y h1 hx ι w vs' R hl;obtain rfl:=bA.kH hl rfl;have hx:strconv_Itoa n x h=some (y,h1):=hx;unfold strconv_Itoa at hx;split at hx
 .rename_i hc;cases hx;have htab:=Uh (R.Ei w R.nr);exact jH R (.flat _ rfl) ((Tryz.strconv_Itoa x hc.1 hc.2 w htab).mono λe w' hx=>⟨hx.1,by
   obtain⟨_,k,os,rfl⟩:=hx;exact Lib.below_grow _ _ (aaR _) _ _⟩)
 .simp[AS] at hx
theorem AP (n:Nat):aP Tryz.prog ⟨131,[.one .str,.one (.int .i64)],[.one .str],λx=>strings_Repeat n x.1 x.2⟩:=by
 intro x;refine gF.of (λargs w=>iF (fn:=Tryz.f131) (by kernel_rfl) (by kernel_rfl) (by kernel_rfl) args w) ?_;intro F h y h1 hx ι w vs' R hl;obtain rfl:=bA.kH hl rfl;obtain⟨m,hm,h2,h3,rfl,rfl⟩:=Ui (n:=n) hx;have e:x=(x.1,(m:Int)):=by rw[<-hm]
 rw[e];exact jH R (.flat _ rfl) ((Tryz.strings_Repeat x.1 m w (by omega) h3).mono λe w' hx=>⟨hx.1,hx.2⟩)
theorem xA (n:Nat):aP Tryz.prog ⟨103,[.one .str,.one .str],[.one .str],λx=>gn n x.1 x.2⟩:=by
 intro x;refine gF.of (λargs w=>iF (fn:=Tryz.f103) (by kernel_rfl) (by kernel_rfl) (by kernel_rfl) args w) ?_;intro F h y h1 hx ι w vs' R hl;obtain rfl:=bA.kH hl rfl;obtain⟨c,hm,h2,h3,rfl,rfl⟩:=X4 (n:=n) hx;have e:x=(x.1,(⟨#[c]⟩:ByteArray)):=by rw[<-hm]
 rw[e];exact jH R (.flat _ rfl) ((Tryz.strings_TrimRight_one x.1 c h2 w h3).mono λe w' hx=>⟨hx.1,by rw[hx.2];exact Below.refl _ _⟩)
theorem wZ (n:Nat):aP Tryz.prog ⟨54,[.one .str,.one .str],[.one .str],λx=>strings_TrimPrefix n x.1 x.2⟩:=by
 intro x;refine gF.of (λargs w=>iF (fn:=Tryz.f54) (by kernel_rfl) (by kernel_rfl) (by kernel_rfl) args w) ?_;intro F h y h1 hx ι w vs' R hl;cases hx;obtain rfl:=bA.kH hl rfl;exact jH R (.flat _ rfl) ((Tryz.strings_TrimPrefix x.1 x.2 w).mono λe w' hx=>⟨hx.1,by rw[hx.2];exact Below.refl _ _⟩)
theorem xB (n:Nat):aP Tryz.prog ⟨59,[.one .str,.one .str],[.one .str,.one .bool],λx=>strings_CutPrefix n x.1 x.2⟩:=by
 intro x;refine gF.of (λargs w=>iF (fn:=Tryz.f59) (by kernel_rfl) (by kernel_rfl) (by kernel_rfl) args w) ?_;intro F h y h1 hx ι w vs' R hl;cases hx;obtain rfl:=bA.kH hl rfl;exact jH R (two (.flat _ rfl) (.flat _ rfl)) ((Tryz.strings_CutPrefix x.1 x.2 w).mono λe w' hx=>⟨hx.1,by rw[hx.2];exact Below.refl _ _⟩)
theorem vY (n:Nat):aP Tryz.prog ⟨122,[.one .str,.one .str],[.one (.int .i64)],λx=>iG n x.1 x.2⟩:=by
 intro x;refine gF.of (λargs w=>iF (fn:=Tryz.f122) (by kernel_rfl) (by kernel_rfl) (by kernel_rfl) args w) ?_;intro F h y h1 hx ι w vs' R hl;obtain rfl:=bA.kH hl rfl;obtain⟨c,hm,rfl,rfl⟩:=X5 (n:=n) hx;have e:x=(x.1,(⟨#[c]⟩:ByteArray)):=by rw[<-hm]
 rw[e];exact jH R (.flat _ rfl) ((Tryz.stringslite_Index_one x.1 c w).mono λe w' hx=>⟨hx.1,by rw[hx.2];exact Below.refl _ _⟩)
theorem zL (n:Nat):aP Tryz.prog ⟨92,[.one (.int .u64)],[.one (.int .i64)],λx=>fJ n x⟩:=by
 intro x;refine gF.of (λargs w=>iF (fn:=Tryz.f92) (by kernel_rfl) (by kernel_rfl) (by kernel_rfl) args w) ?_;intro F h y h1 hx ι w vs' R hl;obtain rfl:=bA.kH hl rfl;have hx:fJ n x h=some (y,h1):=hx;unfold fJ at hx;split at hx
 .rename_i hc;cases hx;exact jH R (.flat _ rfl) ((Tryz.bits_Len64 x w hc.1 hc.2).mono λe w' hx=>⟨hx.1,by rw[hx.2];exact Below.refl _ _⟩)
 .simp[AS] at hx
theorem Dp {F:Fz}{ι:fM}{h h1:af}{w:World}{f:FuncId}{vs:Array Value}{v:Int}{k:IntKind}{ev:Value}{nm s:ByteArray}{y:Int×Value}(R:Rel Tryz.prog F ι h w)(hx:wY v h=some (y,h1))
  (hc:Calls Tryz.prog f vs w λe w'=>∃N,e=.returned (.tuple #[.int k v,.iface qK (.pointer (some ⟨N,0,none⟩))])/\w.heap.size<=N/\w'.heap[N]?=some (.cells #[.string nm,.string s,ev] zI (0,0))/\Below w.heap.size w w') :
  Calls Tryz.prog f vs w λe w'=>∃v' ι',e=.returned v'/\aS Tryz.prog ι' (.tuple #[.int k y.1,y.2]) v'/\Rel Tryz.prog F ι' h1 w'/\ι.le ι':=by
 simp only[wY,sh,opq,AI,aaM,aez] at hx;obtain⟨rfl,rfl⟩:=hx;refine hc.mono λe w' hx=>?_;obtain⟨N,rfl,hN,hw,hb⟩:=hx;obtain⟨ι',q1,q2,q3⟩:=(R.below hb).opq hw;exact⟨_,ι',rfl,two (.flat _ rfl) (.iface _ _ _ (.ptr _ _ ⟨rfl,rfl,_,q2,rfl,rfl⟩)),q3,q1⟩
theorem strconv_Atoi_ok (n:Nat):aP Tryz.prog ⟨53,[.one .str],[.one (.int .i64),.one .raw],λx=>strconv_Atoi n x⟩:=by
 intro x;refine gF.of (λargs w=>iF (fn:=Tryz.f53) (by kernel_rfl) (by kernel_rfl) (by kernel_rfl) args w) ?_;intro F h y h1 hx ι w vs' R hl;obtain rfl:=bA.kH hl rfl;have L:=R.Ei w R.nr;obtain⟨hc,hv⟩:=X6 (n:=n) hx;rcases hv with⟨v,hv,rfl,rfl⟩|⟨hv,hx⟩|⟨hv,hx⟩
 .refine (Tryz.strconv_Atoi_ok x (by have:ByteArray.size x<=281474976710656:=hc;omega) _ hv w).mono λe w' hx=>?_;obtain⟨rfl,hw⟩:=hx;refine⟨_,ι,rfl,two (.flat _ rfl) (.flat _ rfl),?_,.refl _⟩;rcases hw with rfl|⟨t,rfl⟩
  .exact R
  .exact R.below (Lib.bytesWorld_below _ _ _)
 .obtain⟨ev,e1,e2⟩:=L.aa3;exact Dp R hx (Tryz.strconv_Atoi_syntax x hc hv ev w e1 e2)
 .obtain⟨ev,e1,e2⟩:=L.aa4;exact Dp R hx (Tryz.strconv_Atoi_range x hc hv ev w e1 e2)
theorem xC (n:Nat):aP Tryz.prog ⟨63,[.one .str,.one (.int .i64),.one (.int .i64)],[.one (.int .u64),.one .raw],λx=>ft n x.1 x.2.1 x.2.2⟩:=by
 intro x;refine gF.of (λargs w=>iF (fn:=Tryz.f63) (by kernel_rfl) (by kernel_rfl) (by kernel_rfl) args w) ?_;intro F h y h1 hx ι w vs' R hl;obtain rfl:=bA.kH hl rfl;have L:=R.Ei w R.nr;obtain⟨⟨hc,hb,hd⟩,hv⟩:=X7 (n:=n) hx;have e:x=(x.1,(10:Int),(64:Int)):=by rw[<-hb,<-hd]
 rw[e];rcases hv with⟨v,hv,rfl,rfl⟩|⟨hv,hx⟩|⟨hv,hx⟩
 .refine (Tryz.strconv_ParseUint_10_at64_ok x.1 (by have:ByteArray.size x.1<=281474976710656:=hc;omega) _ hv w).mono λe w' hx=>?_;obtain⟨rfl,hw⟩:=hx;refine⟨_,ι,rfl,two (.flat _ rfl) (.flat _ rfl),?_,.refl _⟩;rcases hw with rfl|rfl
  .exact R
  .exact R.below (Lib.bytesWorld_below _ _ _)
 .obtain⟨ev,e1,e2⟩:=L.aa3;exact Dp R hx (Tryz.strconv_ParseUint_10_at64_syntax x.1 hc hv ev w e1 e2)
 .obtain⟨ev,e1,e2⟩:=L.aa4;exact Dp R hx (Tryz.strconv_ParseUint_10_at64_range x.1 hc hv ev w e1 e2)
theorem yL (n:Nat):aP Tryz.prog ⟨99,[.one .f64],[.one (.int .u64)],λx=>eU n x⟩:=by
 intro x;refine⟨.inr ?_,λhe=>?_⟩
 .intro F h y h1 hx ι w vs' R hl;cases hx;obtain rfl:=bA.kH hl rfl;exact⟨.int .u64 ((show Nat from x):Int),w,ι,Lk x w,.flat _ rfl,R,.refl _⟩
 .intro F h y h1 hx ι w vs' R hl;have:=(he #[.float .f64 0] w).symm.trans (Lk 0 w);cases this
theorem vm (n:Nat):aP Tryz.prog ⟨89,[.one (.int .u64)],[.one .f64],λx=>cY n x⟩:=by
 intro x;refine⟨.inr ?_,λhe=>?_⟩
 .intro F h y h1 hx ι w vs' R hl;cases hx;obtain rfl:=bA.kH hl rfl;exact⟨.float .f64 ((show Int from x).toNat),w,ι,Ll x w,.flat _ rfl,R,.refl _⟩
 .intro F h y h1 hx ι w vs' R hl;have:=(he #[.int .u64 0] w).symm.trans (Ll 0 w);cases this
theorem Uj {x y:Int}(hx:cU n x h=some (y,h1)):(x=0/\y=64/\h1=h)\/(x≠0/\(0<=Pf x/\Pf x<64)/\y=wrap64 (Hl (Pf x).toNat)/\h1=h):=by
 unfold cU at hx;split at hx
 .cases hx;exact .inl ⟨‹_›,rfl,rfl⟩
 .split at hx
  .cases hx;exact .inr ⟨‹_›,‹_›,rfl,rfl⟩
  .simp[AS] at hx
theorem sA (n:Nat):aP Tryz.prog ⟨128,[.one (.int .u64)],[.one (.int .i64)],λx=>cU n x⟩:=by
 intro x;refine gF.of (λargs w=>iF (fn:=Tryz.f128) (by kernel_rfl) (by kernel_rfl) (by kernel_rfl) args w) ?_;intro F h y h1 hx ι w vs' R hl;obtain rfl:=bA.kH hl rfl;have L:=R.Ei w R.nr;rcases Uj (n:=n) hx with⟨h0,rfl,rfl⟩|⟨h0,h2,rfl,rfl⟩
 .have e:x=(0:Int):=h0;rw[e];exact jH R (.flat _ rfl) ((X1 w).mono λe w' hx=>⟨hx.1,by rw[hx.2];exact Below.refl _ _⟩)
 .exact jH R (.flat _ rfl) ((Uf x w h0 h2 L.deb).mono λe w' hx=>⟨hx.1,by rw[hx.2];exact Below.refl _ _⟩)
theorem X8 {u b:Int}{y:ByteArray}(hx:fS n u b h=some (y,h1)):∃m:Nat,u=m/\m<18446744073709551616/\b=10/\y=⟨(Lib.itoa m).toArray⟩/\h1=h:=by
 unfold fS at hx;split at hx
 .rename_i hc;cases hx;obtain⟨m,rfl⟩:∃m:Nat,u=m:=⟨u.toNat,by omega⟩;exact⟨m,rfl,by omega,hc.2.2,rfl,rfl⟩
 .simp[AS] at hx
theorem vn (n:Nat):aP Tryz.prog ⟨129,[.one (.int .u64),.one (.int .i64)],[.one .str],λx=>fS n x.1 x.2⟩:=by
 intro x;refine gF.of (λargs w=>iF (fn:=Tryz.f129) (by kernel_rfl) (by kernel_rfl) (by kernel_rfl) args w) ?_;intro F h y h1 hx ι w vs' R hl;obtain rfl:=bA.kH hl rfl;obtain⟨m,hm,h2,h3,rfl,rfl⟩:=X8 (n:=n) hx;have e:x=((m:Int),(10:Int)):=by rw[<-hm,<-h3]
 rw[e];exact jH R (.flat _ rfl) (Ug m h2 w (Uh (R.Ei w R.nr)))
theorem Pg (p:Option Addr)(w:World):(callFunc 174 #[.pointer p]).run Tryz.prog w=.ok (.value (.pointer p)) w:=by kernel_rfl
theorem Ph (a b:ByteArray)(w:World):(callFunc 194 #[.string a,.string b]).run Tryz.prog w=.ok (.value (.int .i64 (X3 a b))) w:=by kernel_rfl
theorem AQ (n:Nat):aP Tryz.prog ⟨174,[.one .ptr],[.one .ptr],λx=>pO n x⟩:=by
 intro x;refine⟨.inr ?_,λhe=>?_⟩
 .intro F h y h1 hx ι w vs' R hl;cases hx;obtain⟨v',e1,e2⟩:=hl.one;have hvs:vs'=#[v']:=adI (by simpa using e1);subst hvs;obtain⟨p',rfl,hp⟩:=aS.Xs (p:=x) e2;exact⟨.pointer p',w,ι,Pg p' w,e2,R,.refl _⟩
 .intro F h y h1 hx ι w vs' R hl;have:=(he #[.pointer none] w).symm.trans (Pg none w);cases this
theorem nQ (n:Nat):aP Tryz.prog ⟨194,[.one .str,.one .str],[.one (.int .i64)],λx=>dK n x.1 x.2⟩:=by
 intro x;refine⟨.inr ?_,λhe=>?_⟩
 .intro F h y h1 hx ι w vs' R hl;cases hx;obtain rfl:=bA.kH hl rfl;exact⟨.int .i64 (X3 x.1 x.2),w,ι,Ph x.1 x.2 w,.flat _ rfl,R,.refl _⟩
 .intro F h y h1 hx ι w vs' R hl;have:=(he #[.string .empty,.string .empty] w).symm.trans (Ph .empty .empty w);cases this
end Go.Sh
