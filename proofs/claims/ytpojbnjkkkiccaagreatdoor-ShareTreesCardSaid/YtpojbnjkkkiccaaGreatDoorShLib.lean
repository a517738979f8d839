
import Derived.Test.YtpojbnjkkkiccaaGreatDoorShT
import Derived.Test.YtpojbnjkkkiccaaGreatDoorAgoL
import Derived.Test.YtpojbnjkkkiccaaGreatDoorTz
import Derived.Test.YtpojbnjkkkiccaaGreatDoorFu
set_option linter.all false
namespace Go.Sh
open Go Go.Ago Go.Proofs Go.RowKit
def strings_IndexByte (_:Nat)(s:ζ)(c:Int):M Int:=AI (Lib.indexByte s.data.toList c.toNat.toUInt8)
def rD (_:Nat)(s:ζ):M (Int×Int):=AI (agu (wE s (s.size+1) 0),Zs (wE s (s.size+1) 0))
def pP (b:UInt8):Bool:=Nat.ble 48 b.toNat&&Nat.ble b.toNat 57
def decFrom (a:Nat)(D:List UInt8):Nat:=D.foldl (λa b=>10*a+(b.toNat-48)) a
def RN (D:List UInt8):Nat:=decFrom 0 D
def u8 (s:ζ):Bool:=(wE s (s.size+1) 0).isNone
def A0 (v:Int):M (Int×ξ):=sh opq λb=>AI (v,.iface uu (.pointer (some ⟨b,0,none⟩)))
def strconv_Atoi (_:Nat)(s:ζ):M (Int×ξ):=
 if s.size<=281474976710656 then (match Lib.atoiAll s.data.toList with
  |.ok v=>AI (v,.nilIface)
  |  Lib.NumEnd.syntax=>A0 0
  |.range=>A0 (Lib.atoiSat s.data.toList))
 else AS
def fF (_:Nat)(s:ζ)(base bits:Int):M (Int×ξ):=
 if s.size<=281474976710656/\base=10/\bits=64 then (match Lib.parseUintB 64 s.data.toList with
  |.ok v=>AI ((v:Int),.nilIface)
  |  Lib.NumEnd.syntax=>A0 0
  |.range=>A0 18446744073709551615)
 else AS
def strconv_Itoa (_:Nat)(n:Int):M ζ:=if -9223372036854775808<=n/\n<=9223372036854775807 then AI ⟨(Lib.itoa n).toArray⟩ else AS
def gm (_:Nat)(u:Int)(base:Int):M ζ:=if 0<=u/\u<18446744073709551616/\base=10 then AI ⟨(Lib.itoa u).toArray⟩ else AS
def strings_Repeat (_:Nat)(s:ζ)(c:Int):M ζ:=if 0<=c/\c<=1048576/\s.size<=65536 then AI ⟨(Lib.repeatL s.data.toList c.toNat).toArray⟩ else AS
def gQ (_:Nat)(s t:ζ):M ζ:=match t.data.toList with
 |[c]=>if c.toNat<128/\s.size<=9223372036854775807 then AI ⟨(Lib.trimRightB s.data.toList c).toArray⟩ else AS
 |_=>AS
def strings_TrimPrefix (_:Nat)(s p:ζ):M ζ:=AI ⟨(Lib.trimPrefix s.data.toList p.data.toList).toArray⟩
def strings_CutPrefix (_:Nat)(s p:ζ):M (ζ×Bool):=AI (⟨(Lib.trimPrefix s.data.toList p.data.toList).toArray⟩,Lib.hasPrefix s.data.toList p.data.toList)
def jB (_:Nat)(s t:ζ):M Int:=match t.data.toList with
 |[c]=>AI (Lib.indexByte s.data.toList c)
 |_=>AS
def fQ (_:Nat)(x:Int):M Int:=if 0<=x/\x<=18446744073709551615 then AI (Lib.bitLen x.toNat) else AS
def db (_:Nat)(x:Int):M Int:=if x=0 then AI 64 else if 0<=Uh x/\Uh x<64 then AI (wrap64 (M5 (Uh x).toNat)) else AS
def bW (_:Nat)(b:Nat):M Int:=AI (b:Int)
def bC (_:Nat)(n:Int):M Nat:=AI n.toNat
def xl (_:Nat)(p:θ):M θ:=AI p
def Nz (a b:ζ):Int:=Extern.BytealgCompare.cmp a b
def eh (_:Nat)(a b:ζ):M Int:=AI (Nz a b)
def two {P:Program}{ι:gO}{a b a' b':ξ}(ha:aN P ι a a')(hb:aN P ι b b'):aN P ι (.tuple #[a,b]) (.tuple #[a',b']):=.tuple _ _ rfl λi v v' q1 q2=>by
 match i,q1,q2 with
 |0,q1,q2=>cases q1;cases q2;exact ha
 |1,q1,q2=>cases q1;cases q2;exact hb
def amw {t:ζ}{c:UInt8}(h:t.data.toList=[c]):t=⟨#[c]⟩:=by
 obtain⟨⟨l⟩⟩:=t;have h:l=[c]:=h;rw[h]
variable {h h1:ai}{n:Nat}
def Zv {w : World} (L : lr w) : Lib.TabIs Tryz.prog w "internal/strconv.uint64pow10" .u64 Lib.pow10Tab :=by
 obtain⟨t,fz,hp⟩:=L.pow;show World.var? Tryz.prog w "internal/strconv.uint64pow10" = _
 unfold World.var?;rw[show Tryz.prog.globalNamed "internal/strconv.uint64pow10" = some 7 by kernel_rfl]
 simp only[anQ,hp]
def Zw {s:ζ}{c:Int}{y:ζ}(hx:strings_Repeat n s c h=some (y,h1)):∃m:Nat,c=m/\m<=1048576/\s.size*m<=140737488355328/\y=⟨(Lib.repeatL s.data.toList m).toArray⟩/\h1=h:=by
 unfold strings_Repeat at hx;split at hx
 .rename_i hc;cases hx;obtain⟨m,rfl⟩:∃m:Nat,c=m:=⟨c.toNat,by omega⟩;have hm:s.size*m<=65536*1048576:=aor hc.2.2 (by omega);exact⟨m,rfl,by omega,by omega,rfl,rfl⟩
 .simp[AS] at hx
def adO {s t y:ζ}(hx:gQ n s t h=some (y,h1)):∃c:UInt8,t=⟨#[c]⟩/\c.toNat<128/\s.size<=9223372036854775807/\y=⟨(Lib.trimRightB s.data.toList c).toArray⟩/\h1=h:=by
 unfold gQ at hx;cases e:t.data.toList with
 |nil=>rw[e] at hx;cases hx
 |cons c r=>
  cases r with
  |cons d r=>rw[e] at hx;cases hx
  |nil=>
   rw[e] at hx;have hx:(if c.toNat<128/\s.size<=9223372036854775807 then AI (⟨(Lib.trimRightB s.data.toList c).toArray⟩:ζ) else AS) h=some (y,h1):=hx;split at hx
   .rename_i hs;cases hx;exact⟨c,amw e,hs.1,hs.2,rfl,rfl⟩
   .simp[AS] at hx
def adP {s t}{y}(hx:jB n s t h=some (y,h1)):∃c:UInt8,t=⟨#[c]⟩/\y=Lib.indexByte s.data.toList c/\h1=h:=by
 unfold jB at hx;cases e:t.data.toList with
 |nil=>rw[e] at hx;cases hx
 |cons c r=>
  cases r with
  |cons d r=>rw[e] at hx;cases hx
  |nil=>rw[e] at hx;cases hx;exact⟨c,amw e,rfl,rfl⟩
def adQ {s:ζ}{y:Int×ξ}(hx:strconv_Atoi n s h=some (y,h1)):s.size<=281474976710656/\((∃v,Lib.atoiAll s.data.toList=.ok v/\y=(v,.nilIface)/\h1=h)\/(Lib.atoiAll s.data.toList= Lib.NumEnd.syntax/\A0 0 h=some (y,h1)) \/
  (Lib.atoiAll s.data.toList=.range/\A0 (Lib.atoiSat s.data.toList) h=some (y,h1))):=by
 unfold strconv_Atoi at hx;split at hx
 .rename_i hc;refine⟨hc,?_⟩;cases e:Lib.atoiAll s.data.toList with
  |ok v=>rw[e] at hx;cases hx;exact .inl ⟨v,rfl,rfl,rfl⟩
  |range=>rw[e] at hx;exact .inr (.inr ⟨rfl,hx⟩)
  |_=>rw[e] at hx;exact .inr (.inl ⟨rfl,hx⟩)
 .simp[AS] at hx
def adR {s:ζ}{b c:Int}{y:Int×ξ}(hx:fF n s b c h=some (y,h1)):(s.size<=281474976710656/\b=10/\c=64)/\((∃v:Nat,Lib.parseUintB 64 s.data.toList=.ok v/\y=((v:Int),.nilIface)/\h1=h)\/(Lib.parseUintB 64 s.data.toList= Lib.NumEnd.syntax/\A0 0 h=some (y,h1)) \/
  (Lib.parseUintB 64 s.data.toList=.range/\A0 18446744073709551615 h=some (y,h1))):=by
 unfold fF at hx;split at hx
 .rename_i hc;refine⟨hc,?_⟩;cases e:Lib.parseUintB 64 s.data.toList with
  |ok v=>rw[e] at hx;cases hx;exact .inl ⟨v,rfl,rfl,rfl⟩
  |range=>rw[e] at hx;exact .inr (.inr ⟨rfl,hx⟩)
  |_=>rw[e] at hx;exact .inr (.inl ⟨rfl,hx⟩)
 .simp[AS] at hx
theorem BI (n:Nat):aC Tryz.prog ⟨83,[.one .str,.one (.int .u8)],[.one (.int .i64)],λx=>strings_IndexByte n x.1 x.2⟩:=by
 intro x;refine iw.of (λargs w=>iN (fn:=Tryz.f83) (by kernel_rfl) (by kernel_rfl) (by kernel_rfl) args w) ?_;intro F h y h1 hx ι w vs' R hl;cases hx;obtain rfl:=aW.mw hl rfl;exact kY R (.flat _ rfl) ((Tryz.strings_IndexByte x.1 x.2 w).mono λe w' hx=>⟨hx.1,by rw[hx.2];exact Below.refl _ _⟩)
theorem Et (n:Nat):aC Tryz.prog ⟨53,[.one .str],[.one (.int .i64),.one (.int .i64)],λx=>rD n x⟩:=by
 intro x;refine iw.of (λargs w=>iN (fn:=Tryz.f53) (by kernel_rfl) (by kernel_rfl) (by kernel_rfl) args w) ?_;intro F h y h1 hx ι w vs' R hl;cases hx;obtain rfl:=aW.mw hl rfl;have L:=R.GL w R.lA;exact kY R (two (.flat _ rfl) (.flat _ rfl)) (PX x w ⟨L.first,L.accept⟩)
theorem Ia (n:Nat):aC Tryz.prog ⟨123,[.one (.int .i64)],[.one .str],λx=>strconv_Itoa n x⟩:=by
 intro x;refine iw.of (λargs w=>iN (fn:=Tryz.f123) (by kernel_rfl) (by kernel_rfl) (by kernel_rfl) args w) ?_;intro F h y h1 hx ι w vs' R hl;obtain rfl:=aW.mw hl rfl;have hx:strconv_Itoa n x h=some (y,h1):=hx;unfold strconv_Itoa at hx;split at hx
 .rename_i hc;cases hx;have htab:=Zv (R.GL w R.lA);exact kY R (.flat _ rfl) ((Tryz.strconv_Itoa x hc.1 hc.2 w htab).mono λe w' hx=>⟨hx.1,by
   obtain⟨_,k,os,rfl⟩:=hx;exact Lib.below_grow _ _ (abi _) _ _⟩)
 .simp[AS] at hx
theorem FN (n:Nat):aC Tryz.prog ⟨168,[.one .str,.one (.int .i64)],[.one .str],λx=>strings_Repeat n x.1 x.2⟩:=by
 intro x;refine iw.of (λargs w=>iN (fn:=Tryz.f168) (by kernel_rfl) (by kernel_rfl) (by kernel_rfl) args w) ?_;intro F h y h1 hx ι w vs' R hl;obtain rfl:=aW.mw hl rfl;obtain⟨m,hm,h2,h3,rfl,rfl⟩:=Zw (n:=n) hx;have e:x=(x.1,(m:Int)):=by rw[<-hm]
 rw[e];exact kY R (.flat _ rfl) ((Tryz.strings_Repeat x.1 m w (by omega) h3).mono λe w' hx=>⟨hx.1,hx.2⟩)
theorem BJ (n:Nat):aC Tryz.prog ⟨138,[.one .str,.one .str],[.one .str],λx=>gQ n x.1 x.2⟩:=by
 intro x;refine iw.of (λargs w=>iN (fn:=Tryz.f138) (by kernel_rfl) (by kernel_rfl) (by kernel_rfl) args w) ?_;intro F h y h1 hx ι w vs' R hl;obtain rfl:=aW.mw hl rfl;obtain⟨c,hm,h2,h3,rfl,rfl⟩:=adO (n:=n) hx;have e:x=(x.1,(⟨#[c]⟩:ζ)):=by rw[<-hm]
 rw[e];exact kY R (.flat _ rfl) ((Tryz.strings_TrimRight_one x.1 c h2 w h3).mono λe w' hx=>⟨hx.1,by rw[hx.2];exact Below.refl _ _⟩)
theorem A1 (n:Nat):aC Tryz.prog ⟨85,[.one .str,.one .str],[.one .str],λx=>strings_TrimPrefix n x.1 x.2⟩:=by
 intro x;refine iw.of (λargs w=>iN (fn:=Tryz.f85) (by kernel_rfl) (by kernel_rfl) (by kernel_rfl) args w) ?_;intro F h y h1 hx ι w vs' R hl;cases hx;obtain rfl:=aW.mw hl rfl;exact kY R (.flat _ rfl) ((Tryz.strings_TrimPrefix x.1 x.2 w).mono λe w' hx=>⟨hx.1,by rw[hx.2];exact Below.refl _ _⟩)
theorem BK (n:Nat):aC Tryz.prog ⟨90,[.one .str,.one .str],[.one .str,.one .bool],λx=>strings_CutPrefix n x.1 x.2⟩:=by
 intro x;refine iw.of (λargs w=>iN (fn:=Tryz.f90) (by kernel_rfl) (by kernel_rfl) (by kernel_rfl) args w) ?_;intro F h y h1 hx ι w vs' R hl;cases hx;obtain rfl:=aW.mw hl rfl;exact kY R (two (.flat _ rfl) (.flat _ rfl)) ((Tryz.strings_CutPrefix x.1 x.2 w).mono λe w' hx=>⟨hx.1,by rw[hx.2];exact Below.refl _ _⟩)
theorem Ab (n:Nat):aC Tryz.prog ⟨159,[.one .str,.one .str],[.one (.int .i64)],λx=>jB n x.1 x.2⟩:=by
 intro x;refine iw.of (λargs w=>iN (fn:=Tryz.f159) (by kernel_rfl) (by kernel_rfl) (by kernel_rfl) args w) ?_;intro F h y h1 hx ι w vs' R hl;obtain rfl:=aW.mw hl rfl;obtain⟨c,hm,rfl,rfl⟩:=adP (n:=n) hx;have e:x=(x.1,(⟨#[c]⟩:ζ)):=by rw[<-hm]
 rw[e];exact kY R (.flat _ rfl) ((Tryz.stringslite_Index_one x.1 c w).mono λe w' hx=>⟨hx.1,by rw[hx.2];exact Below.refl _ _⟩)
theorem Eu (n:Nat):aC Tryz.prog ⟨115,[.one (.int .u64)],[.one (.int .i64)],λx=>fQ n x⟩:=by
 intro x;refine iw.of (λargs w=>iN (fn:=Tryz.f115) (by kernel_rfl) (by kernel_rfl) (by kernel_rfl) args w) ?_;intro F h y h1 hx ι w vs' R hl;obtain rfl:=aW.mw hl rfl;have hx:fQ n x h=some (y,h1):=hx;unfold fQ at hx;split at hx
 .rename_i hc;cases hx;exact kY R (.flat _ rfl) ((Tryz.bits_Len64 x w hc.1 hc.2).mono λe w' hx=>⟨hx.1,by rw[hx.2];exact Below.refl _ _⟩)
 .simp[AS] at hx
def IQ {F:Fz}{ι:gO}{h h1:ai}{w:World}{f:FuncId}{vs:ν}{v:Int}{k:IntKind}{ev:ξ}{nm s:ζ}{y:Int×ξ}(R:Rel Tryz.prog F ι h w)(hx:A0 v h=some (y,h1))
  (hc:Calls Tryz.prog f vs w λe w'=>∃N,e=.returned (.tuple #[.int k v,.iface uu (.pointer (some ⟨N,0,none⟩))])/\w.heap.size<=N/\w'.heap[N]?=some (.cells #[.string nm,.string s,ev] Er (0,0))/\Below w.heap.size w w') :
  Calls Tryz.prog f vs w λe w'=>∃v' ι',e=.returned v'/\aN Tryz.prog ι' (.tuple #[.int k y.1,y.2]) v'/\Rel Tryz.prog F ι' h1 w'/\ι.le ι':=by
 simp only[A0,sh,opq,AI,acU,aof] at hx;obtain⟨rfl,rfl⟩:=hx;refine hc.mono λe w' hx=>?_;obtain⟨N,rfl,hN,hw,hb⟩:=hx;obtain⟨ι',q1,q2,q3⟩:=(R.below hb).opq hw;exact⟨_,ι',rfl,two (.flat _ rfl) (.iface _ _ _ (.ptr _ _ ⟨rfl,rfl,_,q2,rfl,rfl⟩)),q3,q1⟩
theorem strconv_Atoi_ok (n:Nat):aC Tryz.prog ⟨84,[.one .str],[.one (.int .i64),.one .raw],λx=>strconv_Atoi n x⟩:=by
 intro x;refine iw.of (λargs w=>iN (fn:=Tryz.f84) (by kernel_rfl) (by kernel_rfl) (by kernel_rfl) args w) ?_;intro F h y h1 hx ι w vs' R hl;obtain rfl:=aW.mw hl rfl;have L:=R.GL w R.lA;obtain⟨hc,hv⟩:=adQ (n:=n) hx;rcases hv with⟨v,hv,rfl,rfl⟩|⟨hv,hx⟩|⟨hv,hx⟩
 .refine (Tryz.strconv_Atoi_ok x (by have:ByteArray.size x<=281474976710656:=hc;omega) _ hv w).mono λe w' hx=>?_;obtain⟨rfl,hw⟩:=hx;refine⟨_,ι,rfl,two (.flat _ rfl) (.flat _ rfl),?_,.refl _⟩;rcases hw with rfl|⟨t,rfl⟩
  .exact R
  .exact R.below (Lib.bytesWorld_below _ _ _)
 .obtain⟨ev,e1,e2⟩:=L.ah6;exact IQ R hx (Tryz.strconv_Atoi_syntax x hc hv ev w e1 e2)
 .obtain⟨ev,e1,e2⟩:=L.ah7;exact IQ R hx (Tryz.strconv_Atoi_range x hc hv ev w e1 e2)
theorem BM (n:Nat):aC Tryz.prog ⟨94,[.one .str,.one (.int .i64),.one (.int .i64)],[.one (.int .u64),.one .raw],λx=>fF n x.1 x.2.1 x.2.2⟩:=by
 intro x;refine iw.of (λargs w=>iN (fn:=Tryz.f94) (by kernel_rfl) (by kernel_rfl) (by kernel_rfl) args w) ?_;intro F h y h1 hx ι w vs' R hl;obtain rfl:=aW.mw hl rfl;have L:=R.GL w R.lA;obtain⟨⟨hc,hb,hd⟩,hv⟩:=adR (n:=n) hx;have e:x=(x.1,(10:Int),(64:Int)):=by rw[<-hb,<-hd]
 rw[e];rcases hv with⟨v,hv,rfl,rfl⟩|⟨hv,hx⟩|⟨hv,hx⟩
 .refine (Tryz.strconv_ParseUint_10_at64_ok x.1 (by have:ByteArray.size x.1<=281474976710656:=hc;omega) _ hv w).mono λe w' hx=>?_;obtain⟨rfl,hw⟩:=hx;refine⟨_,ι,rfl,two (.flat _ rfl) (.flat _ rfl),?_,.refl _⟩;rcases hw with rfl|rfl
  .exact R
  .exact R.below (Lib.bytesWorld_below _ _ _)
 .obtain⟨ev,e1,e2⟩:=L.ah6;exact IQ R hx (Tryz.strconv_ParseUint_10_at64_syntax x.1 hc hv ev w e1 e2)
 .obtain⟨ev,e1,e2⟩:=L.ah7;exact IQ R hx (Tryz.strconv_ParseUint_10_at64_range x.1 hc hv ev w e1 e2)
theorem Db (n:Nat):aC Tryz.prog ⟨134,[.one .f64],[.one (.int .u64)],λx=>bW n x⟩:=by
 intro x;refine⟨.inr ?_,λhe=>?_⟩
 .intro F h y h1 hx ι w vs' R hl;cases hx;obtain rfl:=aW.mw hl rfl;exact⟨.int .u64 ((show Nat from x):Int),w,ι,PZ x w,.flat _ rfl,R,.refl _⟩
 .intro F h y h1 hx ι w vs' R hl;have:=(he #[.float .f64 0] w).symm.trans (PZ 0 w);cases this
theorem zd (n:Nat):aC Tryz.prog ⟨125,[.one (.int .u64)],[.one .f64],λx=>bC n x⟩:=by
 intro x;refine⟨.inr ?_,λhe=>?_⟩
 .intro F h y h1 hx ι w vs' R hl;cases hx;obtain rfl:=aW.mw hl rfl;exact⟨.float .f64 ((show Int from x).toNat),w,ι,P0 x w,.flat _ rfl,R,.refl _⟩
 .intro F h y h1 hx ι w vs' R hl;have:=(he #[.int .u64 0] w).symm.trans (P0 0 w);cases this
def Zx {x y:Int}(hx:db n x h=some (y,h1)):(x=0/\y=64/\h1=h)\/(x≠0/\(0<=Uh x/\Uh x<64)/\y=wrap64 (M5 (Uh x).toNat)/\h1=h):=by
 unfold db at hx;split at hx
 .cases hx;exact .inl ⟨‹_›,rfl,rfl⟩
 .split at hx
  .cases hx;exact .inr ⟨‹_›,‹_›,rfl,rfl⟩
  .simp[AS] at hx
theorem vS (n:Nat):aC Tryz.prog ⟨165,[.one (.int .u64)],[.one (.int .i64)],λx=>db n x⟩:=by
 intro x;refine iw.of (λargs w=>iN (fn:=Tryz.f165) (by kernel_rfl) (by kernel_rfl) (by kernel_rfl) args w) ?_;intro F h y h1 hx ι w vs' R hl;obtain rfl:=aW.mw hl rfl;have L:=R.GL w R.lA;rcases Zx (n:=n) hx with⟨h0,rfl,rfl⟩|⟨h0,h2,rfl,rfl⟩
 .have e:x=(0:Int):=h0;rw[e];exact kY R (.flat _ rfl) ((adN w).mono λe w' hx=>⟨hx.1,by rw[hx.2];exact Below.refl _ _⟩)
 .exact kY R (.flat _ rfl) ((Zt x w h0 h2 L.deb).mono λe w' hx=>⟨hx.1,by rw[hx.2];exact Below.refl _ _⟩)
def adS {u b:Int}{y:ζ}(hx:gm n u b h=some (y,h1)):∃m:Nat,u=m/\m<18446744073709551616/\b=10/\y=⟨(Lib.itoa m).toArray⟩/\h1=h:=by
 unfold gm at hx;split at hx
 .rename_i hc;cases hx;obtain⟨m,rfl⟩:∃m:Nat,u=m:=⟨u.toNat,by omega⟩;exact⟨m,rfl,by omega,hc.2.2,rfl,rfl⟩
 .simp[AS] at hx
theorem zg (n:Nat):aC Tryz.prog ⟨166,[.one (.int .u64),.one (.int .i64)],[.one .str],λx=>gm n x.1 x.2⟩:=by
 intro x;refine iw.of (λargs w=>iN (fn:=Tryz.f166) (by kernel_rfl) (by kernel_rfl) (by kernel_rfl) args w) ?_;intro F h y h1 hx ι w vs' R hl;obtain rfl:=aW.mw hl rfl;obtain⟨m,hm,h2,h3,rfl,rfl⟩:=adS (n:=n) hx;have e:x=((m:Int),(10:Int)):=by rw[<-hm,<-h3]
 rw[e];exact kY R (.flat _ rfl) (Zu m h2 w (Zv (R.GL w R.lA)))
theorem Ui (p:θ)(w:World):(callFunc 148 #[.pointer p]).run Tryz.prog w=.ok (.value (.pointer p)) w:=by kernel_rfl
theorem Uj (a b:ζ)(w:World):(callFunc 196 #[.string a,.string b]).run Tryz.prog w=.ok (.value (.int .i64 (Nz a b))) w:=by kernel_rfl
theorem FO (n:Nat):aC Tryz.prog ⟨148,[.one .ptr],[.one .ptr],λx=>xl n x⟩:=by
 intro x;refine⟨.inr ?_,λhe=>?_⟩
 .intro F h y h1 hx ι w vs' R hl;cases hx;obtain⟨v',e1,e2⟩:=hl.one;have hvs:vs'=#[v']:=alY (by simpa using e1);subst hvs;obtain⟨p',rfl,hp⟩:=aN.ac8 (p:=x) e2;exact⟨.pointer p',w,ι,Ui p' w,e2,R,.refl _⟩
 .intro F h y h1 hx ι w vs' R hl;have:=(he #[.pointer none] w).symm.trans (Ui none w);cases this
theorem qv (n:Nat):aC Tryz.prog ⟨196,[.one .str,.one .str],[.one (.int .i64)],λx=>eh n x.1 x.2⟩:=by
 intro x;refine⟨.inr ?_,λhe=>?_⟩
 .intro F h y h1 hx ι w vs' R hl;cases hx;obtain rfl:=aW.mw hl rfl;exact⟨.int .i64 (Nz x.1 x.2),w,ι,Uj x.1 x.2 w,.flat _ rfl,R,.refl _⟩
 .intro F h y h1 hx ι w vs' R hl;have:=(he #[.string .empty,.string .empty] w).symm.trans (Uj .empty .empty w);cases this
end Go.Sh
