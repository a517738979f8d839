
import Derived.Test.YtengdffgmpghgaaGreatDoorShT
import Derived.Test.YtengdffgmpghgaaGreatDoorAgoL
import Derived.Test.YtengdffgmpghgaaGreatDoorTz
import Derived.Test.YtengdffgmpghgaaGreatDoorFu
set_option linter.all false
namespace Go.Sh
open Go Go.Ago Go.Proofs Go.RowKit
def strings_IndexByte (_:Nat)(s:ζ)(c:Int):M Int:=AI (Lib.indexByte s.data.toList c.toNat.toUInt8)
def px (_:Nat)(s:ζ):M (Int×Int):=AI (adu (ur s (s.size+1) 0),W6 (ur s (s.size+1) 0))
def uX (b:UInt8):Bool:=Nat.ble 48 b.toNat&&Nat.ble b.toNat 57
def decFrom (a:Nat)(D:List UInt8):Nat:=D.foldl (λa b=>10*a+(b.toNat-48)) a
def PG (D:List UInt8):Nat:=decFrom 0 D
def u8 (s:ζ):Bool:=(ur s (s.size+1) 0).isNone
def yF (v:Int):M (Int×ξ):=sh opq λb=>AI (v,.iface rP (.pointer (some ⟨b,0,none⟩)))
def strconv_Atoi (_:Nat)(s:ζ):M (Int×ξ):=
 if s.size<=281474976710656 then (match Lib.atoiAll s.data.toList with
  |.ok v=>AI (v,.nilIface)
  |  Lib.NumEnd.syntax=>yF 0
  |.range=>yF (Lib.atoiSat s.data.toList))
 else AS
def fC (_:Nat)(s:ζ)(base bits:Int):M (Int×ξ):=
 if s.size<=281474976710656/\base=10/\bits=64 then (match Lib.parseUintB 64 s.data.toList with
  |.ok v=>AI ((v:Int),.nilIface)
  |  Lib.NumEnd.syntax=>yF 0
  |.range=>yF 18446744073709551615)
 else AS
def strconv_Itoa (_:Nat)(n:Int):M ζ:=if -9223372036854775808<=n/\n<=9223372036854775807 then AI ⟨(Lib.itoa n).toArray⟩ else AS
def fY (_:Nat)(u:Int)(base:Int):M ζ:=if 0<=u/\u<18446744073709551616/\base=10 then AI ⟨(Lib.itoa u).toArray⟩ else AS
def strings_Repeat (_:Nat)(s:ζ)(c:Int):M ζ:=if 0<=c/\c<=1048576/\s.size<=65536 then AI ⟨(Lib.repeatL s.data.toList c.toNat).toArray⟩ else AS
def gu (_:Nat)(s t:ζ):M ζ:=match t.data.toList with
 |[c]=>if c.toNat<128/\s.size<=9223372036854775807 then AI ⟨(Lib.trimRightB s.data.toList c).toArray⟩ else AS
 |_=>AS
def strings_TrimPrefix (_:Nat)(s p:ζ):M ζ:=AI ⟨(Lib.trimPrefix s.data.toList p.data.toList).toArray⟩
def strings_CutPrefix (_:Nat)(s p:ζ):M (ζ×Bool):=AI (⟨(Lib.trimPrefix s.data.toList p.data.toList).toArray⟩,Lib.hasPrefix s.data.toList p.data.toList)
def iW (_:Nat)(s t:ζ):M Int:=match t.data.toList with
 |[c]=>AI (Lib.indexByte s.data.toList c)
 |_=>AS
def fP (_:Nat)(x:Int):M Int:=if 0<=x/\x<=18446744073709551615 then AI (Lib.bitLen x.toNat) else AS
def cP (_:Nat)(x:Int):M Int:=if x=0 then AI 64 else if 0<=RP x/\RP x<64 then AI (wrap64 (Jg (RP x).toNat)) else AS
def eY (_:Nat)(b:Nat):M Int:=AI (b:Int)
def cV (_:Nat)(n:Int):M Nat:=AI n.toNat
def qt (_:Nat)(p:θ):M θ:=AI p
def abc (a b:ζ):Int:=Extern.BytealgCompare.cmp a b
def dN (_:Nat)(a b:ζ):M Int:=AI (abc a b)
theorem two {P:Program}{ι:eg}{a b a' b':ξ}(ha:aN P ι a a')(hb:aN P ι b b'):aN P ι (.tuple #[a,b]) (.tuple #[a',b']):=.tuple _ _ rfl λi v v' q1 q2=>by
 match i,q1,q2 with
 |0,q1,q2=>cases q1;cases q2;exact ha
 |1,q1,q2=>cases q1;cases q2;exact hb
theorem aij {t:ζ}{c:UInt8}(h:t.data.toList=[c]):t=⟨#[c]⟩:=by
 obtain⟨⟨l⟩⟩:=t;have h:l=[c]:=h;rw[h]
variable {h h1:ab}{n:Nat}
theorem W9 {w : World} (L : kq w) : Lib.TabIs Tryz.prog w "internal/strconv.uint64pow10" .u64 Lib.pow10Tab :=by
 obtain⟨t,fz,hp⟩:=L.pow;show World.var? Tryz.prog w "internal/strconv.uint64pow10" = _
 unfold World.var?;rw[show Tryz.prog.globalNamed "internal/strconv.uint64pow10" = some 7 by kernel_rfl]
 simp only[afQ,hp]
theorem Xa {s:ζ}{c:Int}{y:ζ}(hx:strings_Repeat n s c h=some (y,h1)):∃m:Nat,c=m/\m<=1048576/\s.size*m<=140737488355328/\y=⟨(Lib.repeatL s.data.toList m).toArray⟩/\h1=h:=by
 unfold strings_Repeat at hx;split at hx
 .rename_i hc;cases hx;obtain⟨m,rfl⟩:∃m:Nat,c=m:=⟨c.toNat,by omega⟩;have hm:s.size*m<=65536*1048576:=ajX hc.2.2 (by omega);exact⟨m,rfl,by omega,by omega,rfl,rfl⟩
 .simp[AS] at hx
theorem abd {s t y:ζ}(hx:gu n s t h=some (y,h1)):∃c:UInt8,t=⟨#[c]⟩/\c.toNat<128/\s.size<=9223372036854775807/\y=⟨(Lib.trimRightB s.data.toList c).toArray⟩/\h1=h:=by
 unfold gu at hx;cases e:t.data.toList with
 |nil=>rw[e] at hx;cases hx
 |cons c r=>
  cases r with
  |cons d r=>rw[e] at hx;cases hx
  |nil=>
   rw[e] at hx;have hx:(if c.toNat<128/\s.size<=9223372036854775807 then AI (⟨(Lib.trimRightB s.data.toList c).toArray⟩:ζ) else AS) h=some (y,h1):=hx;split at hx
   .rename_i hs;cases hx;exact⟨c,aij e,hs.1,hs.2,rfl,rfl⟩
   .simp[AS] at hx
theorem abe {s t:ζ}{y:Int}(hx:iW n s t h=some (y,h1)):∃c:UInt8,t=⟨#[c]⟩/\y=Lib.indexByte s.data.toList c/\h1=h:=by
 unfold iW at hx;cases e:t.data.toList with
 |nil=>rw[e] at hx;cases hx
 |cons c r=>
  cases r with
  |cons d r=>rw[e] at hx;cases hx
  |nil=>rw[e] at hx;cases hx;exact⟨c,aij e,rfl,rfl⟩
theorem abf {s:ζ}{y:Int×ξ}(hx:strconv_Atoi n s h=some (y,h1)):s.size<=281474976710656/\((∃v,Lib.atoiAll s.data.toList=.ok v/\y=(v,.nilIface)/\h1=h)\/(Lib.atoiAll s.data.toList= Lib.NumEnd.syntax/\yF 0 h=some (y,h1)) \/
  (Lib.atoiAll s.data.toList=.range/\yF (Lib.atoiSat s.data.toList) h=some (y,h1))):=by
 unfold strconv_Atoi at hx;split at hx
 .rename_i hc;refine⟨hc,?_⟩;cases e:Lib.atoiAll s.data.toList with
  |ok v=>rw[e] at hx;cases hx;exact .inl ⟨v,rfl,rfl,rfl⟩
  |range=>rw[e] at hx;exact .inr (.inr ⟨rfl,hx⟩)
  |_=>rw[e] at hx;exact .inr (.inl ⟨rfl,hx⟩)
 .simp[AS] at hx
theorem abg {s:ζ}{b c:Int}{y:Int×ξ}(hx:fC n s b c h=some (y,h1)):(s.size<=281474976710656/\b=10/\c=64)/\((∃v:Nat,Lib.parseUintB 64 s.data.toList=.ok v/\y=((v:Int),.nilIface)/\h1=h)\/(Lib.parseUintB 64 s.data.toList= Lib.NumEnd.syntax/\yF 0 h=some (y,h1)) \/
  (Lib.parseUintB 64 s.data.toList=.range/\yF 18446744073709551615 h=some (y,h1))):=by
 unfold fC at hx;split at hx
 .rename_i hc;refine⟨hc,?_⟩;cases e:Lib.parseUintB 64 s.data.toList with
  |ok v=>rw[e] at hx;cases hx;exact .inl ⟨v,rfl,rfl,rfl⟩
  |range=>rw[e] at hx;exact .inr (.inr ⟨rfl,hx⟩)
  |_=>rw[e] at hx;exact .inr (.inl ⟨rfl,hx⟩)
 .simp[AS] at hx
theorem zh (n:Nat):aF Tryz.prog ⟨85,[.one .str,.one (.int .u8)],[.one (.int .i64)],λx=>strings_IndexByte n x.1 x.2⟩:=by
 intro x;refine gM.of (λargs w=>ia (fn:=Tryz.f85) (by kernel_rfl) (by kernel_rfl) (by kernel_rfl) args w) ?_;intro F h y h1 hx ι w vs' R hl;cases hx;obtain rfl:=bg.lg hl rfl;exact jY R (.flat _ rfl) ((Tryz.strings_IndexByte x.1 x.2 w).mono λe w' hx=>⟨hx.1,by rw[hx.2];exact Below.refl _ _⟩)
theorem Bn (n:Nat):aF Tryz.prog ⟨61,[.one .str],[.one (.int .i64),.one (.int .i64)],λx=>px n x⟩:=by
 intro x;refine gM.of (λargs w=>ia (fn:=Tryz.f61) (by kernel_rfl) (by kernel_rfl) (by kernel_rfl) args w) ?_;intro F h y h1 hx ι w vs' R hl;cases hx;obtain rfl:=bg.lg hl rfl;have L:=R.EG w R.na;exact jY R (two (.flat _ rfl) (.flat _ rfl)) (NJ x w ⟨L.first,L.accept⟩)
theorem EJ (n:Nat):aF Tryz.prog ⟨123,[.one (.int .i64)],[.one .str],λx=>strconv_Itoa n x⟩:=by
 intro x;refine gM.of (λargs w=>ia (fn:=Tryz.f123) (by kernel_rfl) (by kernel_rfl) (by kernel_rfl) args w) ?_;intro F h y h1 hx ι w vs' R hl;obtain rfl:=bg.lg hl rfl;have hx:strconv_Itoa n x h=some (y,h1):=hx;unfold strconv_Itoa at hx;split at hx
 .rename_i hc;cases hx;have htab:=W9 (R.EG w R.na);exact jY R (.flat _ rfl) ((Tryz.strconv_Itoa x hc.1 hc.2 w htab).mono λe w' hx=>⟨hx.1,by
   obtain⟨_,k,os,rfl⟩:=hx;exact Lib.below_grow _ _ (aae _) _ _⟩)
 .simp[AS] at hx
theorem Co (n:Nat):aF Tryz.prog ⟨167,[.one .str,.one (.int .i64)],[.one .str],λx=>strings_Repeat n x.1 x.2⟩:=by
 intro x;refine gM.of (λargs w=>ia (fn:=Tryz.f167) (by kernel_rfl) (by kernel_rfl) (by kernel_rfl) args w) ?_;intro F h y h1 hx ι w vs' R hl;obtain rfl:=bg.lg hl rfl;obtain⟨m,hm,h2,h3,rfl,rfl⟩:=Xa (n:=n) hx;have e:x=(x.1,(m:Int)):=by rw[<-hm]
 rw[e];exact jY R (.flat _ rfl) ((Tryz.strings_Repeat x.1 m w (by omega) h3).mono λe w' hx=>⟨hx.1,hx.2⟩)
theorem zi (n:Nat):aF Tryz.prog ⟨138,[.one .str,.one .str],[.one .str],λx=>gu n x.1 x.2⟩:=by
 intro x;refine gM.of (λargs w=>ia (fn:=Tryz.f138) (by kernel_rfl) (by kernel_rfl) (by kernel_rfl) args w) ?_;intro F h y h1 hx ι w vs' R hl;obtain rfl:=bg.lg hl rfl;obtain⟨c,hm,h2,h3,rfl,rfl⟩:=abd (n:=n) hx;have e:x=(x.1,(⟨#[c]⟩:ζ)):=by rw[<-hm]
 rw[e];exact jY R (.flat _ rfl) ((Tryz.strings_TrimRight_one x.1 c h2 w h3).mono λe w' hx=>⟨hx.1,by rw[hx.2];exact Below.refl _ _⟩)
theorem yG (n:Nat):aF Tryz.prog ⟨87,[.one .str,.one .str],[.one .str],λx=>strings_TrimPrefix n x.1 x.2⟩:=by
 intro x;refine gM.of (λargs w=>ia (fn:=Tryz.f87) (by kernel_rfl) (by kernel_rfl) (by kernel_rfl) args w) ?_;intro F h y h1 hx ι w vs' R hl;cases hx;obtain rfl:=bg.lg hl rfl;exact jY R (.flat _ rfl) ((Tryz.strings_TrimPrefix x.1 x.2 w).mono λe w' hx=>⟨hx.1,by rw[hx.2];exact Below.refl _ _⟩)
theorem zj (n:Nat):aF Tryz.prog ⟨92,[.one .str,.one .str],[.one .str,.one .bool],λx=>strings_CutPrefix n x.1 x.2⟩:=by
 intro x;refine gM.of (λargs w=>ia (fn:=Tryz.f92) (by kernel_rfl) (by kernel_rfl) (by kernel_rfl) args w) ?_;intro F h y h1 hx ι w vs' R hl;cases hx;obtain rfl:=bg.lg hl rfl;exact jY R (two (.flat _ rfl) (.flat _ rfl)) ((Tryz.strings_CutPrefix x.1 x.2 w).mono λe w' hx=>⟨hx.1,by rw[hx.2];exact Below.refl _ _⟩)
theorem xH (n:Nat):aF Tryz.prog ⟨158,[.one .str,.one .str],[.one (.int .i64)],λx=>iW n x.1 x.2⟩:=by
 intro x;refine gM.of (λargs w=>ia (fn:=Tryz.f158) (by kernel_rfl) (by kernel_rfl) (by kernel_rfl) args w) ?_;intro F h y h1 hx ι w vs' R hl;obtain rfl:=bg.lg hl rfl;obtain⟨c,hm,rfl,rfl⟩:=abe (n:=n) hx;have e:x=(x.1,(⟨#[c]⟩:ζ)):=by rw[<-hm]
 rw[e];exact jY R (.flat _ rfl) ((Tryz.stringslite_Index_one x.1 c w).mono λe w' hx=>⟨hx.1,by rw[hx.2];exact Below.refl _ _⟩)
theorem Bo (n:Nat):aF Tryz.prog ⟨116,[.one (.int .u64)],[.one (.int .i64)],λx=>fP n x⟩:=by
 intro x;refine gM.of (λargs w=>ia (fn:=Tryz.f116) (by kernel_rfl) (by kernel_rfl) (by kernel_rfl) args w) ?_;intro F h y h1 hx ι w vs' R hl;obtain rfl:=bg.lg hl rfl;have hx:fP n x h=some (y,h1):=hx;unfold fP at hx;split at hx
 .rename_i hc;cases hx;exact jY R (.flat _ rfl) ((Tryz.bits_Len64 x w hc.1 hc.2).mono λe w' hx=>⟨hx.1,by rw[hx.2];exact Below.refl _ _⟩)
 .simp[AS] at hx
theorem Fk {F:Fz}{ι:eg}{h h1:ab}{w:World}{f:FuncId}{vs:ν}{v:Int}{k:IntKind}{ev:ξ}{nm s:ζ}{y:Int×ξ}(R:Rel Tryz.prog F ι h w)(hx:yF v h=some (y,h1))
  (hc:Calls Tryz.prog f vs w λe w'=>∃N,e=.returned (.tuple #[.int k v,.iface rP (.pointer (some ⟨N,0,none⟩))])/\w.heap.size<=N/\w'.heap[N]?=some (.cells #[.string nm,.string s,ev] Bl (0,0))/\Below w.heap.size w w') :
  Calls Tryz.prog f vs w λe w'=>∃v' ι',e=.returned v'/\aN Tryz.prog ι' (.tuple #[.int k y.1,y.2]) v'/\Rel Tryz.prog F ι' h1 w'/\ι.le ι':=by
 simp only[yF,sh,opq,AI,aai,aiJ] at hx;obtain⟨rfl,rfl⟩:=hx;refine hc.mono λe w' hx=>?_;obtain⟨N,rfl,hN,hw,hb⟩:=hx;obtain⟨ι',q1,q2,q3⟩:=(R.below hb).opq hw;exact⟨_,ι',rfl,two (.flat _ rfl) (.iface _ _ _ (.ptr _ _ ⟨rfl,rfl,_,q2,rfl,rfl⟩)),q3,q1⟩
theorem strconv_Atoi_ok (n:Nat):aF Tryz.prog ⟨86,[.one .str],[.one (.int .i64),.one .raw],λx=>strconv_Atoi n x⟩:=by
 intro x;refine gM.of (λargs w=>ia (fn:=Tryz.f86) (by kernel_rfl) (by kernel_rfl) (by kernel_rfl) args w) ?_;intro F h y h1 hx ι w vs' R hl;obtain rfl:=bg.lg hl rfl;have L:=R.EG w R.na;obtain⟨hc,hv⟩:=abf (n:=n) hx;rcases hv with⟨v,hv,rfl,rfl⟩|⟨hv,hx⟩|⟨hv,hx⟩
 .refine (Tryz.strconv_Atoi_ok x (by have:ByteArray.size x<=281474976710656:=hc;omega) _ hv w).mono λe w' hx=>?_;obtain⟨rfl,hw⟩:=hx;refine⟨_,ι,rfl,two (.flat _ rfl) (.flat _ rfl),?_,.refl _⟩;rcases hw with rfl|⟨t,rfl⟩
  .exact R
  .exact R.below (Lib.bytesWorld_below _ _ _)
 .obtain⟨ev,e1,e2⟩:=L.afe;exact Fk R hx (Tryz.strconv_Atoi_syntax x hc hv ev w e1 e2)
 .obtain⟨ev,e1,e2⟩:=L.aff;exact Fk R hx (Tryz.strconv_Atoi_range x hc hv ev w e1 e2)
theorem zk (n:Nat):aF Tryz.prog ⟨96,[.one .str,.one (.int .i64),.one (.int .i64)],[.one (.int .u64),.one .raw],λx=>fC n x.1 x.2.1 x.2.2⟩:=by
 intro x;refine gM.of (λargs w=>ia (fn:=Tryz.f96) (by kernel_rfl) (by kernel_rfl) (by kernel_rfl) args w) ?_;intro F h y h1 hx ι w vs' R hl;obtain rfl:=bg.lg hl rfl;have L:=R.EG w R.na;obtain⟨⟨hc,hb,hd⟩,hv⟩:=abg (n:=n) hx;have e:x=(x.1,(10:Int),(64:Int)):=by rw[<-hb,<-hd]
 rw[e];rcases hv with⟨v,hv,rfl,rfl⟩|⟨hv,hx⟩|⟨hv,hx⟩
 .refine (Tryz.strconv_ParseUint_10_at64_ok x.1 (by have:ByteArray.size x.1<=281474976710656:=hc;omega) _ hv w).mono λe w' hx=>?_;obtain⟨rfl,hw⟩:=hx;refine⟨_,ι,rfl,two (.flat _ rfl) (.flat _ rfl),?_,.refl _⟩;rcases hw with rfl|rfl
  .exact R
  .exact R.below (Lib.bytesWorld_below _ _ _)
 .obtain⟨ev,e1,e2⟩:=L.afe;exact Fk R hx (Tryz.strconv_ParseUint_10_at64_syntax x.1 hc hv ev w e1 e2)
 .obtain⟨ev,e1,e2⟩:=L.aff;exact Fk R hx (Tryz.strconv_ParseUint_10_at64_range x.1 hc hv ev w e1 e2)
theorem As (n:Nat):aF Tryz.prog ⟨134,[.one .f64],[.one (.int .u64)],λx=>eY n x⟩:=by
 intro x;refine⟨.inr ?_,λhe=>?_⟩
 .intro F h y h1 hx ι w vs' R hl;cases hx;obtain rfl:=bg.lg hl rfl;exact⟨.int .u64 ((show Nat from x):Int),w,ι,NK x w,.flat _ rfl,R,.refl _⟩
 .intro F h y h1 hx ι w vs' R hl;have:=(he #[.float .f64 0] w).symm.trans (NK 0 w);cases this
theorem wU (n:Nat):aF Tryz.prog ⟨125,[.one (.int .u64)],[.one .f64],λx=>cV n x⟩:=by
 intro x;refine⟨.inr ?_,λhe=>?_⟩
 .intro F h y h1 hx ι w vs' R hl;cases hx;obtain rfl:=bg.lg hl rfl;exact⟨.float .f64 ((show Int from x).toNat),w,ι,NL x w,.flat _ rfl,R,.refl _⟩
 .intro F h y h1 hx ι w vs' R hl;have:=(he #[.int .u64 0] w).symm.trans (NL 0 w);cases this
theorem Xb {x y:Int}(hx:cP n x h=some (y,h1)):(x=0/\y=64/\h1=h)\/(x≠0/\(0<=RP x/\RP x<64)/\y=wrap64 (Jg (RP x).toNat)/\h1=h):=by
 unfold cP at hx;split at hx
 .cases hx;exact .inl ⟨‹_›,rfl,rfl⟩
 .split at hx
  .cases hx;exact .inr ⟨‹_›,‹_›,rfl,rfl⟩
  .simp[AS] at hx
theorem tC (n:Nat):aF Tryz.prog ⟨164,[.one (.int .u64)],[.one (.int .i64)],λx=>cP n x⟩:=by
 intro x;refine gM.of (λargs w=>ia (fn:=Tryz.f164) (by kernel_rfl) (by kernel_rfl) (by kernel_rfl) args w) ?_;intro F h y h1 hx ι w vs' R hl;obtain rfl:=bg.lg hl rfl;have L:=R.EG w R.na;rcases Xb (n:=n) hx with⟨h0,rfl,rfl⟩|⟨h0,h2,rfl,rfl⟩
 .have e:x=(0:Int):=h0;rw[e];exact jY R (.flat _ rfl) ((abb w).mono λe w' hx=>⟨hx.1,by rw[hx.2];exact Below.refl _ _⟩)
 .exact jY R (.flat _ rfl) ((W7 x w h0 h2 L.deb).mono λe w' hx=>⟨hx.1,by rw[hx.2];exact Below.refl _ _⟩)
theorem abh {u b:Int}{y:ζ}(hx:fY n u b h=some (y,h1)):∃m:Nat,u=m/\m<18446744073709551616/\b=10/\y=⟨(Lib.itoa m).toArray⟩/\h1=h:=by
 unfold fY at hx;split at hx
 .rename_i hc;cases hx;obtain⟨m,rfl⟩:∃m:Nat,u=m:=⟨u.toNat,by omega⟩;exact⟨m,rfl,by omega,hc.2.2,rfl,rfl⟩
 .simp[AS] at hx
theorem wV (n:Nat):aF Tryz.prog ⟨165,[.one (.int .u64),.one (.int .i64)],[.one .str],λx=>fY n x.1 x.2⟩:=by
 intro x;refine gM.of (λargs w=>ia (fn:=Tryz.f165) (by kernel_rfl) (by kernel_rfl) (by kernel_rfl) args w) ?_;intro F h y h1 hx ι w vs' R hl;obtain rfl:=bg.lg hl rfl;obtain⟨m,hm,h2,h3,rfl,rfl⟩:=abh (n:=n) hx;have e:x=((m:Int),(10:Int)):=by rw[<-hm,<-h3]
 rw[e];exact jY R (.flat _ rfl) (W8 m h2 w (W9 (R.EG w R.na)))
theorem RQ (p:θ)(w:World):(callFunc 80 #[.pointer p]).run Tryz.prog w=.ok (.value (.pointer p)) w:=by kernel_rfl
theorem RR (a b:ζ)(w:World):(callFunc 195 #[.string a,.string b]).run Tryz.prog w=.ok (.value (.int .i64 (abc a b))) w:=by kernel_rfl
theorem Cp (n:Nat):aF Tryz.prog ⟨80,[.one .ptr],[.one .ptr],λx=>qt n x⟩:=by
 intro x;refine⟨.inr ?_,λhe=>?_⟩
 .intro F h y h1 hx ι w vs' R hl;cases hx;obtain⟨v',e1,e2⟩:=hl.one;have hvs:vs'=#[v']:=agh (by simpa using e1);subst hvs;obtain⟨p',rfl,hp⟩:=aN.aay (p:=x) e2;exact⟨.pointer p',w,ι,RQ p' w,e2,R,.refl _⟩
 .intro F h y h1 hx ι w vs' R hl;have:=(he #[.pointer none] w).symm.trans (RQ none w);cases this
theorem oC (n:Nat):aF Tryz.prog ⟨195,[.one .str,.one .str],[.one (.int .i64)],λx=>dN n x.1 x.2⟩:=by
 intro x;refine⟨.inr ?_,λhe=>?_⟩
 .intro F h y h1 hx ι w vs' R hl;cases hx;obtain rfl:=bg.lg hl rfl;exact⟨.int .i64 (abc x.1 x.2),w,ι,RR x.1 x.2 w,.flat _ rfl,R,.refl _⟩
 .intro F h y h1 hx ι w vs' R hl;have:=(he #[.string .empty,.string .empty] w).symm.trans (RR .empty .empty w);cases this
end Go.Sh
