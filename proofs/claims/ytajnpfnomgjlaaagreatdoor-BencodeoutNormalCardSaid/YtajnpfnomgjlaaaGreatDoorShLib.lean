
import Derived.Test.YtajnpfnomgjlaaaGreatDoorShT
import Derived.Test.YtajnpfnomgjlaaaGreatDoorAgoL
import Derived.Test.YtajnpfnomgjlaaaGreatDoorTz
import Derived.Test.YtajnpfnomgjlaaaGreatDoorFu
set_option linter.all false
namespace Go.Sh
open Go Go.Ago Go.Proofs Go.RowKit
def strings_IndexByte (_:Nat)(s:ζ)(c:Int):M Int:=AI (Lib.indexByte s.data.toList c.toNat.toUInt8)
def ma (_:Nat)(s:ζ):M (Int×Int):=AI (acr (tD s (s.size+1) 0),V3 (tD s (s.size+1) 0))
def xm (b:UInt8):Bool:=Nat.ble 48 b.toNat&&Nat.ble b.toNat 57
def decFrom (a:Nat)(D:List UInt8):Nat:=D.foldl (λa b=>10*a+(b.toNat-48)) a
def O5 (D:List UInt8):Nat:=decFrom 0 D
def u8 (s:ζ):Bool:=(tD s (s.size+1) 0).isNone
def yc (v:Int):M (Int×ξ):=sh V2 λb=>AI (v,.iface tj (.pointer (some ⟨b,0,none⟩)))
def strconv_Atoi (_:Nat)(s:ζ):M (Int×ξ):=
 if s.size<=281474976710656 then (match Lib.atoiAll s.data.toList with
  |.ok v=>AI (v,.nilIface)
  |  Lib.NumEnd.syntax=>yc 0
  |.range=>yc (Lib.atoiSat s.data.toList))
 else AS
def eG (_:Nat)(s:ζ)(base bits:Int):M (Int×ξ):=
 if s.size<=281474976710656/\base=10/\bits=64 then (match Lib.parseUintB 64 s.data.toList with
  |.ok v=>AI ((v:Int),.nilIface)
  |  Lib.NumEnd.syntax=>yc 0
  |.range=>yc 18446744073709551615)
 else AS
def strconv_Itoa (_:Nat)(n:Int):M ζ:=if -9223372036854775808<=n/\n<=9223372036854775807 then AI ⟨(Lib.itoa n).toArray⟩ else AS
def eK (_:Nat)(u:Int)(base:Int):M ζ:=if 0<=u/\u<18446744073709551616/\base=10 then AI ⟨(Lib.itoa u).toArray⟩ else AS
def eW (_:Nat)(s:ζ):M Bool:=if s.size<=9223372036854775807 then AI (Lib.validD s.data.toList) else AS
def strings_Repeat (_:Nat)(s:ζ)(c:Int):M ζ:=if 0<=c/\c<=1048576/\s.size<=65536 then AI ⟨(Lib.repeatL s.data.toList c.toNat).toArray⟩ else AS
def fq (_:Nat)(s t:ζ):M ζ:=match t.data.toList with
 |[c]=>if c.toNat<128/\s.size<=9223372036854775807 then AI ⟨(Lib.trimRightB s.data.toList c).toArray⟩ else AS
 |_=>AS
def strings_TrimPrefix (_:Nat)(s p:ζ):M ζ:=AI ⟨(Lib.trimPrefix s.data.toList p.data.toList).toArray⟩
def strings_CutPrefix (_:Nat)(s p:ζ):M (ζ×Bool):=AI (⟨(Lib.trimPrefix s.data.toList p.data.toList).toArray⟩,Lib.hasPrefix s.data.toList p.data.toList)
def fV (_:Nat)(s t:ζ):M Int:=match t.data.toList with
 |[c]=>AI (Lib.indexByte s.data.toList c)
 |_=>AS
def eT (_:Nat)(x:Int):M Int:=if 0<=x/\x<=18446744073709551615 then AI (Lib.bitLen x.toNat) else AS
def bN (_:Nat)(x:Int):M Int:=if x=0 then AI 64 else if 0<=QQ x/\QQ x<64 then AI (wrap64 (IW (QQ x).toNat)) else AS
def ep (_:Nat)(b:Nat):M Int:=AI (b:Int)
def bY (_:Nat)(n:Int):M Nat:=AI n.toNat
def rV (_:Nat)(p:θ):M θ:=AI p
def aaD (a b:ζ):Int:=Extern.BytealgCompare.cmp a b
def cT (_:Nat)(a b:ζ):M Int:=AI (aaD a b)
theorem two {P ι a b a' b'}(ha:aW P ι a a')(hb:aW P ι b b'):aW P ι (.tuple #[a,b]) (.tuple #[a',b']):=.tuple _ _ rfl λi v v' q1 q2=>by
 grind
theorem ag4 {t:ζ}{c}(h:t.data.toList=[c]):t=⟨#[c]⟩:=by
 obtain⟨⟨l⟩⟩:=t
 grind
variable {h h1:ai}{n:Nat}
theorem V7 {w}(L : mF w) : Lib.TabIs Tryz.prog w "internal/strconv.uint64pow10" .u64 Lib.pow10Tab :=by
 obtain⟨t,fz,hp⟩:=L.pow;show World.var? Tryz.prog w "internal/strconv.uint64pow10" = _
 unfold World.var?;rw[show Tryz.prog.globalNamed "internal/strconv.uint64pow10" = some 4 by kernel_rfl]
 grind
theorem V8 {s c y}(hx:strings_Repeat n s c h=some (y,h1)):∃m:Nat,c=m/\m<=1048576/\s.size*m<=140737488355328/\y=⟨(Lib.repeatL s.data.toList m).toArray⟩/\h1=h:=by
 unfold strings_Repeat at hx;split at hx
 .rename_i hc;cases hx;obtain⟨m,rfl⟩:∃m:Nat,c=m:=⟨c.toNat,by omega⟩;have hm:s.size*m<=65536*1048576:=ai0 hc.2.2 (by omega)
  grind
 .simp[AS] at hx
theorem aaE {s t y}(hx:fq n s t h=some (y,h1)):∃c:UInt8,t=⟨#[c]⟩/\c.toNat<128/\s.size<=9223372036854775807/\y=⟨(Lib.trimRightB s.data.toList c).toArray⟩/\h1=h:=by
 unfold fq at hx;cases e:t.data.toList with
 |nil=>rw[e] at hx;cases hx
 |cons c r=>
  cases r with
  |cons d r=>rw[e] at hx;cases hx
  |nil=>
   rw[e] at hx;have hx:(if c.toNat<128/\s.size<=9223372036854775807 then AI (⟨(Lib.trimRightB s.data.toList c).toArray⟩:ζ) else AS) h=some (y,h1):=hx;split at hx
   .rename_i hs;cases hx;exact⟨c,ag4 e,hs.1,hs.2,rfl,rfl⟩
   .simp[AS] at hx
theorem aaF {s t y}(hx:fV n s t h=some (y,h1)):∃c:UInt8,t=⟨#[c]⟩/\y=Lib.indexByte s.data.toList c/\h1=h:=by
 unfold fV at hx;cases e:t.data.toList with
 |nil=>rw[e] at hx;cases hx
 |cons c r=>
  cases r with
  |cons d r=>rw[e] at hx;cases hx
  |nil=>rw[e] at hx;cases hx;exact⟨c,ag4 e,rfl,rfl⟩
theorem aaG {s y}(hx:strconv_Atoi n s h=some (y,h1)):s.size<=281474976710656/\((∃v,Lib.atoiAll s.data.toList=.ok v/\y=(v,.nilIface)/\h1=h)\/(Lib.atoiAll s.data.toList= Lib.NumEnd.syntax/\yc 0 h=some (y,h1)) \/
  (Lib.atoiAll s.data.toList=.range/\yc (Lib.atoiSat s.data.toList) h=some (y,h1))):=by
 unfold strconv_Atoi at hx;split at hx
 .rename_i hc;refine⟨hc,?_⟩;cases e:Lib.atoiAll s.data.toList with
  |ok v=>rw[e] at hx;cases hx;grind
  |range=>simp_all
  |_=>simp_all
 .simp[AS] at hx
theorem aaH {s b c y}(hx:eG n s b c h=some (y,h1)):(s.size<=281474976710656/\b=10/\c=64)/\((∃v:Nat,Lib.parseUintB 64 s.data.toList=.ok v/\y=((v:Int),.nilIface)/\h1=h)\/(Lib.parseUintB 64 s.data.toList= Lib.NumEnd.syntax/\yc 0 h=some (y,h1)) \/
  (Lib.parseUintB 64 s.data.toList=.range/\yc 18446744073709551615 h=some (y,h1))):=by
 unfold eG at hx;split at hx
 .rename_i hc;refine⟨hc,?_⟩;cases e:Lib.parseUintB 64 s.data.toList with
  |ok v=>rw[e] at hx;cases hx;grind
  |range=>simp_all
  |_=>simp_all
 .simp[AS] at hx
theorem zo n:aK Tryz.prog ⟨107,[.one .str,.one (.int .u8)],[.one (.int .i64)],λx=>strings_IndexByte n x.1 x.2⟩:=by
 intro x;refine iw.of (λargs w=>jc (fn:=Tryz.f107) (by kernel_rfl) (by kernel_rfl) (by kernel_rfl) args w) ?_;intro F h y h1 hx ι w vs' R hl;cases hx;obtain rfl:=bz.mH hl rfl;exact lg R (.flat _ rfl) ((Tryz.strings_IndexByte x.1 x.2 w).mono λe w' hx=>⟨hx.1,by rw[hx.2];exact Below.refl _ _⟩)
theorem Bs n:aK Tryz.prog ⟨66,[.one .str],[.one (.int .i64),.one (.int .i64)],λx=>ma n x⟩:=by
 intro x;refine iw.of (λargs w=>jc (fn:=Tryz.f66) (by kernel_rfl) (by kernel_rfl) (by kernel_rfl) args w) ?_;intro F h y h1 hx ι w vs' R hl;cases hx;obtain rfl:=bz.mH hl rfl;have L:=R.Ea w R.nF;exact lg R (two (.flat _ rfl) (.flat _ rfl)) (Ni x w ⟨L.first,L.accept⟩)
theorem EE n:aK Tryz.prog ⟨60,[.one (.int .i64)],[.one .str],λx=>strconv_Itoa n x⟩:=by
 intro x;refine iw.of (λargs w=>jc (fn:=Tryz.f60) (by kernel_rfl) (by kernel_rfl) (by kernel_rfl) args w) ?_;intro F h y h1 hx ι w vs' R hl;obtain rfl:=bz.mH hl rfl;have hx:strconv_Itoa n x h=some (y,h1):=hx;unfold strconv_Itoa at hx;split at hx
 .rename_i hc;cases hx;have htab:=V7 (R.Ea w R.nF);exact lg R (.flat _ rfl) ((Tryz.strconv_Itoa x hc.1 hc.2 w htab).mono λe w' hx=>⟨hx.1,by
   obtain⟨_,k,os,rfl⟩:=hx;exact Lib.below_grow _ _ (abi _) _ _⟩)
 .simp[AS] at hx
theorem Cq n:aK Tryz.prog ⟨181,[.one .str,.one (.int .i64)],[.one .str],λx=>strings_Repeat n x.1 x.2⟩:=by
 intro x;refine iw.of (λargs w=>jc (fn:=Tryz.f181) (by kernel_rfl) (by kernel_rfl) (by kernel_rfl) args w) ?_;intro F h y h1 hx ι w vs' R hl;obtain rfl:=bz.mH hl rfl;obtain⟨m,hm,h2,h3,rfl,rfl⟩:=V8 (n:=n) hx;have e:x=(x.1,(m:Int)):=by rw[<-hm]
 rw[e];exact lg R (.flat _ rfl) ((Tryz.strings_Repeat x.1 m w (by omega) h3).mono λe w' hx=>⟨hx.1,hx.2⟩)
theorem zp n:aK Tryz.prog ⟨156,[.one .str,.one .str],[.one .str],λx=>fq n x.1 x.2⟩:=by
 intro x;refine iw.of (λargs w=>jc (fn:=Tryz.f156) (by kernel_rfl) (by kernel_rfl) (by kernel_rfl) args w) ?_;intro F h y h1 hx ι w vs' R hl;obtain rfl:=bz.mH hl rfl;obtain⟨c,hm,h2,h3,rfl,rfl⟩:=aaE (n:=n) hx;have e:x=(x.1,(⟨#[c]⟩:ζ)):=by rw[<-hm]
 rw[e];exact lg R (.flat _ rfl) ((Tryz.strings_TrimRight_one x.1 c h2 w h3).mono λe w' hx=>⟨hx.1,by rw[hx.2];exact Below.refl _ _⟩)
theorem yP n:aK Tryz.prog ⟨109,[.one .str,.one .str],[.one .str],λx=>strings_TrimPrefix n x.1 x.2⟩:=by
 intro x;refine iw.of (λargs w=>jc (fn:=Tryz.f109) (by kernel_rfl) (by kernel_rfl) (by kernel_rfl) args w) ?_;intro F h y h1 hx ι w vs' R hl;cases hx;obtain rfl:=bz.mH hl rfl;exact lg R (.flat _ rfl) ((Tryz.strings_TrimPrefix x.1 x.2 w).mono λe w' hx=>⟨hx.1,by rw[hx.2];exact Below.refl _ _⟩)
theorem zq n:aK Tryz.prog ⟨114,[.one .str,.one .str],[.one .str,.one .bool],λx=>strings_CutPrefix n x.1 x.2⟩:=by
 intro x;refine iw.of (λargs w=>jc (fn:=Tryz.f114) (by kernel_rfl) (by kernel_rfl) (by kernel_rfl) args w) ?_;intro F h y h1 hx ι w vs' R hl;cases hx;obtain rfl:=bz.mH hl rfl;exact lg R (two (.flat _ rfl) (.flat _ rfl)) ((Tryz.strings_CutPrefix x.1 x.2 w).mono λe w' hx=>⟨hx.1,by rw[hx.2];exact Below.refl _ _⟩)
theorem yd n:aK Tryz.prog ⟨172,[.one .str,.one .str],[.one (.int .i64)],λx=>fV n x.1 x.2⟩:=by
 intro x;refine iw.of (λargs w=>jc (fn:=Tryz.f172) (by kernel_rfl) (by kernel_rfl) (by kernel_rfl) args w) ?_;intro F h y h1 hx ι w vs' R hl;obtain rfl:=bz.mH hl rfl;obtain⟨c,hm,rfl,rfl⟩:=aaF (n:=n) hx;have e:x=(x.1,(⟨#[c]⟩:ζ)):=by rw[<-hm]
 rw[e];exact lg R (.flat _ rfl) ((Tryz.stringslite_Index_one x.1 c w).mono λe w' hx=>⟨hx.1,by rw[hx.2];exact Below.refl _ _⟩)
theorem Bt n:aK Tryz.prog ⟨85,[.one (.int .u64)],[.one (.int .i64)],λx=>eT n x⟩:=by
 intro x;refine iw.of (λargs w=>jc (fn:=Tryz.f85) (by kernel_rfl) (by kernel_rfl) (by kernel_rfl) args w) ?_;intro F h y h1 hx ι w vs' R hl;obtain rfl:=bz.mH hl rfl;have hx:eT n x h=some (y,h1):=hx;unfold eT at hx;split at hx
 .rename_i hc;cases hx;exact lg R (.flat _ rfl) ((Tryz.bits_Len64 x w hc.1 hc.2).mono λe w' hx=>⟨hx.1,by rw[hx.2];exact Below.refl _ _⟩)
 .simp[AS] at hx
theorem Fm {F ι h h1 w f vs v k ev nm s y}(R:Rel Tryz.prog F ι h w)(hx:yc v h=some (y,h1))
  (hc:Calls Tryz.prog f vs w λe w'=>∃N,e=.returned (.tuple #[.int k v,.iface tj (.pointer (some ⟨N,0,none⟩))])/\w.heap.size<=N/\w'.heap[N]?=some (.cells #[.string nm,.string s,ev] Bq (0,0))/\Below w.heap.size w w') :
  Calls Tryz.prog f vs w λe w'=>∃v' ι',e=.returned v'/\aW Tryz.prog ι' (.tuple #[.int k y.1,y.2]) v'/\Rel Tryz.prog F ι' h1 w'/\ι.le ι':=by
 simp only[yc,sh,V2,AI,adA,air] at hx;obtain⟨rfl,rfl⟩:=hx;refine hc.mono λe w' hx=>?_;obtain⟨N,rfl,hN,hw,hb⟩:=hx;obtain⟨ι',q1,q2,q3⟩:=(R.below hb).V2 hw;exact⟨_,ι',rfl,two (.flat _ rfl) (.iface _ _ _ (.ptr _ _ ⟨rfl,rfl,_,q2,rfl,rfl⟩)),q3,q1⟩
theorem strconv_Atoi_ok n:aK Tryz.prog ⟨108,[.one .str],[.one (.int .i64),.one .raw],λx=>strconv_Atoi n x⟩:=by
 intro x;refine iw.of (λargs w=>jc (fn:=Tryz.f108) (by kernel_rfl) (by kernel_rfl) (by kernel_rfl) args w) ?_;intro F h y h1 hx ι w vs' R hl;obtain rfl:=bz.mH hl rfl;have L:=R.Ea w R.nF;obtain⟨hc,hv⟩:=aaG (n:=n) hx;rcases hv with⟨v,hv,rfl,rfl⟩|⟨hv,hx⟩|⟨hv,hx⟩
 .refine (Tryz.strconv_Atoi_ok x (by grind) _ hv w).mono λe w' hx=>?_;obtain⟨rfl,hw⟩:=hx;refine⟨_,ι,rfl,two (.flat _ rfl) (.flat _ rfl),?_,.refl _⟩;rcases hw with rfl|⟨t,rfl⟩
  .exact R
  .exact R.below (Lib.bytesWorld_below _ _ _)
 .obtain⟨ev,e1,e2⟩:=L.aeb;exact Fm R hx (Tryz.strconv_Atoi_syntax x hc hv ev w e1 e2)
 .obtain⟨ev,e1,e2⟩:=L.aec;exact Fm R hx (Tryz.strconv_Atoi_range x hc hv ev w e1 e2)
theorem zr n:aK Tryz.prog ⟨118,[.one .str,.one (.int .i64),.one (.int .i64)],[.one (.int .u64),.one .raw],λx=>eG n x.1 x.2.1 x.2.2⟩:=by
 intro x;refine iw.of (λargs w=>jc (fn:=Tryz.f118) (by kernel_rfl) (by kernel_rfl) (by kernel_rfl) args w) ?_;intro F h y h1 hx ι w vs' R hl;obtain rfl:=bz.mH hl rfl;have L:=R.Ea w R.nF;obtain⟨⟨hc,hb,hd⟩,hv⟩:=aaH (n:=n) hx;have e:x=(x.1,(10:Int),(64:Int)):=by rw[<-hb,<-hd]
 rw[e];rcases hv with⟨v,hv,rfl,rfl⟩|⟨hv,hx⟩|⟨hv,hx⟩
 .refine (Tryz.strconv_ParseUint_10_at64_ok x.1 (by grind) _ hv w).mono λe w' hx=>?_;obtain⟨rfl,hw⟩:=hx;refine⟨_,ι,rfl,two (.flat _ rfl) (.flat _ rfl),?_,.refl _⟩;rcases hw with rfl|rfl
  .exact R
  .exact R.below (Lib.bytesWorld_below _ _ _)
 .obtain⟨ev,e1,e2⟩:=L.aeb;exact Fm R hx (Tryz.strconv_ParseUint_10_at64_syntax x.1 hc hv ev w e1 e2)
 .obtain⟨ev,e1,e2⟩:=L.aec;exact Fm R hx (Tryz.strconv_ParseUint_10_at64_range x.1 hc hv ev w e1 e2)
theorem Ax n:aK Tryz.prog ⟨152,[.one .f64],[.one (.int .u64)],λx=>ep n x⟩:=by
 intro x;refine⟨.inr ?_,λhe=>?_⟩
 .intro F h y h1 hx ι w vs' R hl;cases hx;obtain rfl:=bz.mH hl rfl;exact⟨.int .u64 ((show Nat from x):Int),w,ι,Nj x w,.flat _ rfl,R,.refl _⟩
 .intro F h y h1 hx ι w vs' R hl;have:=(he #[.float .f64 0] w).symm.trans (Nj 0 w);cases this
theorem xo n:aK Tryz.prog ⟨143,[.one (.int .u64)],[.one .f64],λx=>bY n x⟩:=by
 intro x;refine⟨.inr ?_,λhe=>?_⟩
 .intro F h y h1 hx ι w vs' R hl;cases hx;obtain rfl:=bz.mH hl rfl;exact⟨.float .f64 ((show Int from x).toNat),w,ι,Nk x w,.flat _ rfl,R,.refl _⟩
 .intro F h y h1 hx ι w vs' R hl;have:=(he #[.int .u64 0] w).symm.trans (Nk 0 w);cases this
theorem V9 {x y}(hx:bN n x h=some (y,h1)):(x=0/\y=64/\h1=h)\/(x≠0/\(0<=QQ x/\QQ x<64)/\y=wrap64 (IW (QQ x).toNat)/\h1=h):=by
 unfold bN at hx;split at hx
 .cases hx;grind
 .split at hx
  .cases hx;grind
  .simp[AS] at hx
theorem uH n:aK Tryz.prog ⟨178,[.one (.int .u64)],[.one (.int .i64)],λx=>bN n x⟩:=by
 intro x;refine iw.of (λargs w=>jc (fn:=Tryz.f178) (by kernel_rfl) (by kernel_rfl) (by kernel_rfl) args w) ?_;intro F h y h1 hx ι w vs' R hl;obtain rfl:=bz.mH hl rfl;have L:=R.Ea w R.nF;rcases V9 (n:=n) hx with⟨h0,rfl,rfl⟩|⟨h0,h2,rfl,rfl⟩
 .have e:x=(0:Int):=h0;rw[e];exact lg R (.flat _ rfl) ((aaC w).mono λe w' hx=>⟨hx.1,by rw[hx.2];exact Below.refl _ _⟩)
 .exact lg R (.flat _ rfl) ((V5 x w h0 h2 L.deb).mono λe w' hx=>⟨hx.1,by rw[hx.2];exact Below.refl _ _⟩)
theorem aaI {u b y}(hx:eK n u b h=some (y,h1)):∃m:Nat,u=m/\m<18446744073709551616/\b=10/\y=⟨(Lib.itoa m).toArray⟩/\h1=h:=by
 unfold eK at hx;split at hx
 .rename_i hc;cases hx;obtain⟨m,rfl⟩:∃m:Nat,u=m:=⟨u.toNat,by omega⟩
  grind
 .simp[AS] at hx
theorem xp n:aK Tryz.prog ⟨179,[.one (.int .u64),.one (.int .i64)],[.one .str],λx=>eK n x.1 x.2⟩:=by
 intro x;refine iw.of (λargs w=>jc (fn:=Tryz.f179) (by kernel_rfl) (by kernel_rfl) (by kernel_rfl) args w) ?_;intro F h y h1 hx ι w vs' R hl;obtain rfl:=bz.mH hl rfl;obtain⟨m,hm,h2,h3,rfl,rfl⟩:=aaI (n:=n) hx;have e:x=((m:Int),(10:Int)):=by rw[<-hm,<-h3]
 rw[e];exact lg R (.flat _ rfl) (V6 m h2 w (V7 (R.Ea w R.nF)))
theorem QR p w:(callFunc 75 #[.pointer p]).run Tryz.prog w=.ok (.value (.pointer p)) w:=by kernel_rfl
theorem QS a b w:(callFunc 86 #[.string a,.string b]).run Tryz.prog w=.ok (.value (.int .i64 (aaD a b))) w:=by kernel_rfl
theorem Cr n:aK Tryz.prog ⟨75,[.one .ptr],[.one .ptr],λx=>rV n x⟩:=by
 intro x;refine⟨.inr ?_,λhe=>?_⟩
 .intro F h y h1 hx ι w vs' R hl;cases hx;obtain⟨v',e1,e2⟩:=hl.one;have hvs:vs'=#[v']:=ahl (by simpa using e1);subst hvs;obtain⟨p',rfl,hp⟩:=aW.ZX e2;exact⟨.pointer p',w,ι,QR p' w,e2,R,.refl _⟩
 .intro F h y h1 hx ι w vs' R hl;have:=(he #[.pointer none] w).symm.trans (QR none w);cases this
theorem p7 n:aK Tryz.prog ⟨86,[.one .str,.one .str],[.one (.int .i64)],λx=>cT n x.1 x.2⟩:=by
 intro x;refine⟨.inr ?_,λhe=>?_⟩
 .intro F h y h1 hx ι w vs' R hl;cases hx;obtain rfl:=bz.mH hl rfl;exact⟨.int .i64 (aaD x.1 x.2),w,ι,QS x.1 x.2 w,.flat _ rfl,R,.refl _⟩
 .intro F h y h1 hx ι w vs' R hl;have:=(he #[.string .empty,.string .empty] w).symm.trans (QS .empty .empty w);cases this
theorem u7 n:aK Tryz.prog ⟨55,[.one .str],[.one .bool],λx=>eW n x⟩:=by
 intro x;refine iw.of (λargs w=>jc (fn:=Tryz.f55) (by kernel_rfl) (by kernel_rfl) (by kernel_rfl) args w) ?_;intro F h y h1 hx ι w vs' R hl;obtain rfl:=bz.mH hl rfl;have hx:eW n x h=some (y,h1):=hx;unfold eW at hx;split at hx
 .rename_i hc;cases hx;have L:=R.Ea w R.nF;exact lg R (.flat _ rfl) (Tryz.utf8_ValidString x w hc ⟨L.first,L.accept⟩)
 .simp[AS] at hx
end Go.Sh
