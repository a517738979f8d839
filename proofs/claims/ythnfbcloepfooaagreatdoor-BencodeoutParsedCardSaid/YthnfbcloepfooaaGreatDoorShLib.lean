
import Derived.Test.YthnfbcloepfooaaGreatDoorShT
import Derived.Test.YthnfbcloepfooaaGreatDoorAgoL
import Derived.Test.YthnfbcloepfooaaGreatDoorChk
import Derived.Lib.AppendIntMem
set_option linter.all false
namespace Go.Sh
open Go Go.Ago Go.Proofs Go.RowKit
def ga (b:UInt8):Bool:=Nat.ble 48 b.toNat&&Nat.ble b.toNat 57
def decFrom (a:Nat)(D:List UInt8):Nat:=D.foldl (λa b=>10*a+(b.toNat-48)) a
def eC (D:List UInt8):Nat:=decFrom 0 D
def u8 (s:ζ):Bool:=(oh s (s.size+1) 0).isNone
def strings_IndexByte (_:Nat)(s:ζ)(c:Int):M Int:=AS (Lib.indexByte s.data.toList c.toNat.toUInt8)
def strings_Compare (_:Nat)(s t:ζ):M Int:=AS (Lib.compareBytes s.data.toList t.data.toList)
def fQ (_:Nat)(s:ζ):M (Int×Int):=AS (Uv (oh s (s.size+1) 0),Er (oh s (s.size+1) 0))
def strconv_Itoa (_:Nat)(n:Int):M ζ:=if -9223372036854775808<=n/\n<=9223372036854775807 then AS ⟨(Lib.itoa n).toArray⟩ else AT
def jo (_:Nat)(x:Int):M Int:=if 0<=x/\x<=18446744073709551615 then AS (Lib.bitLen x.toNat) else AT
def oi (_:Nat)(p:θ):M θ:=AS p
def dW (_:Nat)(s:ζ):M Bool:=if s.size<=9223372036854775807 then AS (Lib.validD s.data.toList) else AT
def strconv_Atoi (_:Nat)(s:ζ):M (Int×ξ):=
 if (s.size≠0/\s.size<=281474976710656)/\s.data.toList.all ga=true then
  (if eC s.data.toList<=9223372036854775807 then AS ((eC s.data.toList:Int),.nilIface)
  else AI VZ λb=>AS (9223372036854775807,.iface vK (.pointer (some ⟨b,0,none⟩))))
 else AT
theorem wq (n:Nat):bz Tryz.prog ⟨47,[.one .str,.one (.int .u8)],[.one (.int .i64)],λx=>strings_IndexByte n x.1 x.2⟩:=by
 intro x;refine iS.of (λargs w=>lM (fn:=Tryz.f47) (by kernel_rfl) (by kernel_rfl) (by kernel_rfl) args w) ?_;intro F h y h1 hx ι w vs' R hl;cases hx;obtain rfl:=bN.u7 hl rfl;exact rK R (.flat _ rfl) ((Tryz.strings_IndexByte x.1 x.2 w).mono λe w' hx=>⟨hx.1,by rw[hx.2];exact Below.refl _ _⟩)
theorem yw (n:Nat):bz Tryz.prog ⟨43,[.one .str,.one .str],[.one (.int .i64)],λx=>strings_Compare n x.1 x.2⟩:=by
 intro x;refine iS.of (λargs w=>lM (fn:=Tryz.f43) (by kernel_rfl) (by kernel_rfl) (by kernel_rfl) args w) ?_;intro F h y h1 hx ι w vs' R hl;cases hx;obtain rfl:=bN.u7 hl rfl;exact rK R (.flat _ rfl) ((Tryz.strings_Compare x.1 x.2 w).mono λe w' hx=>⟨hx.1,by rw[hx.2];exact Below.refl _ _⟩)
theorem yx (n:Nat):bz Tryz.prog ⟨51,[.one .str],[.one (.int .i64),.one (.int .i64)],λx=>fQ n x⟩:=by
 intro x;refine iS.of (λargs w=>lM (fn:=Tryz.f51) (by kernel_rfl) (by kernel_rfl) (by kernel_rfl) args w) ?_;intro F h y h1 hx ι w vs' R hl;cases hx;obtain rfl:=bN.u7 hl rfl;have L:=R.Cd w R.j7;refine rK R (.tuple _ _ rfl λi v v' h1 h2=>?_) (IA x w ⟨L.first,L.accept⟩)
 have e:v'=v:=by rw[h1] at h2;exact (aao h2).symm
 subst e
 match i,h1 with
 |0,h1=>cases h1;exact .flat _ rfl
 |1,h1=>cases h1;exact .flat _ rfl
theorem Es {c:UInt8}:ga c=true↔48<=c.toNat/\c.toNat<=57:=by
 unfold ga;simp
theorem CM:∀(D:List UInt8) (a:Nat),a<=decFrom a D
 |[],a=>aai _
 |c::D,a=>by
  have:=CM D (10*a+(c.toNat-48));show a<=decFrom (10*a+(c.toNat-48)) D;omega
theorem zo:∀(D:List UInt8) (a:Nat),D.all ga=true->a<18446744073709551616 ->
  (decFrom a D<18446744073709551616->Lib.parseUint10 a D=.ok (decFrom a D))/\(18446744073709551616<=decFrom a D->Lib.parseUint10 a D=.range)
 |[],a,_,ha=>⟨λ_=>rfl,λh=>by have h:18446744073709551616<=a:=h;omega⟩
 |c::D,a,hd,ha=>by
  rw[abA,aaf] at hd;have hc:=Es.1 hd.1;have e:decFrom a (c::D)=decFrom (a*10+(c.toNat-48)) D:=by
   show decFrom (10*a+(c.toNat-48)) D=_;rw[Nat.mul_comm]
  have hle:=CM D (a*10+(c.toNat-48));rw[e];have ih:=zo D (a*10+(c.toNat-48)) hd.2;simp only[Lib.parseUint10,hc,and_self,aav];by_cases h1:1844674407370955162<=a
  .rw[BY h1];exact⟨λh=>by omega,λ_=>rfl⟩
  .rw[By h1];by_cases h2:18446744073709551616<=a*10+(c.toNat-48)
   .rw[BY h2];exact⟨λh=>by omega,λ_=>rfl⟩
   .rw[By h2];exact ih (by omega)
theorem IB {D:List UInt8}(hd:D.all ga=true)(hn:D≠[]) :
  (eC D<=9223372036854775807->Lib.atoiAll D=.ok (eC D:Int))/\(9223372036854775807<eC D->Lib.atoiAll D=.range/\Lib.atoiSat D=9223372036854775807):=by
 cases D with
 |nil=>exact absurd rfl hn
 |cons c r=>
  have hc:=hd;rw[abA,aaf] at hc;have hc:=Es.1 hc.1;obtain⟨p1,p2⟩:=zo (c::r) 0 hd (by omega);have hpm:Lib.parseMag (c::r)=Lib.parseUint10 0 (c::r):=by unfold Lib.parseMag;rw[By (by simp)]
  have h43:¬(c.toNat=43\/c.toNat=45):=by omega
  have h45:¬c.toNat=45:=by omega
  have sat:Lib.atoiSat (c::r)=9223372036854775807:=by
   unfold Lib.atoiSat;rw[By (by simp;omega)]
  refine⟨λh=>?_,λh=>⟨?_,sat⟩⟩
  .have p1:=p1 (by show eC (c::r)<_;omega);have h:decFrom 0 (c::r)<=9223372036854775807:=h;rw[Lib.atoiAll_plain c r (by omega) (by omega),hpm,p1];simp only[Lib.signless];rw[By (by omega)];rfl
  .by_cases h2:18446744073709551616<=eC (c::r)
   .have p2:=p2 h2;rw[Lib.atoiAll_plain c r (by omega) (by omega),hpm,p2];rfl
   .have p1:=p1 (by show eC (c::r)<_;omega);have h:9223372036854775807<decFrom 0 (c::r):=h;rw[Lib.atoiAll_plain c r (by omega) (by omega),hpm,p1];simp only[Lib.signless];rw[BY (by omega)]
theorem strconv_Atoi_ok (n:Nat):bz Tryz.prog ⟨74,[.one .str],[.one (.int .i64),.one .raw],λx=>strconv_Atoi n x⟩:=by
 intro x;refine iS.of (λargs w=>lM (fn:=Tryz.f74) (by kernel_rfl) (by kernel_rfl) (by kernel_rfl) args w) ?_;intro F h y h1 hx ι w vs' R hl;obtain rfl:=bN.u7 hl rfl;have hx:strconv_Atoi n x h=some (y,h1):=hx;unfold strconv_Atoi at hx;have two:∀{ι:gy} {a b a' b':ξ},bg Tryz.prog ι a a'->bg Tryz.prog ι b b'->bg Tryz.prog ι (.tuple #[a,b]) (.tuple #[a',b']):=λha hb=>.tuple _ _ rfl λi v v' q1 q2=>by
  match i,q1,q2 with
  |0,q1,q2=>cases q1;cases q2;exact ha
  |1,q1,q2=>cases q1;cases q2;exact hb
 split at hx
 .rename_i hc;have hne:x.data.toList≠[]:=λe=>hc.1.1 (by have:x.data.toList.length=x.size:=rfl;rw[e] at this;exact this.symm);obtain⟨a1,a2⟩:=IB hc.2 hne;split at hx
  .rename_i hv;cases hx;refine (Tryz.strconv_Atoi_ok x (by have:=hc.1.2;omega) _ (a1 hv) w).mono λe w' hx=>?_;obtain⟨rfl,hw⟩:=hx;refine⟨_,ι,rfl,two (.flat _ rfl) (.flat _ rfl),?_,.refl _⟩;rcases hw with rfl|⟨t,rfl⟩
   .exact R
   .exact R.below (Lib.bytesWorld_below _ _ _)
  .rename_i hv;obtain⟨b1,b2⟩:=a2 (by omega);have L:=R.Cd w R.j7;obtain⟨ev,e1,e2⟩:=L.XC;simp only[AI,VZ,AS,IN,abm] at hx;obtain⟨rfl,rfl⟩:=hx;refine (Tryz.strconv_Atoi_range x hc.1.2 b1 ev w e1 e2).mono λe w' hx=>?_;obtain⟨N,rfl,hN,hw,hb⟩:=hx;obtain⟨ι',q1,q2,q3⟩:=(R.below hb).VZ hw;refine⟨_,ι',rfl,?_,q3,q1⟩;rw[b2];refine two (.flat _ rfl) (.iface _ _ _ (.ptr _ _ ⟨rfl,rfl,_,q2,rfl,rfl⟩))
 .simp[AT] at hx
theorem V0 {w : World} (L : jz w) : Lib.TabIs Tryz.prog w "internal/strconv.uint64pow10" .u64 Lib.pow10Tab :=by
 obtain⟨t,fz,hp⟩:=L.pow;show World.var? Tryz.prog w "internal/strconv.uint64pow10" = _
 unfold World.var?;rw[show Tryz.prog.globalNamed "internal/strconv.uint64pow10" = some 6 by kernel_rfl]
 simp only[aaA,hp]
theorem Bc (n:Nat):bz Tryz.prog ⟨67,[.one (.int .i64)],[.one .str],λx=>strconv_Itoa n x⟩:=by
 intro x;refine iS.of (λargs w=>lM (fn:=Tryz.f67) (by kernel_rfl) (by kernel_rfl) (by kernel_rfl) args w) ?_;intro F h y h1 hx ι w vs' R hl;obtain rfl:=bN.u7 hl rfl;have hx:strconv_Itoa n x h=some (y,h1):=hx;unfold strconv_Itoa at hx;split at hx
 .rename_i hc;cases hx;have htab:=V0 (R.Cd w R.j7);exact rK R (.flat _ rfl) ((Tryz.strconv_Itoa x hc.1 hc.2 w htab).mono λe w' hx=>⟨hx.1,by
   obtain⟨_,k,os,rfl⟩:=hx;exact Lib.below_grow _ _ (aai _) _ _⟩)
 .simp[AT] at hx
theorem yy (n:Nat):bz Tryz.prog ⟨94,[.one (.int .u64)],[.one (.int .i64)],λx=>jo n x⟩:=by
 intro x;refine iS.of (λargs w=>lM (fn:=Tryz.f94) (by kernel_rfl) (by kernel_rfl) (by kernel_rfl) args w) ?_;intro F h y h1 hx ι w vs' R hl;obtain rfl:=bN.u7 hl rfl;have hx:jo n x h=some (y,h1):=hx;unfold jo at hx;split at hx
 .rename_i hc;cases hx;exact rK R (.flat _ rfl) ((Tryz.bits_Len64 x w hc.1 hc.2).mono λe w' hx=>⟨hx.1,by rw[hx.2];exact Below.refl _ _⟩)
 .simp[AT] at hx
theorem LI (p:θ)(w:World):(callFunc 84 #[.pointer p]).run Tryz.prog w=.ok (.value (.pointer p)) w:=by kernel_rfl
theorem zp (n:Nat):bz Tryz.prog ⟨84,[.one .ptr],[.one .ptr],λx=>oi n x⟩:=by
 intro x;refine⟨.inr ?_,λhe=>?_⟩
 .intro F h y h1 hx ι w vs' R hl;cases hx;obtain⟨v',e1,e2⟩:=hl.one;have hvs:vs'=#[v']:=aaS (by simpa using e1);subst hvs;obtain⟨p',rfl,hp⟩:=bg.SK (p:=x) e2;exact⟨.pointer p',w,ι,LI p' w,e2,R,.refl _⟩
 .intro F h y h1 hx ι w vs' R hl;have:=(he #[.pointer none] w).symm.trans (LI none w);cases this
theorem rf (n:Nat):bz Tryz.prog ⟨62,[.one .str],[.one .bool],λx=>dW n x⟩:=by
 intro x;refine iS.of (λargs w=>lM (fn:=Tryz.f62) (by kernel_rfl) (by kernel_rfl) (by kernel_rfl) args w) ?_;intro F h y h1 hx ι w vs' R hl;obtain rfl:=bN.u7 hl rfl;have hx:dW n x h=some (y,h1):=hx;unfold dW at hx;split at hx
 .rename_i hc;cases hx;have L:=R.Cd w R.j7;exact rK R (.flat _ rfl) (Tryz.utf8_ValidString x w hc ⟨L.first,L.accept⟩)
 .simp[AT] at hx
end Go.Sh
