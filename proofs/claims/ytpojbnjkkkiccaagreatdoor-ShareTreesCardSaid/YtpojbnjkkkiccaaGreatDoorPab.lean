
import Derived.Test.YtpojbnjkkkiccaaGreatDoorPaa
set_option linter.all false
namespace Go.Sh
open Go Go.Ago Go.Proofs
section
def zC (b:UInt8):Bool:=b==45||decide (48<=b.toNat/\b.toNat<=57)
def LP (b:UInt8):Bool:=zC b||b==46||b==58||b==84
def CS (p:UInt8->Bool)(s:ζ):Prop:=∀b∈s.data.toList,p b=true
def UK {b:UInt8}(h:zC b=true):LP b=true:=by unfold LP;rw[h];rfl
def CS.mom {s:ζ}(h:CS zC s):CS LP s:=λb hb=>UK (h b hb)
theorem CS.app {p:UInt8->Bool}{x y z:ζ}(h1:CS p x)(h2:CS p y)(e:z.data.toList=x.data.toList++y.data.toList):CS p z:=λb hb=>by
 rw[e,afK] at hb;exact hb.elim (h1 b) (h2 b)
def UL:∀(u:Nat),∀b∈Lib.decDigits u,zC b=true:=by
 intro u b hb;rw[Lib.decDigits_eq] at hb;obtain⟨t,_,rfl⟩:=List.mem_map.1 hb;unfold zC Lib.dg;have h:(UInt8.ofNat (48+u/10^(Lib.nDigits u-1-t)%10)).toNat=48+u/10^(Lib.nDigits u-1-t)%10:=by
  rw[UInt8.toNat_ofNat'];omega
 simp only[anU,aca];right;rw[h];omega
def Qe (e:Int):∀b∈Lib.itoa e,zC b=true:=by
 intro b hb;unfold Lib.itoa at hb;split at hb
 .rcases List.mem_cons.1 hb with rfl|hb
  .rfl
  .exact UL _ b hb
 .exact UL _ b hb
def aa8 (u:Nat):0<Lib.nDigits u:=by
 rw[Lib.nDigits];split<;>omega
def Qf (e:Int):0<(Lib.itoa e).length:=by
 unfold Lib.itoa;split
 .simp
 .rw[Lib.decDigits_length];exact aa8 _
def aeW {l:List UInt8}{p:UInt8->Bool}(h:∀b∈l,p b=true):∀(c:Nat),∀b∈Lib.repeatL l c,p b=true:=by
 intro c
 induction c with
 |zero=>intro b hb;cases hb
 |succ c ih=>
  intro b hb;unfold Lib.repeatL at hb;rcases List.mem_append.1 hb with hb|hb
  .exact h b hb
  .exact ih b hb
def aa9 {l:List UInt8}{c:UInt8}:∀b∈Lib.trimRightB l c,b∈l:=by
 intro b hb;unfold Lib.trimRightB at hb;have:=(apP (·==c) (l:=l.reverse)).subset (List.mem_reverse.1 hb)
 exact List.mem_reverse.1 this
def TX (s:ζ):Prop:=CS LP s/\∃c t,s.data.toList=c::t/\((45:UInt8)∈t\/(58:UInt8)∈t)
theorem TX.app {x y z:ζ}(h1:TX x)(h2:CS LP y)(e:z.data.toList=x.data.toList++y.data.toList):TX z:=by
 obtain⟨a,c,t,e1,h⟩:=h1;refine⟨a.app h2 e,c,t++y.data.toList,by rw[e,e1];rfl,?_⟩;simp only[afK]
 grind
def TX.pre {x y z:ζ}(h1:CS LP x)(h2:TX y)(e:z.data.toList=x.data.toList++y.data.toList):TX z:=by
 obtain⟨a,c,t,e1,h⟩:=h2;refine⟨h1.app a e,?_⟩;cases hx:x.data.toList with
 |nil=>exact⟨c,t,by rw[e,hx,e1];rfl,h⟩
 |cons b r=>
  refine⟨b,r++c::t,by rw[e,hx,e1];rfl,?_⟩;simp only[afK,aok]
  grind
def TX.mk' {x z:ζ}{b:UInt8}(h0:0<x.size)(h1:CS zC x)(hb:b=45\/b=58)(e:z.data.toList=x.data.toList++[b]):TX z:=by
 refine⟨λd hd=>?_,?_⟩
 .rw[e,afK] at hd;rcases hd with hd|hd
  .exact UK (h1 d hd)
  .obtain rfl:=List.mem_singleton.1 hd;rcases hb with rfl|rfl<;>decide
 .cases hx:x.data.toList with
  |nil=>
   have:x.data.toList.length=x.size:=rfl;rw[hx] at this;simp at this;omega
  |cons c t=>
   refine⟨c,t++[b],by rw[e,hx];rfl,?_⟩;simp only[afK,ac1]
   grind
end
section
def aeX (b:UInt8):Bool:=zC b||b==112||b==110||b==97||b==105||b==102
def FX (s:ζ):Prop:=CS aeX s/\((112:UInt8)∈s.data.toList\/(110:UInt8)∈s.data.toList)
def UM {b:UInt8}(h:zC b=true):aeX b=true:=by unfold aeX;rw[h];rfl
def FX.pre {x y z:ζ}(h1:CS zC x)(h2:FX y)(e:z.data.toList=x.data.toList++y.data.toList):FX z:=by
 refine⟨CS.app (λb hb=>UM (h1 b hb)) h2.1 e,?_⟩;rw[e];simp only[afK];exact h2.2.elim (λh=>.inl (.inr h)) λh=>.inr (.inr h)
theorem FX.app {x y z:ζ}(h1:FX x)(h2:CS zC y)(e:z.data.toList=x.data.toList++y.data.toList):FX z:=by
 refine⟨CS.app h1.1 (λb hb=>UM (h2 b hb)) e,?_⟩;rw[e];simp only[afK];exact h1.2.elim (λh=>.inl (.inl h)) λh=>.inr (.inl h)
variable {Q X:List UInt8->List UInt8}
end
section
variable {α β:Type}{h h' h0:ai}{L:List aZ}{Q:β->ai->Prop}
def PP (P:α->Prop)(m:Nat->M α):Prop:=∃x,P x/\∀n h,m n h=some (x,h)
abbrev Any:α->Prop:=λ_=>True
def PP.pure {P:α->Prop}{x:α}(hx:P x):PP P λ_=>AI x:=⟨x,hx,λ_ _=>rfl⟩
theorem PP.bind {P:α->Prop}{R:β->Prop}{m:Nat->M α}{f:Nat->α->M β}(hm:PP P m)(hf:∀x,P x->PP R λn=>f n x):PP R λn=>sh (m n) (f n):=by
 obtain⟨x,hx,h1⟩:=hm
 grind [sh]
def PP.ite {P:α->Prop}{c:Prop}[Decidable c]{a b:Nat->M α}(ha:c->PP P a)(hb:¬c->PP P b):PP P λn=>if c then a n else b n:=by
 by_cases hc:c
 .simp_all
 simp_all
def PP.mono {P P':α->Prop}{m:Nat->M α}(hm:PP P m)(hp:∀x,P x->P' x):PP P' m:=let ⟨x,hx,h1⟩:=hm;⟨x,hp x hx,h1⟩
theorem PP.ck {b:Bool}(hb:b=true):PP (Any:Unit->Prop) λ_=>pD b:=⟨(),trivial,λ_ h=>by rw[hb];rfl⟩
theorem PP.cat {x y:ζ}(hs:x.size+y.size<=da):PP (λz:ζ=>z.size=x.size+y.size/\z.data.toList=x.data.toList++y.data.toList) λ_=>kc x y:=⟨x++y,⟨by rw[anN],by simp⟩,λ_ h=>by show (if x.size+y.size<=da then some (x++y,h) else none)=_;rw[By hs]⟩
def NaN (b:Nat):Bool:=(FloatKind.f64.format.read b).isNaN
theorem akw {a b:Nat}(ha:NaN a=false)(hb:∃s m p,FloatKind.f64.format.read b=.number s m p/\m≠0):PP (Any:Nat->Prop) λ_=>OE a b:=by
 obtain⟨s,m,p,h1,h2⟩:=hb;have:∃r,FloatKind.f64.format.mul a b=some r:=by
  unfold Ieee.Format.mul;rw[h1];unfold NaN at ha;cases hr:FloatKind.f64.format.read a with
  |number t n q=>exact⟨_,rfl⟩
  |infinity t=>simp only[Ieee.Datum.product,AT h2,amS];exact⟨_,rfl⟩
  |nan t q=>rw[hr] at ha;cases ha
 obtain⟨r,hr⟩:=this;exact⟨r,trivial,λ_ h=>by unfold OE;rw[hr];rfl⟩
theorem aeY {a b:Nat}(hb:NaN b=false)(ha:∃s m p,FloatKind.f64.format.read a=.number s m p/\m≠0):PP (Any:Nat->Prop) λ_=>OE a b:=by
 obtain⟨s,m,p,h1,h2⟩:=ha;have:∃r,FloatKind.f64.format.mul a b=some r:=by
  unfold Ieee.Format.mul;rw[h1];unfold NaN at hb;cases hr:FloatKind.f64.format.read b with
  |number t n q=>exact⟨_,rfl⟩
  |infinity t=>simp only[Ieee.Datum.product,AT h2,amS];exact⟨_,rfl⟩
  |nan t q=>rw[hr] at hb;cases hb
 obtain⟨r,hr⟩:=this;exact⟨r,trivial,λ_ h=>by unfold OE;rw[hr];rfl⟩
def akx {a:Nat}(h:AH a a=true):NaN a=false:=by
 unfold AH Ieee.Format.order at h;unfold NaN;cases hr:FloatKind.f64.format.read a with
 |number t n q=>rfl
 |infinity t=>rfl
 |nan t q=>rw[hr] at h;simp[Ieee.Datum.order] at h
def S0 {b:Nat}{s:Bool}{m:Nat}{p:Int}(h:FloatKind.f64.format.read b=.number s m p)(hm:m≠0):∃s m p,FloatKind.f64.format.read b=.number s m p/\m≠0:=⟨s,m,p,h,hm⟩
def aeZ {b:Nat}(h:b%9223372036854775808<9218868437227405312):NaN b=false:=by
 unfold NaN FloatKind.format Ieee.Format.read;have e1:Ieee.double.signWeight=9223372036854775808:=by decide +kernel
 have e2:Ieee.double.infRung=9218868437227405312:=by decide +kernel
 simp only[e1];rw[e2];split
 .rfl
 .rfl
theorem Ay {x:Int}(h1:0<=x)(h2:x<18446744073709551616):IntKind.u64.wrap x=x:=by rw[IntKind.wrap_u64];omega
def Ks (x:Int):0<=IntKind.u64.wrap x/\IntKind.u64.wrap x<18446744073709551616:=by rw[IntKind.wrap_u64];omega
def S5 (x:Int):-9223372036854775808<=IntKind.i64.wrap x/\IntKind.i64.wrap x<=9223372036854775807:=by rw[IntKind.wrap_i64];omega
def field (a1:Int)(e:Nat)(he:e<=2046) :
  NaN (IntKind.u64.wrap ((BitVec.ofInt 64 (IntKind.u64.wrap ((BitVec.ofInt 64 a1&&&~~~BitVec.ofInt 64 9218868437227405312).toNat:Int))|||BitVec.ofInt 64 (IntKind.u64.wrap (IntKind.u64.wrap (e:Int)*2^52))).toNat:Int)).toNat=false:=by
 have hA:(BitVec.ofInt 64 a1&&&~~~BitVec.ofInt 64 9218868437227405312).toNat%9223372036854775808<4503599627370496:=by
  rw[apF];have hc:(~~~BitVec.ofInt 64 9218868437227405312).toNat=9227875636482146303:=by decide +kernel
  rw[hc,show (9223372036854775808:Nat)=2^63 from rfl,Nat.and_mod_two_pow,show 9227875636482146303%2^63=2^52-1 from rfl,apc];exact an5 _ (by decide)
 have hlt:(BitVec.ofInt 64 a1&&&~~~BitVec.ofInt 64 9218868437227405312).toNat<18446744073709551616:=(BitVec.ofInt 64 a1&&&~~~BitVec.ofInt 64 9218868437227405312).isLt;generalize (BitVec.ofInt 64 a1&&&~~~BitVec.ofInt 64 9218868437227405312).toNat=A at hA hlt⊢;rw[Ay (x:=(A:Int)) (by omega) (by omega),Ay (x:=(e:Int)) (by omega) (by omega),Ay (x:=(e:Int)*2^52) (by omega) (by omega),BitVec.toNat_or,amg,amg];have e1:((A:Int)%(2^64:Nat)).toNat=A:=by omega
 have e2:((e:Int)*2^52%(2^64:Nat)).toNat=e*4503599627370496:=by omega
 rw[e1,e2];have hor:A|||e*4503599627370496<18446744073709551616:=Nat.or_lt_two_pow (n:=64) hlt (by omega);rw[Ay (by omega) (by omega),aba];refine aeZ ?_;rw[show (9223372036854775808:Nat)=2^63 from rfl,Nat.or_mod_two_pow];have h1:A%2^63<2^52:=hA;have h2:e*4503599627370496%2^63=e*4503599627370496:=Nat.mod_eq_of_lt (by omega);rw[h2];have h3:A%2^63|||e*4503599627370496<=A%2^63+e*4503599627370496:=by
  rw[show e*4503599627370496=e <<< 52 by rw[an8],Nat.or_comm,<-apj h1,ao9];exact abi _
 omega
def abb (x:Int):0<=Uh x/\Uh x<64:=by
 unfold Uh;have:=Ks (bits BinOp.and IntKind.u64 x (IntKind.u64.wrap (-x))*285870213051353865);omega
theorem aky (i:Nat):M5 i<64:=by
 unfold M5;by_cases hi:i<64
 .have h1:Lg.all (·<64)=true:=by decide
  have h2:i<Lg.length:=hi
  simp_all
 .have h2:Lg.length<=i:=by have:Lg.length=64:=rfl;omega
  grind
theorem amT (x:Int):PP (λy:Int=>0<=y/\y<=64) λn=>db n x:=by
 unfold db;refine PP.ite (λ_=>PP.pure (by omega)) λ_=>PP.ite (λhc=>PP.pure ?_) λhc=>absurd (abb x) hc
 grind [aky,Uh,Go.RowKit.wrap64]
def CP (b:Nat):PP (λy:Int=>y=b) λn=>bW n b:=PP.pure rfl
def CQ (x:Int):PP (λy:Nat=>y=x.toNat) λn=>bC n x:=PP.pure rfl
def S6 (b:Nat):PP (Any:Nat->Prop) λn=>rh n b:=(CP b).bind λx _=>(CQ _).bind λy _=>PP.pure trivial
def S7 (x:Int):PP (Any:Nat->Prop) λn=>vF n x:=PP.ite (λ_=>(CQ _).bind λy _=>PP.pure trivial) λ_=>(CQ _).bind λy _=>PP.pure trivial
def abc:PP (Any:Nat->Prop) λn=>J4 n:=(CQ _).bind λy _=>PP.pure trivial
def IZ (a b:Nat):PP (Any:Nat->Prop) λn=>jZ n a b:=(CP a).bind λx _=>(CP b).bind λy _=>(CQ _).bind λy _=>PP.pure trivial
def Kt (a:Nat)(x:Int):PP (Any:Bool->Prop) λn=>nZ n a x:=PP.ite (λ_=>(S6 a).bind λy _=>PP.pure trivial) λ_=>PP.ite (λ_=>PP.pure trivial) λ_=>PP.pure trivial
def ae0 (a:Nat):PP (Any:Bool->Prop) λn=>lG n a:=(CP a).bind λx _=>PP.pure trivial
def NR {a:Nat}(ha:NaN a=false):PP (Any:Nat×Int->Prop) λn=>xz n a:=by
 refine (S6 a).bind λy _=>PP.ite (λ_=>(akw ha ?_).bind λz _=>PP.pure trivial) λ_=>PP.pure trivial;exact S0 (s:=false) (m:=4503599627370496) (p:=0) (by decide +kernel) (by decide)
def ahw {e a1:Int}{c:Nat}(h1:-1022<=e)(h2:e<=1023)(hc:∃s m p,FloatKind.f64.format.read c=.number s m p/\m≠0):PP (Any:Nat->Prop) λn=>vq n e a1 c:=by
 refine (PP.ck (by decide)).bind λ_ _=>(CQ _).bind λy hy=>(aeY ?_ hc).bind λz _=>PP.pure trivial;rw[hy,xQ (by omega) (by omega)];obtain⟨k,hk⟩:∃k:Nat,e+1023=k:=⟨(e+1023).toNat,by omega⟩;rw[hk];exact field a1 k (by omega)
def Qg (a:Nat)(e:Int):PP (Any:Nat->Prop) λn=>EH n a e:=by
 refine PP.bind (P:=Any) ?_ λy _=>PP.pure trivial;refine PP.ite (λ_=>PP.pure trivial) λ_=>(Kt a 0).bind λb _=>PP.ite (λ_=>PP.pure trivial) λ_=>PP.bind (P:=λb=>b=!AH a a) (PP.pure rfl) λb hb=>PP.ite (λ_=>PP.pure trivial) λhn=>?_;have ha:NaN a=false:=akx (by subst hb;simpa using hn);refine (NR ha).bind λx _=>(CP _).bind λx1 _=>(PP.ck (by decide)).bind λ_ _=>?_;generalize IntKind.i64.wrap (IntKind.i64.wrap (e+x.2)+IntKind.i64.wrap (IntKind.i64.wrap (↑(BitVec.ofInt 64 (IntKind.i64.wrap (Int.fdiv x1 (2^52)))&&&BitVec.ofInt 64 2047).toNat:Int)-1023))=E;refine PP.ite (λ_=>(IZ _ _).bind λ_ _=>PP.pure trivial) λg1=>PP.ite (λ_=>PP.ite (λ_=>(S7 _).bind λ_ _=>PP.pure trivial) λ_=>(S7 _).bind λ_ _=>PP.pure trivial) λg2=>PP.ite (λg3=>?_) λg3=>?_
 .simp only[aca] at g1 g2 g3;rw[xQ (by omega) (by omega)];exact ahw (by omega) (by omega) (S0 (s:=false) (m:=4503599627370496) (p:=-105) (by decide +kernel) (by decide))
 .simp only[aca] at g1 g2 g3;exact ahw (by omega) (by omega) (S0 (s:=false) (m:=4503599627370496) (p:=-52) (by decide +kernel) (by decide))
def Mn {m e:Int}(h1:0<=m)(h2:m<18446744073709551616):PP (λx:Int×Int=>(0<=x.1/\x.1<18446744073709551616)/\(-9223372036854775808<=x.2/\x.2<=9223372036854775807)) λn=>rF n m e:=by
 refine (amT m).bind λy hy=>(PP.ck (by simpa using hy.1)).bind λ_ _=>PP.pure ⟨?_,S5 _⟩;have hp:(0:Int)<2^min y.toNat 64:=Int.pow_pos (by decide);rw[Int.fdiv_eq_ediv_of_nonneg _ (aqb hp)];have h3:=Int.ediv_nonneg h1 (aqb hp);have h4:=Int.ediv_le_self (a:=m) (2^min y.toNat 64) h1;exact⟨h3,by omega⟩
def Qh (a:Nat):PP (λx:Int×Int=>(0<=x.1/\x.1<18446744073709551616)/\(-9223372036854775808<=x.2/\x.2<=9223372036854775807)) λn=>n7 n a:=
 (S6 a).bind λx _=>(CP x).bind λy _=>(PP.ck (by decide)).bind λ_ _=>PP.ite (λ_=>Mn (Ks _).1 (Ks _).2) λ_=>Mn (Ks _).1 (Ks _).2
def UN {e:Int}(h1:-9223372036854775808<=e)(h2:e<18446744073709551616):(Lib.itoa e).length<=21:=by
 unfold Lib.itoa;split
 .rw[abK,Lib.decDigits_length];have:=IX 20 e.natAbs (by omega) (by omega);omega
 .rw[Lib.decDigits_length];have:=IX 20 e.toNat (by omega) (by omega);omega
def ahx {u:Int}(h1:0<=u)(h2:u<18446744073709551616):PP (λx:ζ=>x.size<=21/\0<x.size/\CS zC x) λn=>rW n u 10:=by
 refine PP.bind (P:=λx:ζ=>x.size<=21/\0<x.size/\CS zC x) ?_ λx hx=>PP.pure hx;unfold gm;refine PP.ite (λ_=>PP.pure ?_) λhn=>absurd ⟨h1,h2,rfl⟩ hn;have:=UN (e:=u) (by omega) h2;have:=Qf u;refine⟨?_,?_,Qe u⟩
 .show (Lib.itoa u).toArray.size<=21;simp;omega
 .show 0<(Lib.itoa u).toArray.size;simp;omega
def abd {e:Int}(h1:-9223372036854775808<=e)(h2:e<=9223372036854775807):PP (λx:ζ=>x.size<=21/\0<x.size/\CS zC x) λn=>strconv_Itoa n e:=by
 unfold strconv_Itoa;refine PP.ite (λ_=>PP.pure ?_) λhn=>absurd ⟨h1,h2⟩ hn;have:=UN (e:=e) h1 (by omega);have:=Qf e;refine⟨?_,?_,Qe e⟩
 .show (Lib.itoa e).toArray.size<=21;simp;omega
 .show 0<(Lib.itoa e).toArray.size;simp;omega
def fxl {l:List UInt8}(h:l.all aeX=true)(h2:(112:UInt8)∈l\/(110:UInt8)∈l):FX (ofBytes l):=⟨λb hb=>List.all_eq_true.1 h b hb,h2⟩
def FX.trim {s:ζ}(h:FX ⟨(Lib.trimPrefix s.data.toList [45]).toArray⟩):FX s:=by
 unfold FX CS at h⊢;simp only at h;generalize s.data.toList=l at h⊢;unfold Lib.trimPrefix at h;split at h
 .cases l with
  |nil=>simp at h
  |cons c r=>
   rename_i hp;have hc:c=45:=by
    unfold Lib.hasPrefix at hp;simp at hp
    first|exact hp|exact hp.symm
   subst hc;simp only[abK,agt,adr,List.drop_succ_cons,aiq] at h;refine⟨λb hb=>?_,h.2.elim (λh=>.inl (BY _ h)) λh=>.inr (BY _ h)⟩;rcases List.mem_cons.1 hb with rfl|hb
   .decide
   .exact h.1 b hb
 .exact h
def Qi {a:Nat}{s:ζ}(hs:s.size<=1)(hc:CS zC s):PP FX λn=>cK n a s:=by
 have h3:(ofBytes [105,110,102]).size=3:=rfl;have h4:(ofBytes [48,112,48]).size=3:=rfl;have h5:(ofBytes [112]).size=1:=rfl;refine PP.ite (λ_=>PP.pure (fxl (by decide) (by decide))) λ_=>(Kt a 0).bind λb _=>PP.ite (λ_=>(PP.cat (by unfold da;omega)).bind λ_ hz=>PP.pure (.pre hc (fxl (by decide) (by decide)) hz.2)) λ_=>PP.ite (λ_=>(PP.cat (by unfold da;omega)).bind λ_ hz=>PP.pure (.pre hc (fxl (by decide) (by decide)) hz.2)) λ_=>?_;refine (Qh a).bind λx hx=>(ahx hx.1.1 hx.1.2).bind λy hy=>(PP.cat (by unfold da;omega)).bind λz hz=>(PP.cat (by unfold da;omega)).bind λz2 hz2=>(abd hx.2.1 hx.2.2).bind λz3 hz3=>(PP.cat (by unfold da;omega)).bind λw hw=>PP.pure ?_;exact .app (.pre (hc.app hy.2.2 hz.2) (fxl (by decide) (by decide)) hz2.2) hz3.2.2 hw.2
def aoC:CS zC (ofBytes [45]):=λb hb=>by
 obtain rfl:=List.mem_singleton.1 (show b∈[45] from hb);decide
def cs0:CS zC (ofBytes []):=λb hb=>by cases hb
def Qj (a:Nat):PP FX λn=>gq n a:=
 (ae0 a).bind λb _=>PP.ite (λ_=>Qi (by decide) aoC) λ_=>Qi (by decide) cs0
theorem XK (s:ζ)(b:Bool)(m e:Int):PP (λr:Nat×Bool=>r.2=true->FX s) λn=>fS n s b m e:=
 (Qg _ e).bind λx _=>(Qj x).bind λy hy=>PP.ite (λ_=>PP.pure λh=>by cases h) λg=>
  have q:FX s:=(kS (by simpa using g):y=s)▸hy
  PP.ite (λ_=>(IZ _ _).bind λ_ _=>PP.pure λ_=>q) λ_=>PP.pure λ_=>q
def UO {m e:Int}(h1:0<=m)(h2:m<=18446744073709551615):PP (Any:Bool->Prop) λn=>pW n m e:=by
 refine PP.bind (P:=Any) ?_ λx _=>(PP.ck (by decide)).bind λ_ _=>PP.ite (λ_=>PP.ite (λ_=>PP.ite (λ_=>PP.ite (λ_=>PP.pure trivial) λ_=>PP.pure trivial) λ_=>PP.pure trivial) λ_=>PP.pure trivial) λ_=>PP.pure trivial;unfold fQ;exact PP.ite (λ_=>PP.pure trivial) λhn=>absurd ⟨h1,h2⟩ hn
theorem akA {s:ζ}(hs:s.size<=65536):PP (λr:ζ×ζ×Bool=>r.1.size<=65536/\r.2.1.size<=65536) λn=>strings_Cut n s (ofBytes [112]):=by
 refine PP.bind (P:=λr:ζ×ζ×Bool=>r.1.size<=65536/\r.2.1.size<=65536) ?_ λx hx=>PP.pure hx;unfold pK;refine PP.bind (P:=λx:Int=>x=Lib.indexByte s.data.toList 112) ⟨_,rfl,λ_ _=>rfl⟩ λx hx=>?_;subst hx;refine PP.ite (λhc=>?_) λ_=>PP.pure ⟨hs,by show 0<=65536;omega⟩;rcases ixb s.data.toList 112 with hneg|⟨i,hi,hg⟩
 .simp only[aca] at hc;omega
 .have hlt:i<s.size:=(List.getElem?_eq_some_iff.1 hg).1;rw[hi];have h1:=EX s 0 i;have h2:=EX s (i+1) s.size;refine PP.bind (P:=λx:ζ=>x.size<=65536) ⟨s.extract 0 i,by omega,λ_ h=>by show im s 0 (i:Int) h=_;unfold im;rw[By (by omega)];simp[D9]⟩ λx hx=>?_;have ew:IntKind.i64.wrap ((i:Int)+((ofBytes [112]).size:Int))=((i+1:Nat):Int):=by
   have:(ofBytes [112]).size=1:=rfl;rw[xQ (by omega) (by omega)];omega
  rw[ew];refine PP.bind (P:=λx:ζ=>x.size<=65536) ⟨s.extract (i+1) s.size,by omega,λ_ h=>by show im s ((i+1:Nat):Int) (s.size:Int) h=_;unfold im;rw[By (by omega)];simp[D9]⟩ λy hy=>PP.pure ⟨hx,hy⟩
def UP {s:ζ}{n:Nat}(hs:s.size<=65536)(hw:WF h):Wp (fF n s 10 64) h λr h'=>(match Lib.parseUintB 64 s.data.toList with | .ok v=>r=((v:Int),.nilIface)|_=>∃t u,r.2=.iface t u)/\Fr (λ_=>False) h h':=by
 unfold fF;rw[By ⟨by omega,rfl,rfl⟩];cases e:Lib.parseUintB 64 s.data.toList with
 |ok v=>exact ag.2 ⟨rfl,Fr.refl hw⟩
 |range=>
  show Wp (A0 _) h _;unfold A0;rw[ah];exact NO λh' f=>ag.2 ⟨⟨_,_,rfl⟩,f hw⟩
 |_=>
  show Wp (A0 0) h _;unfold A0;rw[ah];exact NO λh' f=>ag.2 ⟨⟨_,_,rfl⟩,f hw⟩
def One (R:Nat×Bool->Prop)(m:Nat->M (Nat×Bool)):Prop:=∃b:Nat×Bool,R b/\∀n h,WF h->Wp (m n) h λx h'=>x=b/\Fr (λ_=>False) h h'
variable {R:Nat×Bool->Prop}
theorem One.of {m:Nat->M (Nat×Bool)}(hm:PP R m):One R m:=by
 obtain⟨x,hr,hx⟩:=hm;exact⟨x,hr,λn h hw=>⟨x,h,hx n h,rfl,Fr.refl hw⟩⟩
theorem One.bind {P:α->Prop}{m:Nat->M α}{f:Nat->α->M (Nat×Bool)}(hm:PP P m)(hf:∀x,P x->One R λn=>f n x):One R λn=>sh (m n) (f n):=by
 obtain⟨x,hx,h1⟩:=hm;obtain⟨b,hr,h2⟩:=hf x hx;refine⟨b,hr,λn h hw=>?_⟩;show Wp (sh (m n) (f n)) h _;rw[ah];exact⟨x,h,h1 n h,h2 n h hw⟩
def One.ite {c:Prop}[Decidable c]{a b:Nat->M (Nat×Bool)}(ha:c->One R a)(hb:¬c->One R b):One R λn=>if c then a n else b n:=by
 by_cases hc:c
 .simp_all
 simp_all
def jb {h h1 h2:ai}(hw:WF h)(a:Fr (λ_=>False) h h1)(b:Fr (λ_=>False) h1 h2):Fr (λ_=>False) h h2:=a.trans hw b λ_ hx _=>hx.elim
theorem Hr {s:ζ}(hs:s.size<=65536):One (λb=>b.2=true->FX s) λn=>jV n s:=by
 unfold jV;refine One.bind (P:=λx:ζ×Bool=>x.1.size<=65536/\(FX x.1->FX s)) ⟨_,⟨?_,λq=>FX.trim q⟩,λ_ _=>rfl⟩ λx0 h0=>One.ite (λg=>One.of (abc.bind λ_ _=>PP.pure λ_=>by rw[kS g];exact fxl (by decide) (by decide))) λ_=>
  One.ite (λg=>have q:FX s:=h0.2 (by rw[kS g];exact fxl (by decide) (by decide));One.of ((S7 _).bind λ_ _=>PP.ite (λ_=>(IZ _ _).bind λ_ _=>PP.pure λ_=>q) λ_=>PP.pure λ_=>q)) λ_=>
  One.ite (λg=>have q:FX s:=h0.2 (by rw[kS g];exact fxl (by decide) (by decide));One.of (PP.ite (λ_=>(IZ _ _).bind λ_ _=>PP.pure λ_=>q) λ_=>PP.pure λ_=>q)) λ_=>One.bind (akA h0.1) λr hr=>?_
 .show (Lib.trimPrefix s.data.toList (ofBytes [45]).data.toList).toArray.size<=65536;have:=IY s.data.toList (ofBytes [45]).data.toList;have h2:s.data.toList.length=s.size:=rfl;rw[aou];omega
 .obtain⟨t,u,found⟩:=r;simp only at hr⊢;have tail:∀(v:Nat) (e:Int),Lib.parseUintB 64 t.data.toList=.ok v->One (λb=>b.2=true->FX s) λn=>sh (pW n (v:Int) e) λx6=>if (!x6)=true then AI (0,false) else fS n x0.1 x0.2 (v:Int) e:=λv e hv=>by
   have hle:=Lib.parseUintB_le hv;exact One.of ((UO (by omega) (by omega)).bind λ_ _=>PP.ite (λ_=>PP.pure λh=>by cases h) λ_=>(XK _ _ _ _).mono λr hr h=>h0.2 (hr h))
  have go:∃b:Nat×Bool,(b.2=true->FX s)/\∀n (x2 x3:Int×ξ) (h:ai),WF h->(match Lib.parseUintB 64 t.data.toList with | .ok v=>x2=((v:Int),.nilIface)|_=>∃t u,x2.2=.iface t u)->(match Lib.atoiAll u.data.toList with | .ok v=>x3=(v,.nilIface)|_=>∃t u,x3.2=.iface t u) ->
    Wp (if (!found)=true then AI (0,false) else sh (kR x2.2) λx4=>if (!x4)=true then AI (0,false) else sh (kR x3.2) λx5=>if (!x5)=true then AI (0,false) else
     sh (pW n x2.1 x3.1) λx6=>if (!x6)=true then AI (0,false) else fS n x0.1 x0.2 x2.1 x3.1) h λx h'=>x=b/\Fr (λ_=>False) h h':=by
   cases found with
   |false=>exact⟨((0:Nat),false),(λh=>by cases h),λn x2 x3 h hw _ _=>by rw[By (show (!false)=true from rfl)];exact ag.2 ⟨rfl,Fr.refl hw⟩⟩
   |true=>
    have bad2:∀n (x2 x3:Int×ξ) (h:ai),WF h->(∃t u,x2.2=.iface t u)->Wp (if (!true)=true then AI (0,false) else sh (kR x2.2) λx4=>if (!x4)=true then AI (0,false) else sh (kR x3.2) λx5=>if (!x5)=true then AI (0,false) else
     sh (pW n x2.1 x3.1) λx6=>if (!x6)=true then AI (0,false) else fS n x0.1 x0.2 x2.1 x3.1) h λx h'=>x=((0:Nat),false)/\Fr (λ_=>False) h h':=λn x2 x3 h hw hb=>by
     rw[AT (show ¬((!true)=true) by decide)];refine Cs hb ?_;rw[By (show (!false)=true from rfl)];exact ag.2 ⟨rfl,Fr.refl hw⟩
    cases e2:Lib.parseUintB 64 t.data.toList with
    |range=>exact⟨((0:Nat),false),(λh=>by cases h),λn x2 x3 h hw hb _=>bad2 n x2 x3 h hw hb⟩
    |ok v=>
     have bad3:∀n (x2 x3:Int×ξ) (h:ai),WF h->x2.2=.nilIface->(∃t u,x3.2=.iface t u)->Wp (if (!true)=true then AI (0,false) else sh (kR x2.2) λx4=>if (!x4)=true then AI (0,false) else sh (kR x3.2) λx5=>if (!x5)=true then AI (0,false) else
      sh (pW n x2.1 x3.1) λx6=>if (!x6)=true then AI (0,false) else fS n x0.1 x0.2 x2.1 x3.1) h λx h'=>x=((0:Nat),false)/\Fr (λ_=>False) h h':=λn x2 x3 h hw ha hb=>by
      rw[AT (show ¬((!true)=true) by decide)];refine zB ha ?_;rw[AT (show ¬((!true)=true) by decide)];refine Cs hb ?_;rw[By (show (!false)=true from rfl)];exact ag.2 ⟨rfl,Fr.refl hw⟩
     cases e3:Lib.atoiAll u.data.toList with
     |range=>exact⟨((0:Nat),false),(λh=>by cases h),λn x2 x3 h hw ha hb=>bad3 n x2 x3 h hw (by rw[ha]) hb⟩
     |ok e=>
      obtain⟨b,rb,hb⟩:=tail v e e2;refine⟨b,rb,λn x2 x3 h hw h2 h3=>?_⟩;simp only at h2 h3;subst h2;subst h3;rw[AT (show ¬((!true)=true) by decide)];refine zB rfl ?_;rw[AT (show ¬((!true)=true) by decide)];refine zB rfl ?_;rw[AT (show ¬((!true)=true) by decide)];exact hb n h hw
     |_=>exact⟨((0:Nat),false),(λh=>by cases h),λn x2 x3 h hw ha hb=>bad3 n x2 x3 h hw (by rw[ha]) hb⟩
    |_=>exact⟨((0:Nat),false),(λh=>by cases h),λn x2 x3 h hw hb _=>bad2 n x2 x3 h hw hb⟩
  obtain⟨b,rb,hb⟩:=go;refine⟨b,rb,λn h hw=>?_⟩;show Wp (sh (fF n t 10 64) _) h _;rw[ah];refine (UP hr.1 hw).mono λx2 h1 hx2=>?_;rw[ah];refine (NQ hr.2 hx2.2.wf).mono λx3 h2 hx3=>?_;refine (hb n x2 x3 h2 hx3.2.wf hx2.1 hx3.1).mono λx h3 hx=>⟨hx.1,jb hw hx2.2 (jb hx2.2.wf hx3.2 hx.2)⟩
def UR (s:ζ)(hs:s.size<=65536):∃b:Bool,(b=true->FX s)/\∀n h,WF h->Wp (od n s) h λx h'=>x=b/\Fr (λ_=>False) h h':=by
 obtain⟨b,rb,hb⟩:=Hr hs;refine⟨b.2,rb,λn h hw=>?_⟩;unfold od;rw[ah];exact (hb n h hw).mono λx h1 hx=>ag.2 ⟨by rw[hx.1],hx.2⟩
open Classical in
noncomputable def abe (s:ζ):Bool:=if hs:s.size<=65536 then (UR s hs).choose else false
def AR {s:ζ}{n:Nat}(hs:s.size<=65536)(hw:WF h):Wp (od n s) h λx h'=>x=abe s/\Fr (λ_=>False) h h':=by
 unfold abe;rw[dif_pos hs];exact (UR s hs).choose_spec.2 n h hw
end
end Go.Sh
