
import Derived.Test.YthcljaholofonaaGreatDoorPaa
set_option linter.all false
namespace Go.Sh
open Go Go.Ago Go.Proofs
variable {α β:Type}{h h' h0:aj}{L:List bA}{Q:β->aj->Prop}
def PP (P:α->Prop)(m:Nat->M α):Prop:=∃x,P x/\∀n h,m n h=some (x,h)
abbrev Any:α->Prop:=λ_=>True
def PP.pure {P:α->Prop}{x}(hx:P x):PP P λ_=>AI x:=⟨x,hx,λ_ _=>rfl⟩
def PP.bind {P}{R}{m}{f:Nat->α->M β}(hm:PP P m)(hf:∀x,P x->PP R λn=>f n x):PP R λn=>sh (m n) (f n):=by
 obtain⟨x,hx,h1⟩:=hm
 grind [sh]
def PP.ite {P:α->Prop}{c}[Decidable c]{a b}(ha:c->PP P a)(hb:¬c->PP P b):PP P λn=>if c then a n else b n:=by
 by_cases hc:c
 .simp_all
 simp_all
def PP.ck {b}(hb:b=true):PP (Any:Unit->Prop) λ_=>qT b:=⟨(),trivial,λ_ h=>by rw[hb];rfl⟩
def PP.cat {x y}(hs:x.size+y.size<=bJ):PP (λz:ζ=>z.size=x.size+y.size) λ_=>mG x y:=⟨x++y,by grind,λ_ h=>by show (if x.size+y.size<=bJ then some (x++y,h) else none)=_;grind⟩
def NaN (b:Nat):Bool:=(FloatKind.f64.format.read b).isNaN
def alS {a b}(ha:NaN a=false)(hb:∃s m p,FloatKind.f64.format.read b=.number s m p/\m≠0):PP (Any:Nat->Prop) λ_=>O6 a b:=by
 obtain⟨s,m,p,h1,h2⟩:=hb;have:∃r,FloatKind.f64.format.mul a b=some r:=by
  unfold Ieee.Format.mul;rw[h1];unfold NaN at ha;cases hr:FloatKind.f64.format.read a with
  |number t n q=>exact⟨_,rfl⟩
  |infinity t=>simp only[Ieee.Datum.product,AT h2,apm];grind
  |nan t q=>rw[hr] at ha;cases ha
 obtain⟨r,hr⟩:=this;exact⟨r,trivial,λ_ h=>by unfold O6;rw[hr];rfl⟩
def af6 {a b}(hb:NaN b=false)(ha:∃s m p,FloatKind.f64.format.read a=.number s m p/\m≠0):PP (Any:Nat->Prop) λ_=>O6 a b:=by
 obtain⟨s,m,p,h1,h2⟩:=ha;have:∃r,FloatKind.f64.format.mul a b=some r:=by
  unfold Ieee.Format.mul;rw[h1];unfold NaN at hb;cases hr:FloatKind.f64.format.read b with
  |number t n q=>exact⟨_,rfl⟩
  |infinity t=>simp only[Ieee.Datum.product,AT h2,apm];grind
  |nan t q=>rw[hr] at hb;cases hb
 obtain⟨r,hr⟩:=this;exact⟨r,trivial,λ_ h=>by unfold O6;rw[hr];rfl⟩
def alT {a}(h:LK a a=true):NaN a=false:=by
 unfold LK Ieee.Format.order at h;unfold NaN;cases hr:FloatKind.f64.format.read a with
 |number t n q=>rfl
 |infinity t=>rfl
 |nan t q=>grind [Ieee.Datum.order]
def Tk {b}{s}{m}{p}(h:FloatKind.f64.format.read b=.number s m p)(hm:m≠0):∃s m p,FloatKind.f64.format.read b=.number s m p/\m≠0:=⟨s,m,p,h,hm⟩
def af7 {b}(h:b%9223372036854775808<9218868437227405312):NaN b=false:=by
 unfold NaN FloatKind.format Ieee.Format.read;have e1:Ieee.double.signWeight=9223372036854775808:=by decide +kernel
 have e2:Ieee.double.infRung=9218868437227405312:=by decide +kernel
 simp[e1];rw[e2];split
 .rfl
 .rfl
theorem BN {x}(h1:0<=x)(h2:x<18446744073709551616):IntKind.u64.wrap x=x:=by rw[IntKind.wrap_u64];omega
def KR x:0<=IntKind.u64.wrap x/\IntKind.u64.wrap x<18446744073709551616:=by rw[IntKind.wrap_u64];omega
def Tl x:-9223372036854775808<=IntKind.i64.wrap x/\IntKind.i64.wrap x<=9223372036854775807:=by rw[IntKind.wrap_i64];omega
theorem field a1 (e:Nat)(he:e<=2046) :
  NaN (IntKind.u64.wrap ((BitVec.ofInt 64 (IntKind.u64.wrap ((BitVec.ofInt 64 a1&&&~~~BitVec.ofInt 64 9218868437227405312).toNat:Int))|||BitVec.ofInt 64 (IntKind.u64.wrap (IntKind.u64.wrap (e:Int)*2^52))).toNat:Int)).toNat=false:=by
 have hA:(BitVec.ofInt 64 a1&&&~~~BitVec.ofInt 64 9218868437227405312).toNat%9223372036854775808<4503599627370496:=by
  rw[BitVec.toNat_and];have hc:(~~~BitVec.ofInt 64 9218868437227405312).toNat=9227875636482146303:=by grind
  rw[hc,show (9223372036854775808:Nat)=2^63 from rfl,Nat.and_mod_two_pow,show 9227875636482146303%2^63=2^52-1 from rfl,Nat.and_two_pow_sub_one_eq_mod]
  grind
 have hlt:(BitVec.ofInt 64 a1&&&~~~BitVec.ofInt 64 9218868437227405312).toNat<18446744073709551616:=(BitVec.ofInt 64 a1&&&~~~BitVec.ofInt 64 9218868437227405312).isLt;generalize (BitVec.ofInt 64 a1&&&~~~BitVec.ofInt 64 9218868437227405312).toNat=A at hA hlt⊢;rw[BN (x:=(A:Int)) (by omega) (by omega),BN (x:=(e:Int)) (by omega) (by omega),BN (x:=(e:Int)*2^52) (by omega) (by omega),BitVec.toNat_or,aqJ,aqJ];have e1:((A:Int)%(2^64:Nat)).toNat=A:=by omega
 have e2:((e:Int)*2^52%(2^64:Nat)).toNat=e*4503599627370496:=by omega
 rw[e1,e2];have hor:A|||e*4503599627370496<18446744073709551616:=Nat.or_lt_two_pow (n:=64) hlt (by omega);rw[BN (by omega) (by omega),IS];refine af7 ?_;rw[show (9223372036854775808:Nat)=2^63 from rfl,Nat.or_mod_two_pow];have h1:A%2^63<2^52:=hA;have h2:e*4503599627370496%2^63=e*4503599627370496:=aqR (by omega);rw[h2];have h3:A%2^63|||e*4503599627370496<=A%2^63+e*4503599627370496:=by
  rw[show e*4503599627370496=e <<< 52 by rw[Nat.shiftLeft_eq],Nat.or_comm,<-Nat.shiftLeft_add_eq_or_of_lt h1,arB]
  grind
 omega
def ab9 x:0<=Uw x/\Uw x<64:=by
 unfold Uw;have:=KR (bits BinOp.and IntKind.u64 x (IntKind.u64.wrap (-x))*285870213051353865);omega
theorem alU i:Nj i<64:=by
 unfold Nj;by_cases hi:i<64
 .have h1:LM.all (·<64)=true:=by decide
  have h2:i<LM.length:=hi
  simp_all
 .have h2:LM.length<=i:=by have:LM.length=64:=rfl;omega
  grind
def aou x:PP (λy:Int=>0<=y/\y<=64) λn=>dm n x:=by
 unfold dm;refine PP.ite (λ_=>PP.pure (by omega)) λ_=>PP.ite (λhc=>PP.pure ?_) λhc=>absurd (ab9 x) hc
 grind [alU,Uw,Go.RowKit.wrap64]
def D5 (b:Nat):PP (λy:Int=>y=b) λn=>fU n b:=PP.pure rfl
def D6 x:PP (λy:Nat=>y=x.toNat) λn=>dB n x:=PP.pure rfl
def Tm b:PP (Any:Nat->Prop) λn=>Du n b:=(D5 b).bind λx _=>(D6 _).bind λy _=>PP.pure trivial
def Tn x:PP (Any:Nat->Prop) λn=>Ds n x:=PP.ite (λ_=>(D6 _).bind λy _=>PP.pure trivial) λ_=>(D6 _).bind λy _=>PP.pure trivial
def alV:PP (Any:Nat->Prop) λn=>Kn n:=(D6 _).bind λy _=>PP.pure trivial
def Jl a b:PP (Any:Nat->Prop) λn=>qD n a b:=(D5 a).bind λx _=>(D5 b).bind λy _=>(D6 _).bind λy _=>PP.pure trivial
def QA a x:PP (Any:Bool->Prop) λn=>Bt n a x:=PP.ite (λ_=>(Tm a).bind λy _=>PP.pure trivial) λ_=>PP.ite (λ_=>PP.pure trivial) λ_=>PP.pure trivial
def af8 a:PP (Any:Bool->Prop) λn=>Bp n a:=(D5 a).bind λx _=>PP.pure trivial
def Of {a}(ha:NaN a=false):PP (Any:Nat×Int->Prop) λn=>yO n a:=by
 refine (Tm a).bind λy _=>PP.ite (λ_=>(alS ha ?_).bind λz _=>PP.pure trivial) λ_=>PP.pure trivial;exact Tk (s:=false) (m:=4503599627370496) (p:=0) (by decide +kernel) (by decide)
def ait {e a1}{c}(h1:-1022<=e)(h2:e<=1023)(hc:∃s m p,FloatKind.f64.format.read c=.number s m p/\m≠0):PP (Any:Nat->Prop) λn=>wz n e a1 c:=by
 refine (PP.ck (by decide)).bind λ_ _=>(D6 _).bind λy hy=>(af6 ?_ hc).bind λz _=>PP.pure trivial;rw[hy,vw (by omega) (by omega)];obtain⟨k,hk⟩:∃k:Nat,e+1023=k:=⟨(e+1023).toNat,by omega⟩
 grind [field]
def aca a e:PP (Any:Nat->Prop) λn=>FB n a e:=by
 refine PP.bind (P:=Any) ?_ λy _=>PP.pure trivial;refine PP.ite (λ_=>PP.pure trivial) λ_=>(QA a 0).bind λb _=>PP.ite (λ_=>PP.pure trivial) λ_=>PP.bind (P:=λb=>b=!LK a a) (PP.pure rfl) λb hb=>PP.ite (λ_=>PP.pure trivial) λhn=>?_;have ha:NaN a=false:=alT (by grind);refine (Of ha).bind λx _=>(D5 _).bind λx1 _=>(PP.ck (by decide)).bind λ_ _=>?_;generalize IntKind.i64.wrap (IntKind.i64.wrap (e+x.2)+IntKind.i64.wrap (IntKind.i64.wrap (↑(BitVec.ofInt 64 (IntKind.i64.wrap (Int.fdiv x1 (2^52)))&&&BitVec.ofInt 64 2047).toNat:Int)-1023))=E;refine PP.ite (λ_=>(Jl _ _).bind λ_ _=>PP.pure trivial) λg1=>PP.ite (λ_=>PP.ite (λ_=>(Tn _).bind λ_ _=>PP.pure trivial) λ_=>(Tn _).bind λ_ _=>PP.pure trivial) λg2=>PP.ite (λg3=>?_) λg3=>?_
 .simp only[ab8] at g1 g2 g3;rw[vw (by omega) (by omega)];exact ait (by omega) (by omega) (Tk (s:=false) (m:=4503599627370496) (p:=-105) (by decide +kernel) (by decide))
 .simp only[ab8] at g1 g2 g3;exact ait (by omega) (by omega) (Tk (s:=false) (m:=4503599627370496) (p:=-52) (by decide +kernel) (by decide))
def MR {m e}(h1:0<=m)(h2:m<18446744073709551616):PP (λx:Int×Int=>(0<=x.1/\x.1<18446744073709551616)/\(-9223372036854775808<=x.2/\x.2<=9223372036854775807)) λn=>th n m e:=by
 refine (aou m).bind λy hy=>(PP.ck (by grind)).bind λ_ _=>PP.pure ⟨?_,Tl _⟩;have hp:(0:Int)<2^min y.toNat 64:=Int.pow_pos (by decide);rw[Int.fdiv_eq_ediv_of_nonneg _ (Int.le_of_lt hp)];have h3:=Int.ediv_nonneg h1 (Int.le_of_lt hp);have h4:=Int.ediv_le_self (2^min y.toNat 64) h1
 grind
def acb a:PP (λx:Int×Int=>(0<=x.1/\x.1<18446744073709551616)/\(-9223372036854775808<=x.2/\x.2<=9223372036854775807)) λn=>Bu n a:=
 (Tm a).bind λx _=>(D5 x).bind λy _=>(PP.ck (by decide)).bind λ_ _=>PP.ite (λ_=>MR (KR _).1 (KR _).2) λ_=>MR (KR _).1 (KR _).2
theorem UT {e}(h1:-9223372036854775808<=e)(h2:e<18446744073709551616):(Lib.itoa e).length<=21:=by
 unfold Lib.itoa;split
 .rw[acg,Lib.decDigits_length];have:=Jk 20 e.natAbs (by omega) (by omega);omega
 .rw[Lib.decDigits_length];have:=Jk 20 e.toNat (by omega) (by omega);omega
def aov {u}(h1:0<=u)(h2:u<18446744073709551616):PP (λx:ζ=>x.size<=21) λn=>tH n u 10:=by
 refine PP.bind ?_ λx hx=>PP.pure hx;unfold hG;refine PP.ite (λ_=>PP.pure ?_) λhn=>absurd ⟨h1,h2,rfl⟩ hn;show (Lib.itoa u).toArray.size<=21
 grind [UT]
def aiu {e}(h1:-9223372036854775808<=e)(h2:e<=9223372036854775807):PP (λx:ζ=>x.size<=21) λn=>strconv_Itoa n e:=by
 unfold strconv_Itoa;refine PP.ite (λ_=>PP.pure ?_) λhn=>absurd ⟨h1,h2⟩ hn;show (Lib.itoa e).toArray.size<=21
 grind [UT]
def QB {a}{s}(hs:s.size<=1):PP (Any:ζ->Prop) λn=>uP n a s:=by
 have h3:(ofBytes [105,110,102]).size=3:=rfl;have h4:(ofBytes [48,112,48]).size=3:=rfl;have h5:(ofBytes [112]).size=1:=rfl;refine PP.ite (λ_=>PP.pure trivial) λ_=>(QA a 0).bind λb _=>PP.ite (λ_=>(PP.cat (by grind [bJ])).bind λ_ _=>PP.pure trivial) λ_=>PP.ite (λ_=>(PP.cat (by grind [bJ])).bind λ_ _=>PP.pure trivial) λ_=>?_;refine (acb a).bind λx hx=>(aov hx.1.1 hx.1.2).bind λy hy=>(PP.cat (by grind [bJ])).bind λz hz=>(PP.cat (by grind [bJ])).bind λz2 hz2=>(aiu hx.2.1 hx.2.2).bind λz3 hz3=>(PP.cat (by grind [bJ])).bind λ_ _=>PP.pure trivial
def acd a:PP (Any:ζ->Prop) λn=>Dy n a:=
 (af8 a).bind λb _=>PP.ite (λ_=>QB (by decide)) λ_=>QB (by decide)
def Yk s b m e:PP (Any:Nat×Bool->Prop) λn=>kP n s b m e:=
 (aca _ e).bind λx _=>(acd x).bind λy _=>PP.ite (λ_=>PP.pure trivial) λ_=>PP.ite (λ_=>(Jl _ _).bind λ_ _=>PP.pure trivial) λ_=>PP.pure trivial
def af9 {m e}(h1:0<=m)(h2:m<=18446744073709551615):PP (Any:Bool->Prop) λn=>ru n m e:=by
 refine PP.bind (P:=Any) ?_ λx _=>(PP.ck (by decide)).bind λ_ _=>PP.ite (λ_=>PP.ite (λ_=>PP.ite (λ_=>PP.ite (λ_=>PP.pure trivial) λ_=>PP.pure trivial) λ_=>PP.pure trivial) λ_=>PP.pure trivial) λ_=>PP.pure trivial;unfold gR;exact PP.ite (λ_=>PP.pure trivial) λhn=>absurd ⟨h1,h2⟩ hn
def alW {s}(hs:s.size<=65536):PP (λr:ζ×ζ×Bool=>r.1.size<=65536/\r.2.1.size<=65536) λn=>strings_Cut n s (ofBytes [112]):=by
 refine PP.bind (P:=λr:ζ×ζ×Bool=>r.1.size<=65536/\r.2.1.size<=65536) ?_ λx hx=>PP.pure hx;unfold uH;refine PP.bind (P:=λx:Int=>x=Lib.indexByte s.data.toList 112) ⟨_,rfl,λ_ _=>rfl⟩ λx hx=>?_;subst hx;refine PP.ite (λhc=>?_) λ_=>PP.pure ⟨hs,by show 0<=65536;omega⟩;rcases ixb s.data.toList 112 with hneg|⟨i,hi,hg⟩
 .grind
 .have hlt:i<s.size:=(List.getElem?_eq_some_iff.1 hg).1;rw[hi];have h1:=KP s 0 i;have h2:=KP s (i+1) s.size;refine PP.bind (P:=λx:ζ=>x.size<=65536) ⟨s.extract 0 i,by omega,λ_ h=>by show jG s 0 (i:Int) h=_;unfold jG;rw[By (by omega)];simp[EV]⟩ λx hx=>?_;have ew:IntKind.i64.wrap ((i:Int)+((ofBytes [112]).size:Int))=((i+1:Nat):Int):=by
   have:(ofBytes [112]).size=1:=rfl
   grind [vw]
  rw[ew];refine PP.bind (P:=λx:ζ=>x.size<=65536) ⟨s.extract (i+1) s.size,by omega,λ_ h=>by show jG s ((i+1:Nat):Int) (s.size:Int) h=_;unfold jG;rw[By (by omega)];simp[EV]⟩ λy hy=>PP.pure ⟨hx,hy⟩
def aga {s}{n}(hs:s.size<=65536)(hw:WF h):Wp (gq n s 10 64) h λr h'=>(match Lib.parseUintB 64 s.data.toList with | .ok v=>r=((v:Int),.nilIface)|_=>∃t u,r.2=.iface t u)/\Fr (λ_=>False) h h':=by
 unfold gq;rw[By ⟨by omega,rfl,rfl⟩];cases e:Lib.parseUintB 64 s.data.toList with
 |ok v=>exact ag.2 ⟨rfl,Fr.refl hw⟩
 |range=>
  show Wp (Cc _) h _;unfold Cc;rw[ah];exact Oc λh' f=>ag.2 ⟨⟨_,_,rfl⟩,f hw⟩
 |_=>
  show Wp (Cc 0) h _;unfold Cc;rw[ah];exact Oc λh' f=>ag.2 ⟨⟨_,_,rfl⟩,f hw⟩
def One (m:Nat->M (Nat×Bool)):Prop:=∃b:Nat×Bool,∀n h,WF h->Wp (m n) h λx h'=>x=b/\Fr (λ_=>False) h h'
theorem One.of {m}(hm:PP (Any:Nat×Bool->Prop) m):One m:=by
 obtain⟨x,_,hx⟩:=hm;exact⟨x,λn h hw=>⟨x,h,hx n h,rfl,Fr.refl hw⟩⟩
def One.bind {P}{m}{f:Nat->α->M (Nat×Bool)}(hm:PP P m)(hf:∀x,P x->One λn=>f n x):One λn=>sh (m n) (f n):=by
 obtain⟨x,hx,h1⟩:=hm
 grind [sh]
def One.ite {c}[Decidable c]{a b}(ha:c->One a)(hb:¬c->One b):One λn=>if c then a n else b n:=by
 by_cases hc:c
 .simp_all
 simp_all
def kp {h h1 h2}(hw:WF h)(a:Fr (λ_=>False) h h1)(b:Fr (λ_=>False) h1 h2):Fr (λ_=>False) h h2:=a.trans hw b λ_ hx _=>hx.elim
def HJ {s}(hs:s.size<=65536):One λn=>p6 n s:=by
 unfold p6;refine One.bind (P:=λx:ζ×Bool=>x.1.size<=65536) ⟨_,?_,λ_ _=>rfl⟩ λx0 h0=>One.ite (λ_=>One.of (alV.bind λ_ _=>PP.pure trivial)) λ_=>One.ite (λ_=>One.of ((Tn _).bind λ_ _=>PP.ite (λ_=>(Jl _ _).bind λ_ _=>PP.pure trivial) λ_=>PP.pure trivial)) λ_=>
  One.ite (λ_=>One.of (PP.ite (λ_=>(Jl _ _).bind λ_ _=>PP.pure trivial) λ_=>PP.pure trivial)) λ_=>One.bind (alW h0) λr hr=>?_
 .show (Lib.trimPrefix s.data.toList (ofBytes [45]).data.toList).toArray.size<=65536;have:=Oe s.data.toList (ofBytes [45]).data.toList;have h2:s.data.toList.length=s.size:=rfl
  grind
 .obtain⟨t,u,found⟩:=r;simp only at hr⊢;have tail:∀(v:Nat) (e:Int),Lib.parseUintB 64 t.data.toList=.ok v->One λn=>sh (ru n (v:Int) e) λx6=>if (!x6)=true then AI (0,false) else kP n x0.1 x0.2 (v:Int) e:=λv e hv=>by
   have hle:=Lib.parseUintB_le hv;exact One.of ((af9 (by omega) (by omega)).bind λ_ _=>PP.ite (λ_=>PP.pure trivial) λ_=>Yk _ _ _ _)
  have go:∃b:Nat×Bool,∀n (x2 x3:Int×ξ) (h:aj),WF h->(match Lib.parseUintB 64 t.data.toList with | .ok v=>x2=((v:Int),.nilIface)|_=>∃t u,x2.2=.iface t u)->(match Lib.atoiAll u.data.toList with | .ok v=>x3=(v,.nilIface)|_=>∃t u,x3.2=.iface t u) ->
    Wp (if (!found)=true then AI (0,false) else sh (nN x2.2) λx4=>if (!x4)=true then AI (0,false) else sh (nN x3.2) λx5=>if (!x5)=true then AI (0,false) else
     sh (ru n x2.1 x3.1) λx6=>if (!x6)=true then AI (0,false) else kP n x0.1 x0.2 x2.1 x3.1) h λx h'=>x=b/\Fr (λ_=>False) h h':=by
   cases found with
   |false=>exact⟨((0:Nat),false),λn x2 x3 h hw _ _=>by rw[By (show (!false)=true from rfl)];exact ag.2 ⟨rfl,Fr.refl hw⟩⟩
   |true=>
    have bad2:∀n (x2 x3:Int×ξ) (h:aj),WF h->(∃t u,x2.2=.iface t u)->Wp (if (!true)=true then AI (0,false) else sh (nN x2.2) λx4=>if (!x4)=true then AI (0,false) else sh (nN x3.2) λx5=>if (!x5)=true then AI (0,false) else
     sh (ru n x2.1 x3.1) λx6=>if (!x6)=true then AI (0,false) else kP n x0.1 x0.2 x2.1 x3.1) h λx h'=>x=((0:Nat),false)/\Fr (λ_=>False) h h':=λn x2 x3 h hw hb=>by
     rw[AT (show ¬((!true)=true) by decide)];refine Gz hb ?_;rw[By (show (!false)=true from rfl)];exact ag.2 ⟨rfl,Fr.refl hw⟩
    cases e2:Lib.parseUintB 64 t.data.toList with
    |range=>exact⟨((0:Nat),false),λn x2 x3 h hw hb _=>bad2 n x2 x3 h hw hb⟩
    |ok v=>
     have bad3:∀n (x2 x3:Int×ξ) (h:aj),WF h->x2.2=.nilIface->(∃t u,x3.2=.iface t u)->Wp (if (!true)=true then AI (0,false) else sh (nN x2.2) λx4=>if (!x4)=true then AI (0,false) else sh (nN x3.2) λx5=>if (!x5)=true then AI (0,false) else
      sh (ru n x2.1 x3.1) λx6=>if (!x6)=true then AI (0,false) else kP n x0.1 x0.2 x2.1 x3.1) h λx h'=>x=((0:Nat),false)/\Fr (λ_=>False) h h':=λn x2 x3 h hw ha hb=>by
      rw[AT (show ¬((!true)=true) by decide)];refine Gy ha ?_;rw[AT (show ¬((!true)=true) by decide)];refine Gz hb ?_;rw[By (show (!false)=true from rfl)];exact ag.2 ⟨rfl,Fr.refl hw⟩
     cases e3:Lib.atoiAll u.data.toList with
     |range=>exact⟨((0:Nat),false),λn x2 x3 h hw ha hb=>bad3 n x2 x3 h hw (by rw[ha]) hb⟩
     |ok e=>
      obtain⟨b,hb⟩:=tail v e e2;refine⟨b,λn x2 x3 h hw h2 h3=>?_⟩;simp at h2 h3;subst h2;subst h3;rw[AT (show ¬((!true)=true) by decide)];refine Gy rfl ?_;rw[AT (show ¬((!true)=true) by decide)];refine Gy rfl ?_;rw[AT (show ¬((!true)=true) by decide)];exact hb n h hw
     |_=>exact⟨((0:Nat),false),λn x2 x3 h hw ha hb=>bad3 n x2 x3 h hw (by rw[ha]) hb⟩
    |_=>exact⟨((0:Nat),false),λn x2 x3 h hw hb _=>bad2 n x2 x3 h hw hb⟩
  obtain⟨b,hb⟩:=go;refine⟨b,λn h hw=>?_⟩;show Wp (sh (gq n t 10 64) _) h _;rw[ah];refine (aga hr.1 hw).mono λx2 h1 hx2=>?_;rw[ah];refine (US hr.2 hx2.2.wf).mono λx3 h2 hx3=>?_;refine (hb n x2 x3 h2 hx3.2.wf hx2.1 hx3.1).mono λx h3 hx=>⟨hx.1,kp hw hx2.2 (kp hx2.2.wf hx3.2 hx.2)⟩
def UU s (hs:s.size<=65536):∃b,∀n h,WF h->Wp (uQ n s) h λx h'=>x=b/\Fr (λ_=>False) h h':=by
 obtain⟨b,hb⟩:=HJ hs;refine⟨b.2,λn h hw=>?_⟩;unfold uQ;rw[ah];exact (hb n h hw).mono λx h1 hx=>ag.2 ⟨by rw[hx.1],hx.2⟩
open Classical in
noncomputable def alX (s:ζ):Bool:=if hs:s.size<=65536 then (UU s hs).choose else false
def I8 {s}{n}(hs:s.size<=65536)(hw:WF h):Wp (uQ n s) h λx h'=>x=alX s/\Fr (λ_=>False) h h':=by
 unfold alX;rw[dif_pos hs];exact (UU s hs).choose_spec n h hw
end Go.Sh
