
import Derived.Test.YtmfkngdglbcngaaGreatDoorPaa
set_option linter.all false
namespace Go.Sh
open Go Go.Ago Go.Proofs
variable {α β:Type}{h h' h0:af}{L:List bu}{Q:β->af->Prop}
def PP (P:α->Prop)(m:Nat->M α):Prop:=∃x,P x/\∀n h,m n h=some (x,h)
abbrev Any:α->Prop:=λ_=>True
theorem PP.pure {P:α->Prop}{x:α}(hx:P x):PP P λ_=>AI x:=⟨x,hx,λ_ _=>rfl⟩
theorem PP.bind {P:α->Prop}{R:β->Prop}{m:Nat->M α}{f:Nat->α->M β}(hm:PP P m)(hf:∀x,P x->PP R λn=>f n x):PP R λn=>sh (m n) (f n):=by
 obtain⟨x,hx,h1⟩:=hm
 grind [sh]
theorem PP.ite {P:α->Prop}{c:Prop}[Decidable c]{a b:Nat->M α}(ha:c->PP P a)(hb:¬c->PP P b):PP P λn=>if c then a n else b n:=by
 by_cases hc:c
 .simp_all
 simp_all
theorem PP.mono {P P':α->Prop}{m:Nat->M α}(hm:PP P m)(hp:∀x,P x->P' x):PP P' m:=let ⟨x,hx,h1⟩:=hm;⟨x,hp x hx,h1⟩
theorem PP.ck {b:Bool}(hb:b=true):PP (Any:Unit->Prop) λ_=>oq b:=⟨(),trivial,λ_ h=>by rw[hb];rfl⟩
theorem PP.cat {x y:ζ}(hs:x.size+y.size<=cF):PP (λz:ζ=>z.size=x.size+y.size) λ_=>kA x y:=⟨x++y,by show (x++y).size=_;rw[agA],λ_ h=>by show (if x.size+y.size<=cF then some (x++y,h) else none)=_;rw[AT hs]⟩
def Wo (b:Nat):Bool:=(FloatKind.f64.format.read b).isNaN
theorem ado {a b:Nat}(ha:Wo a=false)(hb:∃s m p,FloatKind.f64.format.read b=.number s m p/\m≠0):PP (Any:Nat->Prop) λ_=>KU a b:=by
 obtain⟨s,m,p,h1,h2⟩:=hb;have:∃r,FloatKind.f64.format.mul a b=some r:=by
  unfold Ieee.Format.mul;rw[h1];unfold Wo at ha;cases hr:FloatKind.f64.format.read a with
  |number t n q=>exact⟨_,rfl⟩
  |infinity t=>simp only[Ieee.Datum.product,By h2,afk];exact⟨_,rfl⟩
  |nan t q=>rw[hr] at ha;cases ha
 obtain⟨r,hr⟩:=this;exact⟨r,trivial,λ_ h=>by unfold KU;rw[hr];rfl⟩
theorem Zk {a b:Nat}(hb:Wo b=false)(ha:∃s m p,FloatKind.f64.format.read a=.number s m p/\m≠0):PP (Any:Nat->Prop) λ_=>KU a b:=by
 obtain⟨s,m,p,h1,h2⟩:=ha;have:∃r,FloatKind.f64.format.mul a b=some r:=by
  unfold Ieee.Format.mul;rw[h1];unfold Wo at hb;cases hr:FloatKind.f64.format.read b with
  |number t n q=>exact⟨_,rfl⟩
  |infinity t=>simp only[Ieee.Datum.product,By h2,afk];exact⟨_,rfl⟩
  |nan t q=>rw[hr] at hb;cases hb
 obtain⟨r,hr⟩:=this;exact⟨r,trivial,λ_ h=>by unfold KU;rw[hr];rfl⟩
theorem adp {a:Nat}(h:GR a a=true):Wo a=false:=by
 unfold GR Ieee.Format.order at h;unfold Wo;cases hr:FloatKind.f64.format.read a with
 |number t n q=>rfl
 |infinity t=>rfl
 |nan t q=>rw[hr] at h;simp[Ieee.Datum.order] at h
theorem O7 {b:Nat}{s:Bool}{m:Nat}{p:Int}(h:FloatKind.f64.format.read b=.number s m p)(hm:m≠0):∃s m p,FloatKind.f64.format.read b=.number s m p/\m≠0:=⟨s,m,p,h,hm⟩
theorem Zl {b:Nat}(h:b%9223372036854775808<9218868437227405312):Wo b=false:=by
 unfold Wo FloatKind.format Ieee.Format.read;have e1:Ieee.double.signWeight=9223372036854775808:=by decide +kernel
 have e2:Ieee.double.infRung=9218868437227405312:=by decide +kernel
 simp only[e1];rw[e2];split
 .rfl
 .rfl
theorem xu {x:Int}(h1:0<=x)(h2:x<18446744073709551616):IntKind.u64.wrap x=x:=by rw[IntKind.wrap_u64];omega
theorem Gf (x:Int):0<=IntKind.u64.wrap x/\IntKind.u64.wrap x<18446744073709551616:=by rw[IntKind.wrap_u64];omega
theorem O8 (x:Int):-9223372036854775808<=IntKind.i64.wrap x/\IntKind.i64.wrap x<=9223372036854775807:=by rw[IntKind.wrap_i64];omega
theorem field (a1:Int)(e:Nat)(he:e<=2046) :
  Wo (IntKind.u64.wrap ((BitVec.ofInt 64 (IntKind.u64.wrap ((BitVec.ofInt 64 a1&&&~~~BitVec.ofInt 64 9218868437227405312).toNat:Int))|||BitVec.ofInt 64 (IntKind.u64.wrap (IntKind.u64.wrap (e:Int)*2^52))).toNat:Int)).toNat=false:=by
 have hA:(BitVec.ofInt 64 a1&&&~~~BitVec.ofInt 64 9218868437227405312).toNat%9223372036854775808<4503599627370496:=by
  rw[BitVec.toNat_and];have hc:(~~~BitVec.ofInt 64 9218868437227405312).toNat=9227875636482146303:=by decide +kernel
  rw[hc,show (9223372036854775808:Nat)=2^63 from rfl,Nat.and_mod_two_pow,show 9227875636482146303%2^63=2^52-1 from rfl,Nat.and_two_pow_sub_one_eq_mod];exact ahR _ (by decide)
 have hlt:(BitVec.ofInt 64 a1&&&~~~BitVec.ofInt 64 9218868437227405312).toNat<18446744073709551616:=(BitVec.ofInt 64 a1&&&~~~BitVec.ofInt 64 9218868437227405312).isLt;generalize (BitVec.ofInt 64 a1&&&~~~BitVec.ofInt 64 9218868437227405312).toNat=A at hA hlt⊢;rw[xu (x:=(A:Int)) (by omega) (by omega),xu (x:=(e:Int)) (by omega) (by omega),xu (x:=(e:Int)*2^52) (by omega) (by omega),BitVec.toNat_or,ah1,ah1];have e1:((A:Int)%(2^64:Nat)).toNat=A:=by omega
 have e2:((e:Int)*2^52%(2^64:Nat)).toNat=e*4503599627370496:=by omega
 rw[e1,e2];have hor:A|||e*4503599627370496<18446744073709551616:=Nat.or_lt_two_pow (n:=64) hlt (by omega);rw[xu (by omega) (by omega),IT];refine Zl ?_;rw[show (9223372036854775808:Nat)=2^63 from rfl,Nat.or_mod_two_pow];have h1:A%2^63<2^52:=hA;have h2:e*4503599627370496%2^63=e*4503599627370496:=Nat.mod_eq_of_lt (by omega);rw[h2];have h3:A%2^63|||e*4503599627370496<=A%2^63+e*4503599627370496:=by
  rw[show e*4503599627370496=e <<< 52 by rw[Nat.shiftLeft_eq],Nat.or_comm,<-Nat.shiftLeft_add_eq_or_of_lt h1,aiR];exact aao _
 omega
theorem Wq (x:Int):0<=Qc x/\Qc x<64:=by
 unfold Qc;have:=Gf (bits BinOp.and IntKind.u64 x (IntKind.u64.wrap (-x))*285870213051353865);omega
theorem adq (i:Nat):Ig i<64:=by
 unfold Ig;by_cases hi:i<64
 .have h1:GS.all (·<64)=true:=by decide
  have h2:i<GS.length:=hi
  simp_all
 .have h2:GS.length<=i:=by have:GS.length=64:=rfl;omega
  grind
theorem afE (x:Int):PP (λy:Int=>0<=y/\y<=64) λn=>cW n x:=by
 unfold cW;refine PP.ite (λ_=>PP.pure (by omega)) λ_=>PP.ite (λhc=>PP.pure ?_) λhc=>absurd (Wq x) hc
 grind [adq,Qc,Go.RowKit.wrap64]
theorem zw (b:Nat):PP (λy:Int=>y=b) λn=>fh n b:=PP.pure rfl
theorem zx (x:Int):PP (λy:Nat=>y=x.toNat) λn=>cZ n x:=PP.pure rfl
theorem O9 (b:Nat):PP (Any:Nat->Prop) λn=>yH n b:=(zw b).bind λx _=>(zx _).bind λy _=>PP.pure trivial
theorem Pb (x:Int):PP (Any:Nat->Prop) λn=>yF n x:=PP.ite (λ_=>(zx _).bind λy _=>PP.pure trivial) λ_=>(zx _).bind λy _=>PP.pure trivial
theorem adt:PP (Any:Nat->Prop) λn=>FN n:=(zx _).bind λy _=>PP.pure trivial
theorem EP (a b:Nat):PP (Any:Nat->Prop) λn=>ni n a b:=(zw a).bind λx _=>(zw b).bind λy _=>(zx _).bind λy _=>PP.pure trivial
theorem Mx (a:Nat)(x:Int):PP (Any:Bool->Prop) λn=>w6 n a x:=PP.ite (λ_=>(O9 a).bind λy _=>PP.pure trivial) λ_=>PP.ite (λ_=>PP.pure trivial) λ_=>PP.pure trivial
theorem Zm (a:Nat):PP (Any:Bool->Prop) λn=>w7 n a:=(zw a).bind λx _=>PP.pure trivial
theorem Kd {a:Nat}(ha:Wo a=false):PP (Any:Nat×Int->Prop) λn=>uF n a:=by
 refine (O9 a).bind λy _=>PP.ite (λ_=>(ado ha ?_).bind λz _=>PP.pure trivial) λ_=>PP.pure trivial;exact O7 (s:=false) (m:=4503599627370496) (p:=0) (by decide +kernel) (by decide)
theorem abE {e a1:Int}{c:Nat}(h1:-1022<=e)(h2:e<=1023)(hc:∃s m p,FloatKind.f64.format.read c=.number s m p/\m≠0):PP (Any:Nat->Prop) λn=>sD n e a1 c:=by
 refine (PP.ck (by decide)).bind λ_ _=>(zx _).bind λy hy=>(Zk ?_ hc).bind λz _=>PP.pure trivial;rw[hy,s6 (by omega) (by omega)];obtain⟨k,hk⟩:∃k:Nat,e+1023=k:=⟨(e+1023).toNat,by omega⟩;rw[hk];exact field a1 k (by omega)
theorem Ws (a:Nat)(e:Int):PP (Any:Nat->Prop) λn=>AE n a e:=by
 refine PP.bind (P:=Any) ?_ λy _=>PP.pure trivial;refine PP.ite (λ_=>PP.pure trivial) λ_=>(Mx a 0).bind λb _=>PP.ite (λ_=>PP.pure trivial) λ_=>PP.bind (P:=λb=>b=!GR a a) (PP.pure rfl) λb hb=>PP.ite (λ_=>PP.pure trivial) λhn=>?_;have ha:Wo a=false:=adp (by subst hb;simpa using hn);refine (Kd ha).bind λx _=>(zw _).bind λx1 _=>(PP.ck (by decide)).bind λ_ _=>?_;generalize IntKind.i64.wrap (IntKind.i64.wrap (e+x.2)+IntKind.i64.wrap (IntKind.i64.wrap (↑(BitVec.ofInt 64 (IntKind.i64.wrap (Int.fdiv x1 (2^52)))&&&BitVec.ofInt 64 2047).toNat:Int)-1023))=E;refine PP.ite (λ_=>(EP _ _).bind λ_ _=>PP.pure trivial) λg1=>PP.ite (λ_=>PP.ite (λ_=>(Pb _).bind λ_ _=>PP.pure trivial) λ_=>(Pb _).bind λ_ _=>PP.pure trivial) λg2=>PP.ite (λg3=>?_) λg3=>?_
 .simp only[OF] at g1 g2 g3;rw[s6 (by omega) (by omega)];exact abE (by omega) (by omega) (O7 (s:=false) (m:=4503599627370496) (p:=-105) (by decide +kernel) (by decide))
 .simp only[OF] at g1 g2 g3;exact abE (by omega) (by omega) (O7 (s:=false) (m:=4503599627370496) (p:=-52) (by decide +kernel) (by decide))
theorem HX {m e:Int}(h1:0<=m)(h2:m<18446744073709551616):PP (λx:Int×Int=>(0<=x.1/\x.1<18446744073709551616)/\(-9223372036854775808<=x.2/\x.2<=9223372036854775807)) λn=>pz n m e:=by
 refine (afE m).bind λy hy=>(PP.ck (by simpa using hy.1)).bind λ_ _=>PP.pure ⟨?_,O8 _⟩;have hp:(0:Int)<2^min y.toNat 64:=Int.pow_pos (by decide);rw[ah8 _ (Int.le_of_lt hp)];have h3:=Int.ediv_nonneg h1 (Int.le_of_lt hp);have h4:=Int.ediv_le_self (a:=m) (2^min y.toNat 64) h1;exact⟨h3,by omega⟩
theorem Wt (a:Nat):PP (λx:Int×Int=>(0<=x.1/\x.1<18446744073709551616)/\(-9223372036854775808<=x.2/\x.2<=9223372036854775807)) λn=>w8 n a:=
 (O9 a).bind λx _=>(zw x).bind λy _=>(PP.ck (by decide)).bind λ_ _=>PP.ite (λ_=>HX (Gf _).1 (Gf _).2) λ_=>HX (Gf _).1 (Gf _).2
theorem QF {e:Int}(h1:-9223372036854775808<=e)(h2:e<18446744073709551616):(Lib.itoa e).length<=21:=by
 unfold Lib.itoa;split
 .rw[aas,Lib.decDigits_length];have:=EO 20 e.natAbs (by omega) (by omega);omega
 .rw[Lib.decDigits_length];have:=EO 20 e.toNat (by omega) (by omega);omega
theorem afF {u:Int}(h1:0<=u)(h2:u<18446744073709551616):PP (λx:ζ=>x.size<=21) λn=>pN n u 10:=by
 refine PP.bind (P:=λx:ζ=>x.size<=21) ?_ λx hx=>PP.pure hx;unfold gj;refine PP.ite (λ_=>PP.pure ?_) λhn=>absurd ⟨h1,h2,rfl⟩ hn;show (Lib.itoa u).toArray.size<=21;have:=QF (e:=u) (by omega) h2;simp;omega
theorem abF {e:Int}(h1:-9223372036854775808<=e)(h2:e<=9223372036854775807):PP (λx:ζ=>x.size<=21) λn=>strconv_Itoa n e:=by
 unfold strconv_Itoa;refine PP.ite (λ_=>PP.pure ?_) λhn=>absurd ⟨h1,h2⟩ hn;show (Lib.itoa e).toArray.size<=21;have:=QF (e:=e) h1 (by omega);simp;omega
theorem My {a:Nat}{s:ζ}(hs:s.size<=1):PP (Any:ζ->Prop) λn=>qx n a s:=by
 have h3:(ofBytes [105,110,102]).size=3:=rfl;have h4:(ofBytes [48,112,48]).size=3:=rfl;have h5:(ofBytes [112]).size=1:=rfl;refine PP.ite (λ_=>PP.pure trivial) λ_=>(Mx a 0).bind λb _=>PP.ite (λ_=>(PP.cat (by unfold cF;omega)).bind λ_ _=>PP.pure trivial) λ_=>PP.ite (λ_=>(PP.cat (by unfold cF;omega)).bind λ_ _=>PP.pure trivial) λ_=>?_;refine (Wt a).bind λx hx=>(afF hx.1.1 hx.1.2).bind λy hy=>(PP.cat (by unfold cF;omega)).bind λz hz=>(PP.cat (by unfold cF;omega)).bind λz2 hz2=>(abF hx.2.1 hx.2.2).bind λz3 hz3=>(PP.cat (by unfold cF;omega)).bind λ_ _=>PP.pure trivial
theorem Wu (a:Nat):PP (Any:ζ->Prop) λn=>yI n a:=
 (Zm a).bind λb _=>PP.ite (λ_=>My (by decide)) λ_=>My (by decide)
theorem Tk (s:ζ)(b:Bool)(m e:Int):PP (Any:Nat×Bool->Prop) λn=>iQ n s b m e:=
 (Ws _ e).bind λx _=>(Wu x).bind λy _=>PP.ite (λ_=>PP.pure trivial) λ_=>PP.ite (λ_=>(EP _ _).bind λ_ _=>PP.pure trivial) λ_=>PP.pure trivial
theorem Zn {m e:Int}(h1:0<=m)(h2:m<=18446744073709551615):PP (Any:Bool->Prop) λn=>oa n m e:=by
 refine PP.bind (P:=Any) ?_ λx _=>(PP.ck (by decide)).bind λ_ _=>PP.ite (λ_=>PP.ite (λ_=>PP.ite (λ_=>PP.ite (λ_=>PP.pure trivial) λ_=>PP.pure trivial) λ_=>PP.pure trivial) λ_=>PP.pure trivial) λ_=>PP.pure trivial;unfold fQ;exact PP.ite (λ_=>PP.pure trivial) λhn=>absurd ⟨h1,h2⟩ hn
theorem adu {s:ζ}(hs:s.size<=65536):PP (λr:ζ×ζ×Bool=>r.1.size<=65536/\r.2.1.size<=65536) λn=>strings_Cut n s (ofBytes [112]):=by
 refine PP.bind (P:=λr:ζ×ζ×Bool=>r.1.size<=65536/\r.2.1.size<=65536) ?_ λx hx=>PP.pure hx;unfold qw;refine PP.bind (P:=λx:Int=>x=Lib.indexByte s.data.toList 112) ⟨_,rfl,λ_ _=>rfl⟩ λx hx=>?_;subst hx;refine PP.ite (λhc=>?_) λ_=>PP.pure ⟨hs,by show 0<=65536;omega⟩;rcases ixb s.data.toList 112 with hneg|⟨i,hi,hg⟩
 .simp only[OF] at hc;omega
 .have hlt:i<s.size:=(List.getElem?_eq_some_iff.1 hg).1;rw[hi];have h1:=CN s 0 i;have h2:=CN s (i+1) s.size;refine PP.bind (P:=λx:ζ=>x.size<=65536) ⟨s.extract 0 i,by omega,λ_ h=>by show je s 0 (i:Int) h=_;unfold je;rw[AT (by omega)];simp⟩ λx hx=>?_;have ew:IntKind.i64.wrap ((i:Int)+((ofBytes [112]).size:Int))=((i+1:Nat):Int):=by
   have:(ofBytes [112]).size=1:=rfl;rw[s6 (by omega) (by omega)];omega
  rw[ew];refine PP.bind (P:=λx:ζ=>x.size<=65536) ⟨s.extract (i+1) s.size,by omega,λ_ h=>by show je s ((i+1:Nat):Int) (s.size:Int) h=_;unfold je;rw[AT (by omega)];simp⟩ λy hy=>PP.pure ⟨hx,hy⟩
theorem Zo {s:ζ}{n:Nat}(hs:s.size<=65536)(hw:WF h):Wp (fG n s 10 64) h λr h'=>(match Lib.parseUintB 64 s.data.toList with | .ok v=>r=((v:Int),.nilIface)|_=>∃t u,r.2=.iface t u)/\Fr (λ_=>False) h h':=by
 unfold fG;rw[AT ⟨by omega,rfl,rfl⟩];cases e:Lib.parseUintB 64 s.data.toList with
 |ok v=>exact ag.2 ⟨rfl,Fr.refl hw⟩
 |range=>
  show Wp (xN _) h _;unfold xN;rw[ah];exact J6 λh' f=>ag.2 ⟨⟨_,_,rfl⟩,f hw⟩
 | _=>
  show Wp (xN 0) h _;unfold xN;rw[ah];exact J6 λh' f=>ag.2 ⟨⟨_,_,rfl⟩,f hw⟩
def One (m:Nat->M (Nat×Bool)):Prop:=∃b:Nat×Bool,∀n h,WF h->Wp (m n) h λx h'=>x=b/\Fr (λ_=>False) h h'
theorem One.of {m:Nat->M (Nat×Bool)}(hm:PP (Any:Nat×Bool->Prop) m):One m:=by
 obtain⟨x,_,hx⟩:=hm;exact⟨x,λn h hw=>⟨x,h,hx n h,rfl,Fr.refl hw⟩⟩
theorem One.bind {P:α->Prop}{m:Nat->M α}{f:Nat->α->M (Nat×Bool)}(hm:PP P m)(hf:∀x,P x->One λn=>f n x):One λn=>sh (m n) (f n):=by
 obtain⟨x,hx,h1⟩:=hm
 grind [sh]
theorem One.ite {c:Prop}[Decidable c]{a b:Nat->M (Nat×Bool)}(ha:c->One a)(hb:¬c->One b):One λn=>if c then a n else b n:=by
 by_cases hc:c
 .simp_all
 simp_all
theorem iC {h h1 h2:af}(hw:WF h)(a:Fr (λ_=>False) h h1)(b:Fr (λ_=>False) h1 h2):Fr (λ_=>False) h h2:=a.trans hw b λ_ hx _=>hx.elim
theorem CQ {s:ζ}(hs:s.size<=65536):One λn=>mw n s:=by
 unfold mw;refine One.bind (P:=λx:ζ×Bool=>x.1.size<=65536) ⟨_,?_,λ_ _=>rfl⟩ λx0 h0=>One.ite (λ_=>One.of (adt.bind λ_ _=>PP.pure trivial)) λ_=>One.ite (λ_=>One.of ((Pb _).bind λ_ _=>PP.ite (λ_=>(EP _ _).bind λ_ _=>PP.pure trivial) λ_=>PP.pure trivial)) λ_=>
  One.ite (λ_=>One.of (PP.ite (λ_=>(EP _ _).bind λ_ _=>PP.pure trivial) λ_=>PP.pure trivial)) λ_=>One.bind (adu h0) λr hr=>?_
 .show (Lib.trimPrefix s.data.toList (ofBytes [45]).data.toList).toArray.size<=65536;have:=Kc s.data.toList (ofBytes [45]).data.toList;have h2:s.data.toList.length=s.size:=rfl;rw[agY];omega
 .obtain⟨t,u,found⟩:=r;simp only at hr⊢;have tail:∀(v:Nat) (e:Int),Lib.parseUintB 64 t.data.toList=.ok v->One λn=>sh (oa n (v:Int) e) λx6=>if (!x6)=true then AI (0,false) else iQ n x0.1 x0.2 (v:Int) e:=λv e hv=>by
   have hle:=Lib.parseUintB_le hv;exact One.of ((Zn (by omega) (by omega)).bind λ_ _=>PP.ite (λ_=>PP.pure trivial) λ_=>Tk _ _ _ _)
  have go:∃b:Nat×Bool,∀n (x2 x3:Int×ξ) (h:af),WF h->(match Lib.parseUintB 64 t.data.toList with | .ok v=>x2=((v:Int),.nilIface)|_=>∃t u,x2.2=.iface t u)->(match Lib.atoiAll u.data.toList with | .ok v=>x3=(v,.nilIface)|_=>∃t u,x3.2=.iface t u) ->
    Wp (if (!found)=true then AI (0,false) else sh (kM x2.2) λx4=>if (!x4)=true then AI (0,false) else sh (kM x3.2) λx5=>if (!x5)=true then AI (0,false) else
     sh (oa n x2.1 x3.1) λx6=>if (!x6)=true then AI (0,false) else iQ n x0.1 x0.2 x2.1 x3.1) h λx h'=>x=b/\Fr (λ_=>False) h h':=by
   cases found with
   |false=>exact⟨((0:Nat),false),λn x2 x3 h hw _ _=>by rw[AT (show (!false)=true from rfl)];exact ag.2 ⟨rfl,Fr.refl hw⟩⟩
   |true=>
    have bad2:∀n (x2 x3:Int×ξ) (h:af),WF h->(∃t u,x2.2=.iface t u)->Wp (if (!true)=true then AI (0,false) else sh (kM x2.2) λx4=>if (!x4)=true then AI (0,false) else sh (kM x3.2) λx5=>if (!x5)=true then AI (0,false) else
     sh (oa n x2.1 x3.1) λx6=>if (!x6)=true then AI (0,false) else iQ n x0.1 x0.2 x2.1 x3.1) h λx h'=>x=((0:Nat),false)/\Fr (λ_=>False) h h':=λn x2 x3 h hw hb=>by
     rw[By (show ¬((!true)=true) by decide)];refine BJ hb ?_;rw[AT (show (!false)=true from rfl)];exact ag.2 ⟨rfl,Fr.refl hw⟩
    cases e2:Lib.parseUintB 64 t.data.toList with
    |range=>exact⟨((0:Nat),false),λn x2 x3 h hw hb _=>bad2 n x2 x3 h hw hb⟩
    |ok v=>
     have bad3:∀n (x2 x3:Int×ξ) (h:af),WF h->x2.2=.nilIface->(∃t u,x3.2=.iface t u)->Wp (if (!true)=true then AI (0,false) else sh (kM x2.2) λx4=>if (!x4)=true then AI (0,false) else sh (kM x3.2) λx5=>if (!x5)=true then AI (0,false) else
      sh (oa n x2.1 x3.1) λx6=>if (!x6)=true then AI (0,false) else iQ n x0.1 x0.2 x2.1 x3.1) h λx h'=>x=((0:Nat),false)/\Fr (λ_=>False) h h':=λn x2 x3 h hw ha hb=>by
      rw[By (show ¬((!true)=true) by decide)];refine BI ha ?_;rw[By (show ¬((!true)=true) by decide)];refine BJ hb ?_;rw[AT (show (!false)=true from rfl)];exact ag.2 ⟨rfl,Fr.refl hw⟩
     cases e3:Lib.atoiAll u.data.toList with
     |range=>exact⟨((0:Nat),false),λn x2 x3 h hw ha hb=>bad3 n x2 x3 h hw (by rw[ha]) hb⟩
     |ok e=>
      obtain⟨b,hb⟩:=tail v e e2;refine⟨b,λn x2 x3 h hw h2 h3=>?_⟩;simp only at h2 h3;subst h2;subst h3;rw[By (show ¬((!true)=true) by decide)];refine BI rfl ?_;rw[By (show ¬((!true)=true) by decide)];refine BI rfl ?_;rw[By (show ¬((!true)=true) by decide)];exact hb n h hw
     | _=>exact⟨((0:Nat),false),λn x2 x3 h hw ha hb=>bad3 n x2 x3 h hw (by rw[ha]) hb⟩
    | _=>exact⟨((0:Nat),false),λn x2 x3 h hw hb _=>bad2 n x2 x3 h hw hb⟩
  obtain⟨b,hb⟩:=go;refine⟨b,λn h hw=>?_⟩;show Wp (sh (fG n t 10 64) _) h _;rw[ah];refine (Zo hr.1 hw).mono λx2 h1 hx2=>?_;rw[ah];refine (QE hr.2 hx2.2.wf).mono λx3 h2 hx3=>?_;refine (hb n x2 x3 h2 hx3.2.wf hx2.1 hx3.1).mono λx h3 hx=>⟨hx.1,iC hw hx2.2 (iC hx2.2.wf hx3.2 hx.2)⟩
theorem QG (s:ζ)(hs:s.size<=65536):∃b,∀n h,WF h->Wp (qy n s) h λx h'=>x=b/\Fr (λ_=>False) h h':=by
 obtain⟨b,hb⟩:=CQ hs;refine⟨b.2,λn h hw=>?_⟩;unfold qy;rw[ah];exact (hb n h hw).mono λx h1 hx=>ag.2 ⟨by rw[hx.1],hx.2⟩
open Classical in
noncomputable def adv (s:ζ):Bool:=if hs:s.size<=65536 then (QG s hs).choose else false
theorem Ea {s:ζ}{n:Nat}(hs:s.size<=65536)(hw:WF h):Wp (qy n s) h λx h'=>x=adv s/\Fr (λ_=>False) h h':=by
 unfold adv;rw[dif_pos hs];exact (QG s hs).choose_spec n h hw
end Go.Sh
