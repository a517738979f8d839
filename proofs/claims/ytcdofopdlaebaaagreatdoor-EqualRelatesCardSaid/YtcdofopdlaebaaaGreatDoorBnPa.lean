
import Derived.Test.YtcdofopdlaebaaaGreatDoorPaa
set_option linter.all false
namespace Go.Sh
open Go Go.Ago Go.Proofs
variable {α β:Type}{h h' h0:af}{L:List bj}{Q:β->af->Prop}
def PP (P:α->Prop)(m:Nat->M α):Prop:=∃x,P x/\∀n h,m n h=some (x,h)
abbrev Any:α->Prop:=λ_=>True
theorem PP.pure {P:α->Prop}{x:α}(hx:P x):PP P λ_=>AI x:=⟨x,hx,λ_ _=>rfl⟩
theorem PP.bind {P:α->Prop}{R:β->Prop}{m:Nat->M α}{f:Nat->α->M β}(hm:PP P m)(hf:∀x,P x->PP R λn=>f n x):PP R λn=>sh (m n) (f n):=by
 obtain⟨x,hx,h1⟩:=hm;obtain⟨y,hy,h2⟩:=hf x hx;exact⟨y,hy,λn h=>by simp only[sh,h1,h2]⟩
theorem PP.ite {P:α->Prop}{c:Prop}[Decidable c]{a b:Nat->M α}(ha:c->PP P a)(hb:¬c->PP P b):PP P λn=>if c then a n else b n:=by
 by_cases hc:c
 .obtain⟨x,hx,h1⟩:=ha hc;exact⟨x,hx,λn h=>by show (if c then a n else b n) h=_;rw[if_pos hc];exact h1 n h⟩
 .obtain⟨x,hx,h1⟩:=hb hc;exact⟨x,hx,λn h=>by show (if c then a n else b n) h=_;rw[if_neg hc];exact h1 n h⟩
theorem PP.mono {P P':α->Prop}{m:Nat->M α}(hm:PP P m)(hp:∀x,P x->P' x):PP P' m:=let ⟨x,hx,h1⟩:=hm;⟨x,hp x hx,h1⟩
theorem PP.ck {b:Bool}(hb:b=true):PP (Any:Unit->Prop) λ_=>kC b:=⟨(),trivial,λ_ h=>by rw[hb];rfl⟩
theorem PP.cat {x y:ByteArray}(hs:x.size+y.size<=cK):PP (λz:ByteArray=>z.size=x.size+y.size) λ_=>kF x y:=⟨x++y,by show (x++y).size=_;rw[afo],λ_ h=>by show (if x.size+y.size<=cK then some (x++y,h) else none)=_;rw[if_pos hs]⟩
def VC (b:Nat):Bool:=(FloatKind.f64.format.read b).isNaN
theorem aci {a b:Nat}(ha:VC a=false)(hb:∃s m p,FloatKind.f64.format.read b=.number s m p/\m≠0):PP (Any:Nat->Prop) λ_=>JV a b:=by
 obtain⟨s,m,p,h1,h2⟩:=hb;have:∃r,FloatKind.f64.format.mul a b=some r:=by
  unfold Ieee.Format.mul;rw[h1];unfold VC at ha;cases hr:FloatKind.f64.format.read a with
  |number t n q=>exact⟨_,rfl⟩
  |infinity t=>simp only[Ieee.Datum.product,if_neg h2,adO];exact⟨_,rfl⟩
  |nan t q=>rw[hr] at ha;cases ha
 obtain⟨r,hr⟩:=this;exact⟨r,trivial,λ_ h=>by unfold JV;rw[hr];rfl⟩
theorem Yv {a b:Nat}(hb:VC b=false)(ha:∃s m p,FloatKind.f64.format.read a=.number s m p/\m≠0):PP (Any:Nat->Prop) λ_=>JV a b:=by
 obtain⟨s,m,p,h1,h2⟩:=ha;have:∃r,FloatKind.f64.format.mul a b=some r:=by
  unfold Ieee.Format.mul;rw[h1];unfold VC at hb;cases hr:FloatKind.f64.format.read b with
  |number t n q=>exact⟨_,rfl⟩
  |infinity t=>simp only[Ieee.Datum.product,if_neg h2,adO];exact⟨_,rfl⟩
  |nan t q=>rw[hr] at hb;cases hb
 obtain⟨r,hr⟩:=this;exact⟨r,trivial,λ_ h=>by unfold JV;rw[hr];rfl⟩
theorem acj {a:Nat}(h:FU a a=true):VC a=false:=by
 unfold FU Ieee.Format.order at h;unfold VC;cases hr:FloatKind.f64.format.read a with
 |number t n q=>rfl
 |infinity t=>rfl
 |nan t q=>rw[hr] at h;simp[Ieee.Datum.order] at h
theorem Oa {b:Nat}{s:Bool}{m:Nat}{p:Int}(h:FloatKind.f64.format.read b=.number s m p)(hm:m≠0):∃s m p,FloatKind.f64.format.read b=.number s m p/\m≠0:=⟨s,m,p,h,hm⟩
theorem Yw {b:Nat}(h:b%9223372036854775808<9218868437227405312):VC b=false:=by
 unfold VC FloatKind.format Ieee.Format.read;have e1:Ieee.double.signWeight=9223372036854775808:=by decide +kernel
 have e2:Ieee.double.infRung=9218868437227405312:=by decide +kernel
 simp only[e1];rw[e2];split
 .rfl
 .rfl
theorem wH {x:Int}(h1:0<=x)(h2:x<18446744073709551616):IntKind.u64.wrap x=x:=by rw[IntKind.wrap_u64];omega
theorem Fm (x:Int):0<=IntKind.u64.wrap x/\IntKind.u64.wrap x<18446744073709551616:=by rw[IntKind.wrap_u64];omega
theorem Ob (x:Int):-9223372036854775808<=IntKind.i64.wrap x/\IntKind.i64.wrap x<=9223372036854775807:=by rw[IntKind.wrap_i64];omega
theorem field (a1:Int)(e:Nat)(he:e<=2046) :
  VC (IntKind.u64.wrap ((BitVec.ofInt 64 (IntKind.u64.wrap ((BitVec.ofInt 64 a1&&&~~~BitVec.ofInt 64 9218868437227405312).toNat:Int))|||BitVec.ofInt 64 (IntKind.u64.wrap (IntKind.u64.wrap (e:Int)*2^52))).toNat:Int)).toNat=false:=by
 have hA:(BitVec.ofInt 64 a1&&&~~~BitVec.ofInt 64 9218868437227405312).toNat%9223372036854775808<4503599627370496:=by
  rw[BitVec.toNat_and];have hc:(~~~BitVec.ofInt 64 9218868437227405312).toNat=9227875636482146303:=by decide +kernel
  rw[hc,show (9223372036854775808:Nat)=2^63 from rfl,Nat.and_mod_two_pow,show 9227875636482146303%2^63=2^52-1 from rfl,Nat.and_two_pow_sub_one_eq_mod];exact agT _ (by decide)
 have hlt:(BitVec.ofInt 64 a1&&&~~~BitVec.ofInt 64 9218868437227405312).toNat<18446744073709551616:=(BitVec.ofInt 64 a1&&&~~~BitVec.ofInt 64 9218868437227405312).isLt;generalize (BitVec.ofInt 64 a1&&&~~~BitVec.ofInt 64 9218868437227405312).toNat=A at hA hlt⊢;rw[wH (x:=(A:Int)) (by omega) (by omega),wH (x:=(e:Int)) (by omega) (by omega),wH (x:=(e:Int)*2^52) (by omega) (by omega),BitVec.toNat_or,agM,agM];have e1:((A:Int)%(2^64:Nat)).toNat=A:=by omega
 have e2:((e:Int)*2^52%(2^64:Nat)).toNat=e*4503599627370496:=by omega
 rw[e1,e2];have hor:A|||e*4503599627370496<18446744073709551616:=Nat.or_lt_two_pow (n:=64) hlt (by omega);rw[wH (by omega) (by omega),IS];refine Yw ?_;rw[show (9223372036854775808:Nat)=2^63 from rfl,Nat.or_mod_two_pow];have h1:A%2^63<2^52:=hA;have h2:e*4503599627370496%2^63=e*4503599627370496:=Nat.mod_eq_of_lt (by omega);rw[h2];have h3:A%2^63|||e*4503599627370496<=A%2^63+e*4503599627370496:=by
  rw[show e*4503599627370496=e <<< 52 by rw[Nat.shiftLeft_eq],Nat.or_comm,<-Nat.shiftLeft_add_eq_or_of_lt h1,ahk];exact aaR _
 omega
theorem VD (x:Int):0<=Pf x/\Pf x<64:=by
 unfold Pf;have:=Fm (bits BinOp.and IntKind.u64 x (IntKind.u64.wrap (-x))*285870213051353865);omega
theorem ack (i:Nat):Hl i<64:=by
 unfold Hl;by_cases hi:i<64
 .have h1:FV.all (·<64)=true:=by decide
  have h2:i<FV.length:=hi;rw[acP,aaJ h2,agA];simpa using List.all_eq_true.1 h1 _ (afl h2)
 .have h2:FV.length<=i:=by have:FV.length=64:=rfl;omega
  rw[acP,ad8 h2];decide
theorem aew (x:Int):PP (λy:Int=>0<=y/\y<=64) λn=>cU n x:=by
 unfold cU;refine PP.ite (λ_=>PP.pure (by omega)) λ_=>PP.ite (λhc=>PP.pure ?_) λhc=>absurd (VD x) hc;have:=ack (Pf x).toNat;unfold Go.RowKit.wrap64;omega
theorem yB (b:Nat):PP (λy:Int=>y=b) λn=>eU n b:=PP.pure rfl
theorem yC (x:Int):PP (λy:Nat=>y=x.toNat) λn=>cY n x:=PP.pure rfl
theorem Oc (b:Nat):PP (Any:Nat->Prop) λn=>xL n b:=(yB b).bind λx _=>(yC _).bind λy _=>PP.pure trivial
theorem Od (x:Int):PP (Any:Nat->Prop) λn=>xJ n x:=PP.ite (λ_=>(yC _).bind λy _=>PP.pure trivial) λ_=>(yC _).bind λy _=>PP.pure trivial
theorem acm:PP (Any:Nat->Prop) λn=>EU n:=(yC _).bind λy _=>PP.pure trivial
theorem D0 (a b:Nat):PP (Any:Nat->Prop) λn=>mC n a b:=(yB a).bind λx _=>(yB b).bind λy _=>(yC _).bind λy _=>PP.pure trivial
theorem LG (a:Nat)(x:Int):PP (Any:Bool->Prop) λn=>wa n a x:=PP.ite (λ_=>(Oc a).bind λy _=>PP.pure trivial) λ_=>PP.ite (λ_=>PP.pure trivial) λ_=>PP.pure trivial
theorem Yx (a:Nat):PP (Any:Bool->Prop) λn=>wb n a:=(yB a).bind λx _=>PP.pure trivial
theorem Jl {a:Nat}(ha:VC a=false):PP (Any:Nat×Int->Prop) λn=>tQ n a:=by
 refine (Oc a).bind λy _=>PP.ite (λ_=>(aci ha ?_).bind λz _=>PP.pure trivial) λ_=>PP.pure trivial;exact Oa (s:=false) (m:=4503599627370496) (p:=0) (by decide +kernel) (by decide)
theorem aaH {e a1:Int}{c:Nat}(h1:-1022<=e)(h2:e<=1023)(hc:∃s m p,FloatKind.f64.format.read c=.number s m p/\m≠0):PP (Any:Nat->Prop) λn=>rM n e a1 c:=by
 refine (PP.ck (by decide)).bind λ_ _=>(yC _).bind λy hy=>(Yv ?_ hc).bind λz _=>PP.pure trivial;rw[hy,sq (by omega) (by omega)];obtain⟨k,hk⟩:∃k:Nat,e+1023=k:=⟨(e+1023).toNat,by omega⟩;rw[hk];exact field a1 k (by omega)
theorem VE (a:Nat)(e:Int):PP (Any:Nat->Prop) λn=>zO n a e:=by
 refine PP.bind (P:=Any) ?_ λy _=>PP.pure trivial;refine PP.ite (λ_=>PP.pure trivial) λ_=>(LG a 0).bind λb _=>PP.ite (λ_=>PP.pure trivial) λ_=>PP.bind (P:=λb=>b=!FU a a) (PP.pure rfl) λb hb=>PP.ite (λ_=>PP.pure trivial) λhn=>?_;have ha:VC a=false:=acj (by subst hb;simpa using hn);refine (Jl ha).bind λx _=>(yB _).bind λx1 _=>(PP.ck (by decide)).bind λ_ _=>?_;generalize IntKind.i64.wrap (IntKind.i64.wrap (e+x.2)+IntKind.i64.wrap (IntKind.i64.wrap (↑(BitVec.ofInt 64 (IntKind.i64.wrap (Int.fdiv x1 (2^52)))&&&BitVec.ofInt 64 2047).toNat:Int)-1023))=E;refine PP.ite (λ_=>(D0 _ _).bind λ_ _=>PP.pure trivial) λg1=>PP.ite (λ_=>PP.ite (λ_=>(Od _).bind λ_ _=>PP.pure trivial) λ_=>(Od _).bind λ_ _=>PP.pure trivial) λg2=>PP.ite (λg3=>?_) λg3=>?_
 .simp only[decide_eq_true_eq] at g1 g2 g3;rw[sq (by omega) (by omega)];exact aaH (by omega) (by omega) (Oa (s:=false) (m:=4503599627370496) (p:=-105) (by decide +kernel) (by decide))
 .simp only[decide_eq_true_eq] at g1 g2 g3;exact aaH (by omega) (by omega) (Oa (s:=false) (m:=4503599627370496) (p:=-52) (by decide +kernel) (by decide))
theorem G6 {m e:Int}(h1:0<=m)(h2:m<18446744073709551616):PP (λx:Int×Int=>(0<=x.1/\x.1<18446744073709551616)/\(-9223372036854775808<=x.2/\x.2<=9223372036854775807)) λn=>oO n m e:=by
 refine (aew m).bind λy hy=>(PP.ck (by simpa using hy.1)).bind λ_ _=>PP.pure ⟨?_,Ob _⟩;have hp:(0:Int)<2^min y.toNat 64:=Int.pow_pos (by decide);rw[agS _ (Int.le_of_lt hp)];have h3:=Int.ediv_nonneg h1 (Int.le_of_lt hp);have h4:=Int.ediv_le_self (a:=m) (2^min y.toNat 64) h1;exact⟨h3,by omega⟩
theorem VF (a:Nat):PP (λx:Int×Int=>(0<=x.1/\x.1<18446744073709551616)/\(-9223372036854775808<=x.2/\x.2<=9223372036854775807)) λn=>wc n a:=
 (Oc a).bind λx _=>(yB x).bind λy _=>(PP.ck (by decide)).bind λ_ _=>PP.ite (λ_=>G6 (Fm _).1 (Fm _).2) λ_=>G6 (Fm _).1 (Fm _).2
theorem PQ {e:Int}(h1:-9223372036854775808<=e)(h2:e<18446744073709551616):(Lib.itoa e).length<=21:=by
 unfold Lib.itoa;split
 .rw[OF,Lib.decDigits_length];have:=DZ 20 e.natAbs (by omega) (by omega);omega
 .rw[Lib.decDigits_length];have:=DZ 20 e.toNat (by omega) (by omega);omega
theorem aex {u:Int}(h1:0<=u)(h2:u<18446744073709551616):PP (λx:ByteArray=>x.size<=21) λn=>o7 n u 10:=by
 refine PP.bind (P:=λx:ByteArray=>x.size<=21) ?_ λx hx=>PP.pure hx;unfold fS;refine PP.ite (λ_=>PP.pure ?_) λhn=>absurd ⟨h1,h2,rfl⟩ hn;show (Lib.itoa u).toArray.size<=21;have:=PQ (e:=u) (by omega) h2;simp;omega
theorem aaI {e:Int}(h1:-9223372036854775808<=e)(h2:e<=9223372036854775807):PP (λx:ByteArray=>x.size<=21) λn=>strconv_Itoa n e:=by
 unfold strconv_Itoa;refine PP.ite (λ_=>PP.pure ?_) λhn=>absurd ⟨h1,h2⟩ hn;show (Lib.itoa e).toArray.size<=21;have:=PQ (e:=e) h1 (by omega);simp;omega
theorem LH {a:Nat}{s:ByteArray}(hs:s.size<=1):PP (Any:ByteArray->Prop) λn=>pV n a s:=by
 have h3:(ofBytes [105,110,102]).size=3:=rfl;have h4:(ofBytes [48,112,48]).size=3:=rfl;have h5:(ofBytes [112]).size=1:=rfl;refine PP.ite (λ_=>PP.pure trivial) λ_=>(LG a 0).bind λb _=>PP.ite (λ_=>(PP.cat (by unfold cK;omega)).bind λ_ _=>PP.pure trivial) λ_=>PP.ite (λ_=>(PP.cat (by unfold cK;omega)).bind λ_ _=>PP.pure trivial) λ_=>?_;refine (VF a).bind λx hx=>(aex hx.1.1 hx.1.2).bind λy hy=>(PP.cat (by unfold cK;omega)).bind λz hz=>(PP.cat (by unfold cK;omega)).bind λz2 hz2=>(aaI hx.2.1 hx.2.2).bind λz3 hz3=>(PP.cat (by unfold cK;omega)).bind λ_ _=>PP.pure trivial
theorem VG (a:Nat):PP (Any:ByteArray->Prop) λn=>xM n a:=
 (Yx a).bind λb _=>PP.ite (λ_=>LH (by decide)) λ_=>LH (by decide)
theorem So (s:ByteArray)(b:Bool)(m e:Int):PP (Any:Nat×Bool->Prop) λn=>iw n s b m e:=
 (VE _ e).bind λx _=>(VG x).bind λy _=>PP.ite (λ_=>PP.pure trivial) λ_=>PP.ite (λ_=>(D0 _ _).bind λ_ _=>PP.pure trivial) λ_=>PP.pure trivial
theorem Yy {m e:Int}(h1:0<=m)(h2:m<=18446744073709551615):PP (Any:Bool->Prop) λn=>nB n m e:=by
 refine PP.bind (P:=Any) ?_ λx _=>(PP.ck (by decide)).bind λ_ _=>PP.ite (λ_=>PP.ite (λ_=>PP.ite (λ_=>PP.ite (λ_=>PP.pure trivial) λ_=>PP.pure trivial) λ_=>PP.pure trivial) λ_=>PP.pure trivial) λ_=>PP.pure trivial;unfold fJ;exact PP.ite (λ_=>PP.pure trivial) λhn=>absurd ⟨h1,h2⟩ hn
theorem acn {s:ByteArray}(hs:s.size<=65536):PP (λr:ByteArray×ByteArray×Bool=>r.1.size<=65536/\r.2.1.size<=65536) λn=>strings_Cut n s (ofBytes [112]):=by
 refine PP.bind (P:=λr:ByteArray×ByteArray×Bool=>r.1.size<=65536/\r.2.1.size<=65536) ?_ λx hx=>PP.pure hx;unfold pU;refine PP.bind (P:=λx:Int=>x=Lib.indexByte s.data.toList 112) ⟨_,rfl,λ_ _=>rfl⟩ λx hx=>?_;subst hx;refine PP.ite (λhc=>?_) λ_=>PP.pure ⟨hs,by show 0<=65536;omega⟩;rcases ixb s.data.toList 112 with hneg|⟨i,hi,hg⟩
 .simp only[decide_eq_true_eq] at hc;omega
 .have hlt:i<s.size:=(List.getElem?_eq_some_iff.1 hg).1;rw[hi];have h1:=BZ s 0 i;have h2:=BZ s (i+1) s.size;refine PP.bind (P:=λx:ByteArray=>x.size<=65536) ⟨s.extract 0 i,by omega,λ_ h=>by show iL s 0 (i:Int) h=_;unfold iL;rw[if_pos (by omega)];simp⟩ λx hx=>?_;have ew:IntKind.i64.wrap ((i:Int)+((ofBytes [112]).size:Int))=((i+1:Nat):Int):=by
   have:(ofBytes [112]).size=1:=rfl;rw[sq (by omega) (by omega)];omega
  rw[ew];refine PP.bind (P:=λx:ByteArray=>x.size<=65536) ⟨s.extract (i+1) s.size,by omega,λ_ h=>by show iL s ((i+1:Nat):Int) (s.size:Int) h=_;unfold iL;rw[if_pos (by omega)];simp⟩ λy hy=>PP.pure ⟨hx,hy⟩
theorem Yz {s:ByteArray}{n:Nat}(hs:s.size<=65536)(hw:WF h):Wp (ft n s 10 64) h λr h'=>(match Lib.parseUintB 64 s.data.toList with | .ok v=>r=((v:Int),.nilIface)|_=>∃t u,r.2=.iface t u)/\Fr (λ_=>False) h h':=by
 unfold ft;rw[if_pos ⟨by omega,rfl,rfl⟩];cases e:Lib.parseUintB 64 s.data.toList with
 |ok v=>exact ag.2 ⟨rfl,Fr.refl hw⟩
 |range=>
  show Wp (wY _) h _;unfold wY;rw[ah];exact Jg λh' f=>ag.2 ⟨⟨_,_,rfl⟩,f hw⟩
 | _=>
  show Wp (wY 0) h _;unfold wY;rw[ah];exact Jg λh' f=>ag.2 ⟨⟨_,_,rfl⟩,f hw⟩
def One (m:Nat->M (Nat×Bool)):Prop:=∃b:Nat×Bool,∀n h,WF h->Wp (m n) h λx h'=>x=b/\Fr (λ_=>False) h h'
theorem One.of {m:Nat->M (Nat×Bool)}(hm:PP (Any:Nat×Bool->Prop) m):One m:=by
 obtain⟨x,_,hx⟩:=hm;exact⟨x,λn h hw=>⟨x,h,hx n h,rfl,Fr.refl hw⟩⟩
theorem One.bind {P:α->Prop}{m:Nat->M α}{f:Nat->α->M (Nat×Bool)}(hm:PP P m)(hf:∀x,P x->One λn=>f n x):One λn=>sh (m n) (f n):=by
 obtain⟨x,hx,h1⟩:=hm;obtain⟨b,hb⟩:=hf x hx;refine⟨b,λn h hw=>?_⟩;obtain⟨y,h',e,q⟩:=hb n h hw;exact⟨y,h',by simp only[sh,h1,e],q⟩
theorem One.ite {c:Prop}[Decidable c]{a b:Nat->M (Nat×Bool)}(ha:c->One a)(hb:¬c->One b):One λn=>if c then a n else b n:=by
 by_cases hc:c
 .obtain⟨x,h1⟩:=ha hc;exact⟨x,λn h hw=>by show Wp (if c then a n else b n) h _;rw[if_pos hc];exact h1 n h hw⟩
 .obtain⟨x,h1⟩:=hb hc;exact⟨x,λn h hw=>by show Wp (if c then a n else b n) h _;rw[if_neg hc];exact h1 n h hw⟩
theorem gZ {h h1 h2:af}(hw:WF h)(a:Fr (λ_=>False) h h1)(b:Fr (λ_=>False) h1 h2):Fr (λ_=>False) h h2:=a.trans hw b λ_ hx _=>hx.elim
theorem B4 {s:ByteArray}(hs:s.size<=65536):One λn=>lR n s:=by
 unfold lR;refine One.bind (P:=λx:ByteArray×Bool=>x.1.size<=65536) ⟨_,?_,λ_ _=>rfl⟩ λx0 h0=>One.ite (λ_=>One.of (acm.bind λ_ _=>PP.pure trivial)) λ_=>One.ite (λ_=>One.of ((Od _).bind λ_ _=>PP.ite (λ_=>(D0 _ _).bind λ_ _=>PP.pure trivial) λ_=>PP.pure trivial)) λ_=>
  One.ite (λ_=>One.of (PP.ite (λ_=>(D0 _ _).bind λ_ _=>PP.pure trivial) λ_=>PP.pure trivial)) λ_=>One.bind (acn h0) λr hr=>?_
 .show (Lib.trimPrefix s.data.toList (ofBytes [45]).data.toList).toArray.size<=65536;have:=Jk s.data.toList (ofBytes [45]).data.toList;have h2:s.data.toList.length=s.size:=rfl;rw[afT];omega
 .obtain⟨t,u,found⟩:=r;simp only at hr⊢;have tail:∀(v:Nat) (e:Int),Lib.parseUintB 64 t.data.toList=.ok v->One λn=>sh (nB n (v:Int) e) λx6=>if (!x6)=true then AI (0,false) else iw n x0.1 x0.2 (v:Int) e:=λv e hv=>by
   have hle:=Lib.parseUintB_le hv;exact One.of ((Yy (by omega) (by omega)).bind λ_ _=>PP.ite (λ_=>PP.pure trivial) λ_=>So _ _ _ _)
  have go:∃b:Nat×Bool,∀n (x2 x3:Int×Value) (h:af),WF h->(match Lib.parseUintB 64 t.data.toList with | .ok v=>x2=((v:Int),.nilIface)|_=>∃t u,x2.2=.iface t u)->(match Lib.atoiAll u.data.toList with | .ok v=>x3=(v,.nilIface)|_=>∃t u,x3.2=.iface t u) ->
    Wp (if (!found)=true then AI (0,false) else sh (kc x2.2) λx4=>if (!x4)=true then AI (0,false) else sh (kc x3.2) λx5=>if (!x5)=true then AI (0,false) else
     sh (nB n x2.1 x3.1) λx6=>if (!x6)=true then AI (0,false) else iw n x0.1 x0.2 x2.1 x3.1) h λx h'=>x=b/\Fr (λ_=>False) h h':=by
   cases found with
   |false=>exact⟨((0:Nat),false),λn x2 x3 h hw _ _=>by rw[if_pos (show (!false)=true from rfl)];exact ag.2 ⟨rfl,Fr.refl hw⟩⟩
   |true=>
    have bad2:∀n (x2 x3:Int×Value) (h:af),WF h->(∃t u,x2.2=.iface t u)->Wp (if (!true)=true then AI (0,false) else sh (kc x2.2) λx4=>if (!x4)=true then AI (0,false) else sh (kc x3.2) λx5=>if (!x5)=true then AI (0,false) else
     sh (nB n x2.1 x3.1) λx6=>if (!x6)=true then AI (0,false) else iw n x0.1 x0.2 x2.1 x3.1) h λx h'=>x=((0:Nat),false)/\Fr (λ_=>False) h h':=λn x2 x3 h hw hb=>by
     rw[if_neg (show ¬((!true)=true) by decide)];refine A3 hb ?_;rw[if_pos (show (!false)=true from rfl)];exact ag.2 ⟨rfl,Fr.refl hw⟩
    cases e2:Lib.parseUintB 64 t.data.toList with
    |range=>exact⟨((0:Nat),false),λn x2 x3 h hw hb _=>bad2 n x2 x3 h hw hb⟩
    |ok v=>
     have bad3:∀n (x2 x3:Int×Value) (h:af),WF h->x2.2=.nilIface->(∃t u,x3.2=.iface t u)->Wp (if (!true)=true then AI (0,false) else sh (kc x2.2) λx4=>if (!x4)=true then AI (0,false) else sh (kc x3.2) λx5=>if (!x5)=true then AI (0,false) else
      sh (nB n x2.1 x3.1) λx6=>if (!x6)=true then AI (0,false) else iw n x0.1 x0.2 x2.1 x3.1) h λx h'=>x=((0:Nat),false)/\Fr (λ_=>False) h h':=λn x2 x3 h hw ha hb=>by
      rw[if_neg (show ¬((!true)=true) by decide)];refine A2 ha ?_;rw[if_neg (show ¬((!true)=true) by decide)];refine A3 hb ?_;rw[if_pos (show (!false)=true from rfl)];exact ag.2 ⟨rfl,Fr.refl hw⟩
     cases e3:Lib.atoiAll u.data.toList with
     |range=>exact⟨((0:Nat),false),λn x2 x3 h hw ha hb=>bad3 n x2 x3 h hw (by rw[ha]) hb⟩
     |ok e=>
      obtain⟨b,hb⟩:=tail v e e2;refine⟨b,λn x2 x3 h hw h2 h3=>?_⟩;simp only at h2 h3;subst h2;subst h3;rw[if_neg (show ¬((!true)=true) by decide)];refine A2 rfl ?_;rw[if_neg (show ¬((!true)=true) by decide)];refine A2 rfl ?_;rw[if_neg (show ¬((!true)=true) by decide)];exact hb n h hw
     | _=>exact⟨((0:Nat),false),λn x2 x3 h hw ha hb=>bad3 n x2 x3 h hw (by rw[ha]) hb⟩
    | _=>exact⟨((0:Nat),false),λn x2 x3 h hw hb _=>bad2 n x2 x3 h hw hb⟩
  obtain⟨b,hb⟩:=go;refine⟨b,λn h hw=>?_⟩;show Wp (sh (ft n t 10 64) _) h _;rw[ah];refine (Yz hr.1 hw).mono λx2 h1 hx2=>?_;rw[ah];refine (PO hr.2 hx2.2.wf).mono λx3 h2 hx3=>?_;refine (hb n x2 x3 h2 hx3.2.wf hx2.1 hx3.1).mono λx h3 hx=>⟨hx.1,gZ hw hx2.2 (gZ hx2.2.wf hx3.2 hx.2)⟩
theorem PR (s:ByteArray)(hs:s.size<=65536):∃b,∀n h,WF h->Wp (pW n s) h λx h'=>x=b/\Fr (λ_=>False) h h':=by
 obtain⟨b,hb⟩:=B4 hs;refine⟨b.2,λn h hw=>?_⟩;unfold pW;rw[ah];exact (hb n h hw).mono λx h1 hx=>ag.2 ⟨by rw[hx.1],hx.2⟩
open Classical in
noncomputable def aco (s:ByteArray):Bool:=if hs:s.size<=65536 then (PR s hs).choose else false
theorem Di {s:ByteArray}{n:Nat}(hs:s.size<=65536)(hw:WF h):Wp (pW n s) h λx h'=>x=aco s/\Fr (λ_=>False) h h':=by
 unfold aco;rw[dif_pos hs];exact (PR s hs).choose_spec n h hw
end Go.Sh
