
import Derived.Test.YtdbjhobkhjneeaaGreatDoorPaa
set_option linter.all false
namespace Go.Sh
open Go Go.Ago Go.Proofs
section
def ru (b:UInt8):Bool:=b==45||decide (48<=b.toNat/\b.toNat<=57)
def Fv (b:UInt8):Bool:=ru b||b==46||b==58||b==84
def CS (p:UInt8->Bool)(s:ζ):Prop:=∀b∈s.data.toList,p b=true
def SV {b:UInt8}(h:ru b=true):Fv b=true:=by unfold Fv;rw[h];rfl
def CS.mom {s:ζ}(h:CS ru s):CS Fv s:=λb hb=>SV (h b hb)
theorem CS.app {p:UInt8->Bool}{x y z:ζ}(h1:CS p x)(h2:CS p y)(e:z.data.toList=x.data.toList++y.data.toList):CS p z:=λb hb=>by
 rw[e,ae0] at hb;exact hb.elim (h1 b) (h2 b)
def SW:∀(u:Nat),∀b∈Lib.decDigits u,ru b=true:=by
 intro u b hb;rw[Lib.decDigits_eq] at hb;obtain⟨t,_,rfl⟩:=List.mem_map.1 hb;unfold ru Lib.dg;have h:(UInt8.ofNat (48+u/10^(Lib.nDigits u-1-t)%10)).toNat=48+u/10^(Lib.nDigits u-1-t)%10:=by
  rw[UInt8.toNat_ofNat'];omega
 simp only[al5,abD];right;rw[h];omega
def OJ (e:Int):∀b∈Lib.itoa e,ru b=true:=by
 intro b hb;unfold Lib.itoa at hb;split at hb
 .rcases List.mem_cons.1 hb with rfl|hb
  .rfl
  .exact SW _ b hb
 .exact SW _ b hb
def ZJ (u:Nat):0<Lib.nDigits u:=by
 rw[Lib.nDigits];split<;>omega
def OL (e:Int):0<(Lib.itoa e).length:=by
 unfold Lib.itoa;split
 .simp
 .rw[Lib.decDigits_length];exact ZJ _
def adj {l:List UInt8}{p:UInt8->Bool}(h:∀b∈l,p b=true):∀(c:Nat),∀b∈Lib.repeatL l c,p b=true:=by
 intro c
 induction c with
 |zero=>intro b hb;cases hb
 |succ c ih=>
  intro b hb;unfold Lib.repeatL at hb;rcases List.mem_append.1 hb with hb|hb
  .exact h b hb
  .exact ih b hb
def ZK {l:List UInt8}{c:UInt8}:∀b∈Lib.trimRightB l c,b∈l:=by
 intro b hb;unfold Lib.trimRightB at hb;have:=(an6 (·==c) (l:=l.reverse)).subset (List.mem_reverse.1 hb)
 exact List.mem_reverse.1 this
def TX (s:ζ):Prop:=CS Fv s/\∃c t,s.data.toList=c::t/\((45:UInt8)∈t\/(58:UInt8)∈t)
theorem TX.app {x y z:ζ}(h1:TX x)(h2:CS Fv y)(e:z.data.toList=x.data.toList++y.data.toList):TX z:=by
 obtain⟨a,c,t,e1,h⟩:=h1;refine⟨a.app h2 e,c,t++y.data.toList,by rw[e,e1];rfl,?_⟩;simp only[ae0]
 grind
def TX.pre {x y z:ζ}(h1:CS Fv x)(h2:TX y)(e:z.data.toList=x.data.toList++y.data.toList):TX z:=by
 obtain⟨a,c,t,e1,h⟩:=h2;refine⟨h1.app a e,?_⟩;cases hx:x.data.toList with
 |nil=>exact⟨c,t,by rw[e,hx,e1];rfl,h⟩
 |cons b r=>
  refine⟨b,r++c::t,by rw[e,hx,e1];rfl,?_⟩;simp only[ae0,al8]
  grind
def TX.mk' {x z:ζ}{b:UInt8}(h0:0<x.size)(h1:CS ru x)(hb:b=45\/b=58)(e:z.data.toList=x.data.toList++[b]):TX z:=by
 refine⟨λd hd=>?_,?_⟩
 .rw[e,ae0] at hd;rcases hd with hd|hd
  .exact SV (h1 d hd)
  .obtain rfl:=List.mem_singleton.1 hd;rcases hb with rfl|rfl<;>decide
 .cases hx:x.data.toList with
  |nil=>
   have:x.data.toList.length=x.size:=rfl;rw[hx] at this;simp at this;omega
  |cons c t=>
   refine⟨c,t++[b],by rw[e,hx];rfl,?_⟩;simp only[ae0,agk]
   grind
end
section
def OM (b:UInt8):Bool:=ru b||b==101||b==43
def ZL (b:UInt8):Bool:=ru b||b==112||b==110||b==97||b==105||b==102
def FX (s:ζ):Prop:=CS ZL s/\((112:UInt8)∈s.data.toList\/(110:UInt8)∈s.data.toList)
def SY {b:UInt8}(h:ru b=true):ZL b=true:=by unfold ZL;rw[h];rfl
def FX.pre {x y z:ζ}(h1:CS ru x)(h2:FX y)(e:z.data.toList=x.data.toList++y.data.toList):FX z:=by
 refine⟨CS.app (λb hb=>SY (h1 b hb)) h2.1 e,?_⟩;rw[e];simp only[ae0];exact h2.2.elim (λh=>.inl (.inr h)) λh=>.inr (.inr h)
theorem FX.app {x y z:ζ}(h1:FX x)(h2:CS ru y)(e:z.data.toList=x.data.toList++y.data.toList):FX z:=by
 refine⟨CS.app h1.1 (λb hb=>SY (h2 b hb)) e,?_⟩;rw[e];simp only[ae0];exact h1.2.elim (λh=>.inl (.inl h)) λh=>.inr (.inl h)
def ZM:∀(l:List UInt8) (acc u:Nat),Lib.parseUint10 acc l=.ok u->∀b∈l,ru b=true
 |[],_,_,_=>λb hb=>by cases hb
 |c::r,acc,u,h=>by
  simp only[Lib.parseUint10] at h;split at h
  .rename_i hc;split at h
   .cases h
   .split at h
    .cases h
    .intro b hb;rcases List.mem_cons.1 hb with rfl|hb
     .unfold ru;rw[aod hc];simp
     .exact ZM r _ u h b hb
  .cases h
def SZ {l:List UInt8}{u:Nat}(h:Lib.parseMag l=.ok u):∀b∈l,ru b=true:=by
 unfold Lib.parseMag at h;split at h
 .cases h
 .exact ZM l 0 u h
def ZN {l:List UInt8}{e:Int}(h:Lib.atoiAll l=.ok e):∀b∈l,OM b=true:=by
 cases l with
 |nil=>intro b hb;cases hb
 |cons c r=>
  have hn:∀{b:UInt8},ru b=true->OM b=true:=λh=>by unfold OM;rw[h];rfl
  unfold Lib.atoiAll at h;simp only at h;split at h
  .cases h
  .cases h
  .rename_i u hu;split at hu
   .rename_i hc;intro b hb;rcases List.mem_cons.1 hb with rfl|hb
    .rcases hc with hc|hc
     .rw[show b=43 from UInt8.toNat_inj.1 hc];decide
     .rw[show b=45 from UInt8.toNat_inj.1 hc];decide
    .exact hn (SZ hu b hb)
   .exact λb hb=>hn (SZ hu b hb)
variable {Q X:List UInt8->List UInt8}
def lfB (Q X:List UInt8->List UInt8)(k:Int)(t:List UInt8):List UInt8:=
 if k=0 then [110,117,108,108] else if k=5 then 34::Q t++[34] else if k=6 then 35::X t else if k=7 then 64::t else if k=8 then 37::t else t
def SX (k:Int)(t:List UInt8):Prop:=0<=k/\k<9/\(k=0->t=[])/\(k=1->t=[116,114,117,101]\/t=[102,97,108,115,101]) /\
 (k=2->(∀b∈t,ru b=true)/\t≠[])/\(k=3->(∀b∈t,OM b=true)/\(101:UInt8)∈t)/\(k=4->(∀b∈t,ZL b=true)/\((112:UInt8)∈t\/(110:UInt8)∈t))/\(k=7\/k=8->∀b∈t,Fv b=true\/b=90)
def hdB (l:List UInt8):Int:=match l with
 |b::_=>if b=34 then 5 else if b=35 then 6 else if b=64 then 7 else if b=37 then 8 else 9
 |[]=>9
def ZO (l:List UInt8):Int:=
 if hdB l<9 then hdB l else if l=[110,117,108,108] then 0 else if l=[116,114,117,101]\/l=[102,97,108,115,101] then 1 else if l.all ru=true then 2 else if l.all OM=true then 3 else 4
def ZP {p:UInt8->Bool}{l:List UInt8}(h:∀b∈l,p b=true)(h1:p 34=false)(h2:p 35=false)(h3:p 64=false)(h4:p 37=false):¬hdB l<9:=by
 cases l with
 |nil=>decide
 |cons b r=>
  have hb:=h b IS;unfold hdB;simp only;rw[AT (by rintro rfl;simp_all),AT (by rintro rfl;simp_all),AT (by rintro rfl;simp_all),AT (by rintro rfl;simp_all)];decide
def En {p:UInt8->Bool}{l m:List UInt8}(h:∀b∈l,p b=true){c:UInt8}(hc:c∈m)(hp:p c=false):l≠m:=by
 rintro rfl;rw[h c hc] at hp;cases hp
def ZQ {k:Int}{t:List UInt8}(h:SX k t):ZO (lfB Q X k t)=k:=by
 obtain⟨k0,k9,h0,h1,h2,h3,h4,h7⟩:=h;have hk:k=0\/k=1\/k=2\/k=3\/k=4\/k=5\/k=6\/k=7\/k=8:=by omega
 unfold lfB;rcases hk with rfl|rfl|rfl|rfl|rfl|rfl|rfl|rfl|rfl
 .rfl
 .rcases h1 rfl with rfl|rfl<;>rfl
 .obtain⟨a,b⟩:=h2 rfl;rw[AT (by decide),AT (by decide),AT (by decide),AT (by decide),AT (by decide)];unfold ZO;rw[AT (ZP a (by decide) (by decide) (by decide) (by decide)),AT (En a (c:=110) (by decide) (by decide)),AT (λq=>q.elim (En a (c:=116) (by decide) (by decide)) (En a (c:=102) (by decide) (by decide))),By (List.all_eq_true.2 a)]
 .obtain⟨a,b⟩:=h3 rfl;rw[AT (by decide),AT (by decide),AT (by decide),AT (by decide),AT (by decide)];unfold ZO;rw[AT (ZP a (by decide) (by decide) (by decide) (by decide)),AT (En a (c:=110) (by decide) (by decide)),AT (λq=>q.elim (En a (c:=116) (by decide) (by decide)) (En a (c:=102) (by decide) (by decide))),AT (λq=>absurd (List.all_eq_true.1 q _ b) (by decide)),By (List.all_eq_true.2 a)]
 .obtain⟨a,b⟩:=h4 rfl;rw[AT (by decide),AT (by decide),AT (by decide),AT (by decide),AT (by decide)];unfold ZO;rw[AT (ZP a (by decide) (by decide) (by decide) (by decide)),AT (En a (c:=117) (by decide) (by decide)),AT (λq=>q.elim (En a (c:=116) (by decide) (by decide)) (En a (c:=108) (by decide) (by decide))),
   AT (λq=>b.elim (λb=>absurd (List.all_eq_true.1 q _ b) (by decide)) λb=>absurd (List.all_eq_true.1 q _ b) (by decide)),AT (λq=>b.elim (λb=>absurd (List.all_eq_true.1 q _ b) (by decide)) λb=>absurd (List.all_eq_true.1 q _ b) (by decide))]
 all_goals (unfold ZO;simp[hdB])
def ai4 {k k2:Int}{t t2:List UInt8}(hQ:∀s t,34::Q s++[34]=34::Q t++[34]->s=t)(hX:∀s t,X s=X t->s=t)(h:SX k t)(h2:SX k2 t2)(e:lfB Q X k t=lfB Q X k2 t2):k=k2/\t=t2:=by
 have hk:k=k2:=by rw[<-ZQ (Q:=Q) (X:=X) h,<-ZQ (Q:=Q) (X:=X) h2,e]
 subst hk;refine⟨rfl,?_⟩;by_cases k0:k=0
 .rw[h.2.2.1 k0,h2.2.2.1 k0]
 unfold lfB at e;rw[AT k0,AT k0] at e;by_cases k5:k=5
 .rw[By k5,By k5] at e;exact hQ _ _ e
 rw[AT k5,AT k5] at e;by_cases k6:k=6
 .rw[By k6,By k6] at e;exact hX _ _ (am0 e).2
 rw[AT k6,AT k6] at e;by_cases k7:k=7
 .rw[By k7,By k7] at e;exact (am0 e).2
 rw[AT k7,AT k7] at e;by_cases k8:k=8
 .rw[By k8,By k8] at e;exact (am0 e).2
 rwa [AT k8,AT k8] at e
end
section
variable {α β:Type}{h h' h0:aj}{L:List bJ}{Q:β->aj->Prop}
def PP (P:α->Prop)(m:Nat->M α):Prop:=∃x,P x/\∀n h,m n h=some (x,h)
abbrev Any:α->Prop:=λ_=>True
def PP.pure {P:α->Prop}{x:α}(hx:P x):PP P λ_=>AI x:=⟨x,hx,λ_ _=>rfl⟩
theorem PP.bind {P:α->Prop}{R:β->Prop}{m:Nat->M α}{f:Nat->α->M β}(hm:PP P m)(hf:∀x,P x->PP R λn=>f n x):PP R λn=>sh (m n) (f n):=by
 obtain⟨x,hx,h1⟩:=hm
 grind [sh]
def PP.ite {P:α->Prop}{c:Prop}[Decidable c]{a b:Nat->M α}(ha:c->PP P a)(hb:¬c->PP P b):PP P λn=>if c then a n else b n:=by
 by_cases hc:c
 .simp_all
 simp_all
def PP.mono {P P':α->Prop}{m:Nat->M α}(hm:PP P m)(hp:∀x,P x->P' x):PP P' m:=let ⟨x,hx,h1⟩:=hm;⟨x,hp x hx,h1⟩
theorem PP.ck {b:Bool}(hb:b=true):PP (Any:Unit->Prop) λ_=>pI b:=⟨(),trivial,λ_ h=>by rw[hb];rfl⟩
theorem PP.cat {x y:ζ}(hs:x.size+y.size<=cP):PP (λz:ζ=>z.size=x.size+y.size/\z.data.toList=x.data.toList++y.data.toList) λ_=>kK x y:=⟨x++y,⟨by rw[akw],by simp⟩,λ_ h=>by show (if x.size+y.size<=cP then some (x++y,h) else none)=_;rw[By hs]⟩
def ZR (b:Nat):Bool:=(FloatKind.f64.format.read b).isNaN
theorem ai5 {a b:Nat}(ha:ZR a=false)(hb:∃s m p,FloatKind.f64.format.read b=.number s m p/\m≠0):PP (Any:Nat->Prop) λ_=>Nd a b:=by
 obtain⟨s,m,p,h1,h2⟩:=hb;have:∃r,FloatKind.f64.format.mul a b=some r:=by
  unfold Ieee.Format.mul;rw[h1];unfold ZR at ha;cases hr:FloatKind.f64.format.read a with
  |number t n q=>exact⟨_,rfl⟩
  |infinity t=>simp only[Ieee.Datum.product,AT h2,aku];exact⟨_,rfl⟩
  |nan t q=>rw[hr] at ha;cases ha
 obtain⟨r,hr⟩:=this;exact⟨r,trivial,λ_ h=>by unfold Nd;rw[hr];rfl⟩
theorem adk {a b:Nat}(hb:ZR b=false)(ha:∃s m p,FloatKind.f64.format.read a=.number s m p/\m≠0):PP (Any:Nat->Prop) λ_=>Nd a b:=by
 obtain⟨s,m,p,h1,h2⟩:=ha;have:∃r,FloatKind.f64.format.mul a b=some r:=by
  unfold Ieee.Format.mul;rw[h1];unfold ZR at hb;cases hr:FloatKind.f64.format.read b with
  |number t n q=>exact⟨_,rfl⟩
  |infinity t=>simp only[Ieee.Datum.product,AT h2,aku];exact⟨_,rfl⟩
  |nan t q=>rw[hr] at hb;cases hb
 obtain⟨r,hr⟩:=this;exact⟨r,trivial,λ_ h=>by unfold Nd;rw[hr];rfl⟩
def ai6 {a:Nat}(h:zL a a=true):ZR a=false:=by
 unfold zL Ieee.Format.order at h;unfold ZR;cases hr:FloatKind.f64.format.read a with
 |number t n q=>rfl
 |infinity t=>rfl
 |nan t q=>rw[hr] at h;simp[Ieee.Datum.order] at h
def Q5 {b:Nat}{s:Bool}{m:Nat}{p:Int}(h:FloatKind.f64.format.read b=.number s m p)(hm:m≠0):∃s m p,FloatKind.f64.format.read b=.number s m p/\m≠0:=⟨s,m,p,h,hm⟩
def adl {b:Nat}(h:b%9223372036854775808<9218868437227405312):ZR b=false:=by
 unfold ZR FloatKind.format Ieee.Format.read;have e1:Ieee.double.signWeight=9223372036854775808:=by decide +kernel
 have e2:Ieee.double.infRung=9218868437227405312:=by decide +kernel
 simp only[e1];rw[e2];split
 .rfl
 .rfl
theorem zA {x:Int}(h1:0<=x)(h2:x<18446744073709551616):IntKind.u64.wrap x=x:=by rw[IntKind.wrap_u64];omega
def Iu (x:Int):0<=IntKind.u64.wrap x/\IntKind.u64.wrap x<18446744073709551616:=by rw[IntKind.wrap_u64];omega
def Q6 (x:Int):-9223372036854775808<=IntKind.i64.wrap x/\IntKind.i64.wrap x<=9223372036854775807:=by rw[IntKind.wrap_i64];omega
def field (a1:Int)(e:Nat)(he:e<=2046) :
  ZR (IntKind.u64.wrap ((BitVec.ofInt 64 (IntKind.u64.wrap ((BitVec.ofInt 64 a1&&&~~~BitVec.ofInt 64 9218868437227405312).toNat:Int))|||BitVec.ofInt 64 (IntKind.u64.wrap (IntKind.u64.wrap (e:Int)*2^52))).toNat:Int)).toNat=false:=by
 have hA:(BitVec.ofInt 64 a1&&&~~~BitVec.ofInt 64 9218868437227405312).toNat%9223372036854775808<4503599627370496:=by
  rw[anV];have hc:(~~~BitVec.ofInt 64 9218868437227405312).toNat=9227875636482146303:=by decide +kernel
  rw[hc,show (9223372036854775808:Nat)=2^63 from rfl,Nat.and_mod_two_pow,show 9227875636482146303%2^63=2^52-1 from rfl,anA];exact amR _ (by decide)
 have hlt:(BitVec.ofInt 64 a1&&&~~~BitVec.ofInt 64 9218868437227405312).toNat<18446744073709551616:=(BitVec.ofInt 64 a1&&&~~~BitVec.ofInt 64 9218868437227405312).isLt;generalize (BitVec.ofInt 64 a1&&&~~~BitVec.ofInt 64 9218868437227405312).toNat=A at hA hlt⊢;rw[zA (x:=(A:Int)) (by omega) (by omega),zA (x:=(e:Int)) (by omega) (by omega),zA (x:=(e:Int)*2^52) (by omega) (by omega),BitVec.toNat_or,akC,akC];have e1:((A:Int)%(2^64:Nat)).toNat=A:=by omega
 have e2:((e:Int)*2^52%(2^64:Nat)).toNat=e*4503599627370496:=by omega
 rw[e1,e2];have hor:A|||e*4503599627370496<18446744073709551616:=Nat.or_lt_two_pow (n:=64) hlt (by omega);rw[zA (by omega) (by omega),OF];refine adl ?_;rw[show (9223372036854775808:Nat)=2^63 from rfl,Nat.or_mod_two_pow];have h1:A%2^63<2^52:=hA;have h2:e*4503599627370496%2^63=e*4503599627370496:=Nat.mod_eq_of_lt (by omega);rw[h2];have h3:A%2^63|||e*4503599627370496<=A%2^63+e*4503599627370496:=by
  rw[show e*4503599627370496=e <<< 52 by rw[amW],Nat.or_comm,<-anF h1,anU];exact aa2 _
 omega
def ZS (x:Int):0<=Sp x/\Sp x<64:=by
 unfold Sp;have:=Iu (bits BinOp.and IntKind.u64 x (IntKind.u64.wrap (-x))*285870213051353865);omega
theorem ai7 (i:Nat):Ld i<64:=by
 unfold Ld;by_cases hi:i<64
 .have h1:Ji.all (·<64)=true:=by decide
  have h2:i<Ji.length:=hi
  simp_all
 .have h2:Ji.length<=i:=by have:Ji.length=64:=rfl;omega
  grind
theorem alh (x:Int):PP (λy:Int=>0<=y/\y<=64) λn=>da n x:=by
 unfold da;refine PP.ite (λ_=>PP.pure (by omega)) λ_=>PP.ite (λhc=>PP.pure ?_) λhc=>absurd (ZS x) hc
 grind [ai7,Sp,Go.RowKit.wrap64]
def BE (b:Nat):PP (λy:Int=>y=b) λn=>bX n b:=PP.pure rfl
def BF (x:Int):PP (λy:Nat=>y=x.toNat) λn=>bA n x:=PP.pure rfl
def Q7 (b:Nat):PP (Any:Nat->Prop) λn=>qw n b:=(BE b).bind λx _=>(BF _).bind λy _=>PP.pure trivial
def Q8 (x:Int):PP (Any:Nat->Prop) λn=>uK n x:=PP.ite (λ_=>(BF _).bind λy _=>PP.pure trivial) λ_=>(BF _).bind λy _=>PP.pure trivial
def ZT:PP (Any:Nat->Prop) λn=>H7 n:=(BF _).bind λy _=>PP.pure trivial
def GX (a b:Nat):PP (Any:Nat->Prop) λn=>jS n a b:=(BE a).bind λx _=>(BE b).bind λy _=>(BF _).bind λy _=>PP.pure trivial
def Iv (a:Nat)(x:Int):PP (Any:Bool->Prop) λn=>nD n a x:=PP.ite (λ_=>(Q7 a).bind λy _=>PP.pure trivial) λ_=>PP.ite (λ_=>PP.pure trivial) λ_=>PP.pure trivial
def adm (a:Nat):PP (Any:Bool->Prop) λn=>lu n a:=(BE a).bind λx _=>PP.pure trivial
def L6 {a:Nat}(ha:ZR a=false):PP (Any:Nat×Int->Prop) λn=>wC n a:=by
 refine (Q7 a).bind λy _=>PP.ite (λ_=>(ai5 ha ?_).bind λz _=>PP.pure trivial) λ_=>PP.pure trivial;exact Q5 (s:=false) (m:=4503599627370496) (p:=0) (by decide +kernel) (by decide)
def af1 {e a1:Int}{c:Nat}(h1:-1022<=e)(h2:e<=1023)(hc:∃s m p,FloatKind.f64.format.read c=.number s m p/\m≠0):PP (Any:Nat->Prop) λn=>uy n e a1 c:=by
 refine (PP.ck (by decide)).bind λ_ _=>(BF _).bind λy hy=>(adk ?_ hc).bind λz _=>PP.pure trivial;rw[hy,tH (by omega) (by omega)];obtain⟨k,hk⟩:∃k:Nat,e+1023=k:=⟨(e+1023).toNat,by omega⟩;rw[hk];exact field a1 k (by omega)
def ON (a:Nat)(e:Int):PP (Any:Nat->Prop) λn=>Di n a e:=by
 refine PP.bind (P:=Any) ?_ λy _=>PP.pure trivial;refine PP.ite (λ_=>PP.pure trivial) λ_=>(Iv a 0).bind λb _=>PP.ite (λ_=>PP.pure trivial) λ_=>PP.bind (P:=λb=>b=!zL a a) (PP.pure rfl) λb hb=>PP.ite (λ_=>PP.pure trivial) λhn=>?_;have ha:ZR a=false:=ai6 (by subst hb;simpa using hn);refine (L6 ha).bind λx _=>(BE _).bind λx1 _=>(PP.ck (by decide)).bind λ_ _=>?_;generalize IntKind.i64.wrap (IntKind.i64.wrap (e+x.2)+IntKind.i64.wrap (IntKind.i64.wrap (↑(BitVec.ofInt 64 (IntKind.i64.wrap (Int.fdiv x1 (2^52)))&&&BitVec.ofInt 64 2047).toNat:Int)-1023))=E;refine PP.ite (λ_=>(GX _ _).bind λ_ _=>PP.pure trivial) λg1=>PP.ite (λ_=>PP.ite (λ_=>(Q8 _).bind λ_ _=>PP.pure trivial) λ_=>(Q8 _).bind λ_ _=>PP.pure trivial) λg2=>PP.ite (λg3=>?_) λg3=>?_
 .simp only[abD] at g1 g2 g3;rw[tH (by omega) (by omega)];exact af1 (by omega) (by omega) (Q5 (s:=false) (m:=4503599627370496) (p:=-105) (by decide +kernel) (by decide))
 .simp only[abD] at g1 g2 g3;exact af1 (by omega) (by omega) (Q5 (s:=false) (m:=4503599627370496) (p:=-52) (by decide +kernel) (by decide))
def Ki {m e:Int}(h1:0<=m)(h2:m<18446744073709551616):PP (λx:Int×Int=>(0<=x.1/\x.1<18446744073709551616)/\(-9223372036854775808<=x.2/\x.2<=9223372036854775807)) λn=>qK n m e:=by
 refine (alh m).bind λy hy=>(PP.ck (by simpa using hy.1)).bind λ_ _=>PP.pure ⟨?_,Q6 _⟩;have hp:(0:Int)<2^min y.toNat 64:=Int.pow_pos (by decide);rw[anN _ (aov hp)];have h3:=Int.ediv_nonneg h1 (aov hp);have h4:=Int.ediv_le_self (a:=m) (2^min y.toNat 64) h1;exact⟨h3,by omega⟩
def OO (a:Nat):PP (λx:Int×Int=>(0<=x.1/\x.1<18446744073709551616)/\(-9223372036854775808<=x.2/\x.2<=9223372036854775807)) λn=>nE n a:=
 (Q7 a).bind λx _=>(BE x).bind λy _=>(PP.ck (by decide)).bind λ_ _=>PP.ite (λ_=>Ki (Iu _).1 (Iu _).2) λ_=>Ki (Iu _).1 (Iu _).2
def S0 {e:Int}(h1:-9223372036854775808<=e)(h2:e<18446744073709551616):(Lib.itoa e).length<=21:=by
 unfold Lib.itoa;split
 .rw[abv,Lib.decDigits_length];have:=GU 20 e.natAbs (by omega) (by omega);omega
 .rw[Lib.decDigits_length];have:=GU 20 e.toNat (by omega) (by omega);omega
def af2 {u:Int}(h1:0<=u)(h2:u<18446744073709551616):PP (λx:ζ=>x.size<=21/\0<x.size/\CS ru x) λn=>qZ n u 10:=by
 refine PP.bind (P:=λx:ζ=>x.size<=21/\0<x.size/\CS ru x) ?_ λx hx=>PP.pure hx;unfold gE;refine PP.ite (λ_=>PP.pure ?_) λhn=>absurd ⟨h1,h2,rfl⟩ hn;have:=S0 (e:=u) (by omega) h2;have:=OL u;refine⟨?_,?_,OJ u⟩
 .show (Lib.itoa u).toArray.size<=21;simp;omega
 .show 0<(Lib.itoa u).toArray.size;simp;omega
def ZU {e:Int}(h1:-9223372036854775808<=e)(h2:e<=9223372036854775807):PP (λx:ζ=>x.size<=21/\0<x.size/\CS ru x) λn=>strconv_Itoa n e:=by
 unfold strconv_Itoa;refine PP.ite (λ_=>PP.pure ?_) λhn=>absurd ⟨h1,h2⟩ hn;have:=S0 (e:=e) h1 (by omega);have:=OL e;refine⟨?_,?_,OJ e⟩
 .show (Lib.itoa e).toArray.size<=21;simp;omega
 .show 0<(Lib.itoa e).toArray.size;simp;omega
def fxl {l:List UInt8}(h:l.all ZL=true)(h2:(112:UInt8)∈l\/(110:UInt8)∈l):FX (ofBytes l):=⟨λb hb=>List.all_eq_true.1 h b hb,h2⟩
def FX.trim {s:ζ}(h:FX ⟨(Lib.trimPrefix s.data.toList [45]).toArray⟩):FX s:=by
 unfold FX CS at h⊢;simp only at h;generalize s.data.toList=l at h⊢;unfold Lib.trimPrefix at h;split at h
 .cases l with
  |nil=>simp at h
  |cons c r=>
   rename_i hp;have hc:c=45:=by
    unfold Lib.hasPrefix at hp;simp at hp
    first|exact hp|exact hp.symm
   subst hc;simp only[abv,ad8,aeq,List.drop_succ_cons,ajb] at h;refine⟨λb hb=>?_,h.2.elim (λh=>.inl (BY _ h)) λh=>.inr (BY _ h)⟩;rcases List.mem_cons.1 hb with rfl|hb
   .decide
   .exact h.1 b hb
 .exact h
def OP {a:Nat}{s:ζ}(hs:s.size<=1)(hc:CS ru s):PP FX λn=>cQ n a s:=by
 have h3:(ofBytes [105,110,102]).size=3:=rfl;have h4:(ofBytes [48,112,48]).size=3:=rfl;have h5:(ofBytes [112]).size=1:=rfl;refine PP.ite (λ_=>PP.pure (fxl (by decide) (by decide))) λ_=>(Iv a 0).bind λb _=>PP.ite (λ_=>(PP.cat (by unfold cP;omega)).bind λ_ hz=>PP.pure (.pre hc (fxl (by decide) (by decide)) hz.2)) λ_=>PP.ite (λ_=>(PP.cat (by unfold cP;omega)).bind λ_ hz=>PP.pure (.pre hc (fxl (by decide) (by decide)) hz.2)) λ_=>?_;refine (OO a).bind λx hx=>(af2 hx.1.1 hx.1.2).bind λy hy=>(PP.cat (by unfold cP;omega)).bind λz hz=>(PP.cat (by unfold cP;omega)).bind λz2 hz2=>(ZU hx.2.1 hx.2.2).bind λz3 hz3=>(PP.cat (by unfold cP;omega)).bind λw hw=>PP.pure ?_;exact .app (.pre (hc.app hy.2.2 hz.2) (fxl (by decide) (by decide)) hz2.2) hz3.2.2 hw.2
def amY:CS ru (ofBytes [45]):=λb hb=>by
 obtain rfl:=List.mem_singleton.1 (show b∈[45] from hb);decide
def cs0:CS ru (ofBytes []):=λb hb=>by cases hb
def OQ (a:Nat):PP FX λn=>gG n a:=
 (adm a).bind λb _=>PP.ite (λ_=>OP (by decide) amY) λ_=>OP (by decide) cs0
theorem Wl (s:ζ)(b:Bool)(m e:Int):PP (λr:Nat×Bool=>r.2=true->FX s) λn=>gj n s b m e:=
 (ON _ e).bind λx _=>(OQ x).bind λy hy=>PP.ite (λ_=>PP.pure λh=>by cases h) λg=>
  have q:FX s:=(iI (by simpa using g):y=s)▸hy
  PP.ite (λ_=>(GX _ _).bind λ_ _=>PP.pure λ_=>q) λ_=>PP.pure λ_=>q
def S5 {m e:Int}(h1:0<=m)(h2:m<=18446744073709551615):PP (Any:Bool->Prop) λn=>o6 n m e:=by
 refine PP.bind (P:=Any) ?_ λx _=>(PP.ck (by decide)).bind λ_ _=>PP.ite (λ_=>PP.ite (λ_=>PP.ite (λ_=>PP.ite (λ_=>PP.pure trivial) λ_=>PP.pure trivial) λ_=>PP.pure trivial) λ_=>PP.pure trivial) λ_=>PP.pure trivial;unfold gf;exact PP.ite (λ_=>PP.pure trivial) λhn=>absurd ⟨h1,h2⟩ hn
theorem ai9 {s:ζ}(hs:s.size<=65536):PP (λr:ζ×ζ×Bool=>r.1.size<=65536/\r.2.1.size<=65536) λn=>strings_Cut n s (ofBytes [112]):=by
 refine PP.bind (P:=λr:ζ×ζ×Bool=>r.1.size<=65536/\r.2.1.size<=65536) ?_ λx hx=>PP.pure hx;unfold oN;refine PP.bind (P:=λx:Int=>x=Lib.indexByte s.data.toList 112) ⟨_,rfl,λ_ _=>rfl⟩ λx hx=>?_;subst hx;refine PP.ite (λhc=>?_) λ_=>PP.pure ⟨hs,by show 0<=65536;omega⟩;rcases ixb s.data.toList 112 with hneg|⟨i,hi,hg⟩
 .simp only[abD] at hc;omega
 .have hlt:i<s.size:=(List.getElem?_eq_some_iff.1 hg).1;rw[hi];have h1:=Dt s 0 i;have h2:=Dt s (i+1) s.size;refine PP.bind (P:=λx:ζ=>x.size<=65536) ⟨s.extract 0 i,by omega,λ_ h=>by show iF s 0 (i:Int) h=_;unfold iF;rw[By (by omega)];simp[Cy]⟩ λx hx=>?_;have ew:IntKind.i64.wrap ((i:Int)+((ofBytes [112]).size:Int))=((i+1:Nat):Int):=by
   have:(ofBytes [112]).size=1:=rfl;rw[tH (by omega) (by omega)];omega
  rw[ew];refine PP.bind (P:=λx:ζ=>x.size<=65536) ⟨s.extract (i+1) s.size,by omega,λ_ h=>by show iF s ((i+1:Nat):Int) (s.size:Int) h=_;unfold iF;rw[By (by omega)];simp[Cy]⟩ λy hy=>PP.pure ⟨hx,hy⟩
def S6 {s:ζ}{n:Nat}(hs:s.size<=65536)(hw:WF h):Wp (fP n s 10 64) h λr h'=>(match Lib.parseUintB 64 s.data.toList with | .ok v=>r=((v:Int),.nilIface)|_=>∃t u,r.2=.iface t u)/\Fr (λ_=>False) h h':=by
 unfold fP;rw[By ⟨by omega,rfl,rfl⟩];cases e:Lib.parseUintB 64 s.data.toList with
 |ok v=>exact af.2 ⟨rfl,Fr.refl hw⟩
 |range=>
  show Wp (zX _) h _;unfold zX;rw[ag];exact LX λh' f=>af.2 ⟨⟨_,_,rfl⟩,f hw⟩
 |_=>
  show Wp (zX 0) h _;unfold zX;rw[ag];exact LX λh' f=>af.2 ⟨⟨_,_,rfl⟩,f hw⟩
def One (R:Nat×Bool->Prop)(m:Nat->M (Nat×Bool)):Prop:=∃b:Nat×Bool,R b/\∀n h,WF h->Wp (m n) h λx h'=>x=b/\Fr (λ_=>False) h h'
variable {R:Nat×Bool->Prop}
theorem One.of {m:Nat->M (Nat×Bool)}(hm:PP R m):One R m:=by
 obtain⟨x,hr,hx⟩:=hm;exact⟨x,hr,λn h hw=>⟨x,h,hx n h,rfl,Fr.refl hw⟩⟩
theorem One.bind {P:α->Prop}{m:Nat->M α}{f:Nat->α->M (Nat×Bool)}(hm:PP P m)(hf:∀x,P x->One R λn=>f n x):One R λn=>sh (m n) (f n):=by
 obtain⟨x,hx,h1⟩:=hm;obtain⟨b,hr,h2⟩:=hf x hx;refine⟨b,hr,λn h hw=>?_⟩;show Wp (sh (m n) (f n)) h _;rw[ag];exact⟨x,h,h1 n h,h2 n h hw⟩
def One.ite {c:Prop}[Decidable c]{a b:Nat->M (Nat×Bool)}(ha:c->One R a)(hb:¬c->One R b):One R λn=>if c then a n else b n:=by
 by_cases hc:c
 .simp_all
 simp_all
def jh {h h1 h2:aj}(hw:WF h)(a:Fr (λ_=>False) h h1)(b:Fr (λ_=>False) h1 h2):Fr (λ_=>False) h h2:=a.trans hw b λ_ hx _=>hx.elim
theorem Fw {s:ζ}(hs:s.size<=65536):One (λb=>b.2=true->FX s) λn=>jQ n s:=by
 unfold jQ;refine One.bind (P:=λx:ζ×Bool=>x.1.size<=65536/\(FX x.1->FX s)) ⟨_,⟨?_,λq=>FX.trim q⟩,λ_ _=>rfl⟩ λx0 h0=>One.ite (λg=>One.of (ZT.bind λ_ _=>PP.pure λ_=>by rw[iI g];exact fxl (by decide) (by decide))) λ_=>
  One.ite (λg=>have q:FX s:=h0.2 (by rw[iI g];exact fxl (by decide) (by decide));One.of ((Q8 _).bind λ_ _=>PP.ite (λ_=>(GX _ _).bind λ_ _=>PP.pure λ_=>q) λ_=>PP.pure λ_=>q)) λ_=>
  One.ite (λg=>have q:FX s:=h0.2 (by rw[iI g];exact fxl (by decide) (by decide));One.of (PP.ite (λ_=>(GX _ _).bind λ_ _=>PP.pure λ_=>q) λ_=>PP.pure λ_=>q)) λ_=>One.bind (ai9 h0.1) λr hr=>?_
 .show (Lib.trimPrefix s.data.toList (ofBytes [45]).data.toList).toArray.size<=65536;have:=GW s.data.toList (ofBytes [45]).data.toList;have h2:s.data.toList.length=s.size:=rfl;rw[anh];omega
 .obtain⟨t,u,found⟩:=r;simp only at hr⊢;have tail:∀(v:Nat) (e:Int),Lib.parseUintB 64 t.data.toList=.ok v->One (λb=>b.2=true->FX s) λn=>sh (o6 n (v:Int) e) λx6=>if (!x6)=true then AI (0,false) else gj n x0.1 x0.2 (v:Int) e:=λv e hv=>by
   have hle:=Lib.parseUintB_le hv;exact One.of ((S5 (by omega) (by omega)).bind λ_ _=>PP.ite (λ_=>PP.pure λh=>by cases h) λ_=>(Wl _ _ _ _).mono λr hr h=>h0.2 (hr h))
  have go:∃b:Nat×Bool,(b.2=true->FX s)/\∀n (x2 x3:Int×ο) (h:aj),WF h->(match Lib.parseUintB 64 t.data.toList with | .ok v=>x2=((v:Int),.nilIface)|_=>∃t u,x2.2=.iface t u)->(match Lib.atoiAll u.data.toList with | .ok v=>x3=(v,.nilIface)|_=>∃t u,x3.2=.iface t u) ->
    Wp (if (!found)=true then AI (0,false) else sh (kL x2.2) λx4=>if (!x4)=true then AI (0,false) else sh (kL x3.2) λx5=>if (!x5)=true then AI (0,false) else
     sh (o6 n x2.1 x3.1) λx6=>if (!x6)=true then AI (0,false) else gj n x0.1 x0.2 x2.1 x3.1) h λx h'=>x=b/\Fr (λ_=>False) h h':=by
   cases found with
   |false=>exact⟨((0:Nat),false),(λh=>by cases h),λn x2 x3 h hw _ _=>by rw[By (show (!false)=true from rfl)];exact af.2 ⟨rfl,Fr.refl hw⟩⟩
   |true=>
    have bad2:∀n (x2 x3:Int×ο) (h:aj),WF h->(∃t u,x2.2=.iface t u)->Wp (if (!true)=true then AI (0,false) else sh (kL x2.2) λx4=>if (!x4)=true then AI (0,false) else sh (kL x3.2) λx5=>if (!x5)=true then AI (0,false) else
     sh (o6 n x2.1 x3.1) λx6=>if (!x6)=true then AI (0,false) else gj n x0.1 x0.2 x2.1 x3.1) h λx h'=>x=((0:Nat),false)/\Fr (λ_=>False) h h':=λn x2 x3 h hw hb=>by
     rw[AT (show ¬((!true)=true) by decide)];refine Bl hb ?_;rw[By (show (!false)=true from rfl)];exact af.2 ⟨rfl,Fr.refl hw⟩
    cases e2:Lib.parseUintB 64 t.data.toList with
    |range=>exact⟨((0:Nat),false),(λh=>by cases h),λn x2 x3 h hw hb _=>bad2 n x2 x3 h hw hb⟩
    |ok v=>
     have bad3:∀n (x2 x3:Int×ο) (h:aj),WF h->x2.2=.nilIface->(∃t u,x3.2=.iface t u)->Wp (if (!true)=true then AI (0,false) else sh (kL x2.2) λx4=>if (!x4)=true then AI (0,false) else sh (kL x3.2) λx5=>if (!x5)=true then AI (0,false) else
      sh (o6 n x2.1 x3.1) λx6=>if (!x6)=true then AI (0,false) else gj n x0.1 x0.2 x2.1 x3.1) h λx h'=>x=((0:Nat),false)/\Fr (λ_=>False) h h':=λn x2 x3 h hw ha hb=>by
      rw[AT (show ¬((!true)=true) by decide)];refine yy ha ?_;rw[AT (show ¬((!true)=true) by decide)];refine Bl hb ?_;rw[By (show (!false)=true from rfl)];exact af.2 ⟨rfl,Fr.refl hw⟩
     cases e3:Lib.atoiAll u.data.toList with
     |range=>exact⟨((0:Nat),false),(λh=>by cases h),λn x2 x3 h hw ha hb=>bad3 n x2 x3 h hw (by rw[ha]) hb⟩
     |ok e=>
      obtain⟨b,rb,hb⟩:=tail v e e2;refine⟨b,rb,λn x2 x3 h hw h2 h3=>?_⟩;simp only at h2 h3;subst h2;subst h3;rw[AT (show ¬((!true)=true) by decide)];refine yy rfl ?_;rw[AT (show ¬((!true)=true) by decide)];refine yy rfl ?_;rw[AT (show ¬((!true)=true) by decide)];exact hb n h hw
     |_=>exact⟨((0:Nat),false),(λh=>by cases h),λn x2 x3 h hw ha hb=>bad3 n x2 x3 h hw (by rw[ha]) hb⟩
    |_=>exact⟨((0:Nat),false),(λh=>by cases h),λn x2 x3 h hw hb _=>bad2 n x2 x3 h hw hb⟩
  obtain⟨b,rb,hb⟩:=go;refine⟨b,rb,λn h hw=>?_⟩;show Wp (sh (fP n t 10 64) _) h _;rw[ag];refine (S6 hr.1 hw).mono λx2 h1 hx2=>?_;rw[ag];refine (L5 hr.2 hx2.2.wf).mono λx3 h2 hx3=>?_;refine (hb n x2 x3 h2 hx3.2.wf hx2.1 hx3.1).mono λx h3 hx=>⟨hx.1,jh hw hx2.2 (jh hx2.2.wf hx3.2 hx.2)⟩
def L7 (s:ζ)(hs:s.size<=65536):∃b:Bool,(b=true->FX s)/\∀n h,WF h->Wp (nH n s) h λx h'=>x=b/\Fr (λ_=>False) h h':=by
 obtain⟨b,rb,hb⟩:=Fw hs;refine⟨b.2,rb,λn h hw=>?_⟩;unfold nH;rw[ag];exact (hb n h hw).mono λx h1 hx=>af.2 ⟨by rw[hx.1],hx.2⟩
open Classical in
noncomputable def Q9 (s:ζ):Bool:=if hs:s.size<=65536 then (L7 s hs).choose else false
def zQ {s:ζ}{n:Nat}(hs:s.size<=65536)(hw:WF h):Wp (nH n s) h λx h'=>x=Q9 s/\Fr (λ_=>False) h h':=by
 unfold Q9;rw[dif_pos hs];exact (L7 s hs).choose_spec.2 n h hw
def adn {s:ζ}(h:Q9 s=true):FX s:=by
 unfold Q9 at h;split at h
 .rename_i hs;exact (L7 s hs).choose_spec.1 h
 .cases h
end
end Go.Sh
