
import Derived.Test.YtpojbnjkkkiccaaGreatDoorPaj
set_option linter.all false
namespace Go.Sh
open Ieee Go Go.Ago
def DK (B r:Nat):Nat:=if r<B then r else (B+r%B)*2^(r/B-1)
def afQ {B:Nat}(hB:0<B)(r:Nat):DK B r<DK B (r+1):=by
 unfold DK;by_cases h:r+1<B
 .rw[By (by omega),By h];omega
 .rw[AT h];by_cases h0:r<B
  .have e:r+1=B:=by omega
   rw[By h0,e,Nat.mod_self,Nat.div_self hB];simp;omega
  .rw[AT h0];have hq:0<r/B:=Nat.div_pos (by omega) hB;have hm:=an5 r hB;have dm:=apg r B;by_cases c:r%B+1<B
   .have e1:(r+1)/B=r/B:=by
     rw[Nat.div_eq_iff (by omega)];constructor
     .have:=aph B (r/B);omega
     .have:=aph B (r/B);omega
    have e2:(r+1)%B=r%B+1:=by
     have:=apg (r+1) B;rw[e1] at this;omega
    rw[e1,e2];exact apr (by omega) (Nat.pow_pos (by omega))
   .have e0:r+1=B*(r/B+1):=(by rw[Nat.mul_add];omega);have e1:(r+1)/B=r/B+1:=(by rw[e0,Nat.mul_div_cancel_left _ hB]);have e2:(r+1)%B=0:=(by rw[e0,Nat.mul_mod_right]);rw[e1,e2,show r/B+1-1=(r/B-1)+1 by omega,Nat.pow_succ,ak4,<-Nat.mul_assoc,Nat.mul_right_comm];exact apr (by omega) (Nat.pow_pos (by omega))
def HC {B:Nat}(hB:0<B):∀{r s:Nat},r<s->DK B r<DK B s
 |r,0,h=>by omega
 |r,s+1,h=>by
  have:=afQ hB s;by_cases e:r=s
  .rw[e];exact this
  .have:=HC hB (r:=r) (s:=s) (by omega);omega
def QL {B:Nat}(hB:0<B){r s:Nat}(e:DK B r=DK B s):r=s:=by
 rcases apv r s with h|h|h
 .have:=HC hB h;omega
 .exact h
 .have:=HC hB h;omega
def Gv {f:Format}{x:Nat}(hn:LR (f.read x)=false)(hc:Cu (f.read x)=0):E6 f.leastPlace (f.read x)=if x/f.signWeight%2=1 then -((DK f.binade (x%f.signWeight):Nat):Int) else ((DK f.binade (x%f.signWeight):Nat):Int):=by
 unfold Format.read at hn hc⊢;simp only at hn hc⊢;unfold DK;by_cases h1:x%f.signWeight<f.binade
 .rw[By h1,By h1];simp only[E6,signed,Int.sub_self,Int.toNat_zero,Nat.shiftLeft_zero,beq_iff_eq]
 .rw[AT h1] at hn hc⊢;rw[AT h1];by_cases h2:x%f.signWeight<f.infRung
  .rw[By h2];simp only[E6,signed,beq_iff_eq];rw[show (f.leastPlace+((x%f.signWeight/f.binade-1:Nat):Int)-f.leastPlace).toNat=x%f.signWeight/f.binade-1 by omega,an8]
  .rw[AT h2] at hn hc;by_cases h3:x%f.signWeight=f.infRung
   .rw[By h3] at hc;simp only[Cu] at hc;split at hc<;>omega
   .rw[AT h3] at hn;simp[LR] at hn
def acd {f:Format}{x y:Nat}(hB:0<f.binade)(hx:x<2*f.signWeight)(hy:y<2*f.signWeight)(nx:LR (f.read x)=false)(ny:LR (f.read y)=false)(cx:Cu (f.read x)=0)(cy:Cu (f.read y)=0)
  (e:E6 f.leastPlace (f.read x)=E6 f.leastPlace (f.read y)):x=y\/E6 f.leastPlace (f.read x)=0:=by
 rw[Gv nx cx,Gv ny cy] at e;rw[Gv nx cx];by_cases z:DK f.binade (x%f.signWeight)=0
 .right;rw[z];split<;>rfl
 .left;have hs:(x/f.signWeight%2=1↔y/f.signWeight%2=1)/\DK f.binade (x%f.signWeight)=DK f.binade (y%f.signWeight):=by
   split at e<;>split at e<;>constructor<;>omega
  obtain⟨hs1,hs2⟩:=hs;have hr:=QL hB hs2;have d1:=apg x f.signWeight;have d2:=apg y f.signWeight;have q1:x/f.signWeight<2:=ap1 (by rw[aph];exact hx);have q2:y/f.signWeight<2:=ap1 (by rw[aph];exact hy);have two:∀p q:Nat,p<2->q<2->(p%2=1↔q%2=1)->p=q:=λp q _ _ _=>by omega
  have:=two _ _ q1 q2 hs1;rw[<-d1,<-d2,this,hr]
end Go.Sh
namespace Go.Sh
open Go Go.Ago Go.Proofs Ieee
def ace (f:Format)(x:Nat):f.read (x%(2*f.signWeight))=f.read x:=by
 have h1:x%(2*f.signWeight)/f.signWeight%2=x/f.signWeight%2:=by
  rw[aph,Nat.mod_mul_right_div_self,Nat.mod_mod]
 have h2:x%(2*f.signWeight)%f.signWeight=x%f.signWeight:=Nat.mod_mod_of_dvd x (Nat.dvd_mul_left _ _);unfold Format.read;rw[h1,h2]
abbrev qV:Nat:=18446744073709551616
def Ok (x:Nat):FloatKind.f64.format.read (x%qV)=FloatKind.f64.format.read x:=by
 have h:qV=2*FloatKind.f64.format.signWeight:=by decide +kernel
 rw[h];exact ace _ x
def afR (x y:Nat):AH (x%qV) y=AH x y:=by
 unfold AH Format.order;rw[Ok]
def acf (x y:Nat):AH y (x%qV)=AH y x:=by
 unfold AH Format.order;rw[Ok]
def aly (x:Nat):BitVec.ofInt 64 ((x%qV:Nat):Int)=BitVec.ofInt 64 (x:Int):=by
 apply BitVec.eq_of_toNat_eq;rw[amg,amg];simp only[qV];omega
def afS (x:Nat):IntKind.i64.wrap ((x%qV:Nat):Int)=IntKind.i64.wrap (x:Int):=by
 rw[IntKind.wrap_i64,IntKind.wrap_i64];simp only[qV];omega
theorem pbind {α β:Type}{a:α}{f:α->M β}:sh (AI a) f=f a:=rfl
def VA (n x:Nat):rh n (x%qV)=rh n x:=by
 unfold rh bW;simp only[pbind,aly]
def acg (n x:Nat):lG n (x%qV)=lG n x:=by
 unfold lG bW;simp only[pbind,afS]
def Yd (n x:Nat):n7 n (x%qV)=n7 n x:=by
 unfold n7;rw[VA]
def afT (n x:Nat)(s:Int)(hs:s=0):nZ n (x%qV) s=nZ n x s:=by
 subst hs;unfold nZ;rw[By (by simp),By (by simp),VA]
def ach (n x:Nat):gq n (x%qV)=gq n x:=by
 unfold gq;rw[acg];have e:∀s,cK n (x%qV) s=cK n x s:=λs=>by
  unfold cK;simp only[afT n x 0 rfl,Yd,afR,acf]
 simp only[e]
end Go.Sh
namespace Go.Sh
open Go Go.Ago Go.Proofs Ieee
def ahU (x:Nat):(BitVec.ofInt 64 (x:Int)&&&~~~BitVec.ofInt 64 9223372036854775808).toNat=x%9223372036854775808:=by
 have hc:(~~~BitVec.ofInt 64 9223372036854775808).toNat=2^63-1:=by decide +kernel
 rw[apF,hc,apc,amg];omega
def afU {x:Nat}(h:x<18446744073709551616):IntKind.u64.wrap (x:Int)=x:=by rw[IntKind.wrap_u64];omega
def abs_eq (n x:Nat):rh n x=AI (x%9223372036854775808):=by
 unfold rh bW bC;simp only[pbind,ahU];rw[afU (by omega),aba]
def sign_eq (n x:Nat):lG n x=AI (decide (IntKind.i64.wrap (x:Int)<0)):=by
 unfold lG bW;simp only[pbind]
def aoQ {A:Nat}(h:A<9223372036854775808):A|||9223372036854775808=A+9223372036854775808:=by
 rw[show (9223372036854775808:Nat)=1 <<< 63 from rfl,Nat.or_comm,<-apj h,ao9]
def cpN (x:Nat):Nat:=x%9223372036854775808+9223372036854775808
def copy_eq (n x:Nat):jZ n x 13830554455654793216=AI (cpN x):=by
 unfold jZ bW bC;simp only[pbind,ahU];have h2:(BitVec.ofInt 64 ((13830554455654793216:Nat):Int)&&&BitVec.ofInt 64 9223372036854775808).toNat=9223372036854775808:=by decide +kernel
 rw[h2,afU (x:=x%9223372036854775808) (by omega),afU (x:=9223372036854775808) (by omega),BitVec.toNat_or,amg,amg];rw[show (((x%9223372036854775808:Nat):Int)%((2^64:Nat):Int)).toNat=x%9223372036854775808 by omega,show (((9223372036854775808:Nat):Int)%((2^64:Nat):Int)).toNat=9223372036854775808 by decide,aoQ (by omega),afU (by omega),aba];rfl
end Go.Sh
namespace Go.Sh
open Go Go.Ago Go.Proofs Ieee
def alz:FloatKind.f64.format.signWeight=9223372036854775808:=by decide +kernel
def afV:FloatKind.f64.format.binade=4503599627370496:=by decide +kernel
def aoR:FloatKind.f64.format.infRung=9218868437227405312:=by decide +kernel
def I8 (x:Nat):FloatKind.f64.format.read x=if x%9223372036854775808<4503599627370496 then .number (x/9223372036854775808%2==1) (x%9223372036854775808) FloatKind.f64.format.leastPlace
  else if x%9223372036854775808<9218868437227405312 then .number (x/9223372036854775808%2==1) (4503599627370496+x%9223372036854775808%4503599627370496) (FloatKind.f64.format.leastPlace+(x%9223372036854775808/4503599627370496-1:Nat))
  else if x%9223372036854775808=9218868437227405312 then .infinity (x/9223372036854775808%2==1) else .nan (x/9223372036854775808%2==1) (x%9223372036854775808-9218868437227405312):=by
 rw[<-alz,<-afV,<-aoR];rfl
def alA (x:Nat):LR (FloatKind.f64.format.read x)=decide (9218868437227405312<x%9223372036854775808):=by
 rw[I8];split
 .simp[LR];omega
 split
 .simp[LR];omega
 split
 .simp[LR];omega
 .simp[LR];omega
def acj {x:Nat}:fN x↔x%9223372036854775808<=9218868437227405312:=by
 unfold fN;rw[alA];simp
def KZ (x:Nat):AH x x=decide (x%9223372036854775808<=9218868437227405312):=by
 have h:=@KI x;rw[acj] at h;by_cases c:x%9223372036854775808<=9218868437227405312
 .rw[h.2 c];simp[c]
 .cases e:AH x x with
  |true=>exact absurd (h.1 e) c
  |false=>simp[c]
def QM (x:Nat):AH x 0=decide (x%9223372036854775808=0):=by
 unfold AH Format.order;have e0:FloatKind.f64.format.read 0=.number false 0 FloatKind.f64.format.leastPlace:=by rw[I8];rfl
 rw[e0,I8];have cz:∀(s:Bool) (m k l:Nat),(compare (signed s m k) (signed false 0 l)==Ordering.eq)=decide (m=0):=λs m k l=>by
  have hz:signed false 0 l=0:=by simp[signed]
  rw[hz];have hp:0<2^k:=Nat.pow_pos (by omega);have hm:m <<< k=m*2^k:=an8 m k;by_cases c:m=0
  .subst c;cases s<;>simp[signed,compare,compareOfLessAndEq]
  .have:0<m*2^k:=Nat.mul_pos (by omega) hp;unfold signed;rw[hm];simp only[compare,compareOfLessAndEq,c,decide_false];cases s
   .simp only[aft,afM];rw[AT (by omega),AT (by omega)];rfl
   .simp only[amt];rw[By (by omega)];rfl
 by_cases h1:x%9223372036854775808<4503599627370496
 .rw[By h1];simp only[Datum.order,ap2,cz]
 .rw[AT h1];have n0:¬x%9223372036854775808=0:=by omega
  by_cases h2:x%9223372036854775808<9218868437227405312
  .rw[By h2];simp only[Datum.order,ap2,cz];simp only[n0,decide_false,decide_eq_false_iff_not];omega
  .rw[AT h2];by_cases h3:x%9223372036854775808=9218868437227405312
   .rw[By h3];simp only[Datum.order,n0,decide_false];cases (x/9223372036854775808%2==1)<;>rfl
   .rw[AT h3];simp only[Datum.order,n0,decide_false];rfl
def ack (x:Nat):cpN x%9223372036854775808=x%9223372036854775808:=by unfold cpN;omega
def Tt (n x:Nat):nZ n x 0=AI (Q9 (x%9223372036854775808) 9218868437227405311):=by
 unfold nZ;rw[By (by simp),abs_eq,pbind]
def acm (n x:Nat)(s:ζ):cK n (cpN x) s=cK n x s:=by
 unfold cK n7;simp only[Tt,KZ,QM,abs_eq,ack]
def Tu {x y:ζ}(h:x.size+y.size<=da):PP (λz:ζ=>z=x++y) λ_=>kc x y:=⟨x++y,rfl,λ_ h'=>by
 show kc x y h'=_;unfold kc;rw[By h]⟩
def PP.is {α:Type}{P:α->Prop}{m:Nat->M α}(h:PP P m):∃x,P x/\PP (λy=>y=x) m:=let ⟨x,p,e⟩:=h;⟨x,p,x,rfl,e⟩
def acn {x:Nat}(hx:AH x x=true):∃r:ζ,∀s:ζ,s.size<=1->PP (λy=>y=s++r) λn=>cK n x s:=by
 have h3:(ofBytes [105,110,102]).size=3:=rfl;have h4:(ofBytes [48,112,48]).size=3:=rfl;have h5:(ofBytes [112]).size=1:=rfl;obtain⟨b,_,hb⟩:=(Kt x 0).is;by_cases c:b=true
 .refine⟨ofBytes [105,110,102],λs hs=>PP.ite (λq=>by rw[hx] at q;simp at q) λ_=>hb.bind λb' e=>PP.ite (λ_=>(Tu (by unfold da;omega)).bind λz hz=>PP.pure hz) λq=>absurd (e.trans c) q⟩
 by_cases z:AH x 0=true
 .refine⟨ofBytes [48,112,48],λs hs=>PP.ite (λq=>by rw[hx] at q;simp at q) λ_=>hb.bind λb' e=>PP.ite (λq=>absurd (e▸q) c) λ_=>PP.ite (λ_=>(Tu (by unfold da;omega)).bind λz hz=>PP.pure hz) λq=>absurd z q⟩
 obtain⟨x1,hx1,p1⟩:=(Qh x).is;obtain⟨x2,hx2,p2⟩:=(ahx hx1.1.1 hx1.1.2).is;obtain⟨x5,hx5,p5⟩:=(abd hx1.2.1 hx1.2.2).is;refine⟨x2++ofBytes [112]++x5,λs hs=>PP.ite (λq=>by rw[hx] at q;simp at q) λ_=>hb.bind λb' e=>PP.ite (λq=>absurd (e▸q) c) λ_=>PP.ite (λq=>absurd q z) λ_=>?_⟩;refine p1.bind λy1 e1=>?_;subst e1;refine p2.bind λy2 e2=>?_;subst e2;refine (Tu (by unfold da;omega)).bind λy3 e3=>?_;subst e3;refine (Tu (by rw[anN];unfold da;omega)).bind λy4 e4=>?_;subst e4;refine p5.bind λy5 e5=>?_;subst e5;refine (Tu (by rw[anN,anN];unfold da;omega)).bind λy6 e6=>PP.pure ?_;rw[e6,aoF,aoF,aoF]
end Go.Sh
namespace Go.Sh
open Go Go.Ago Go.Proofs Ieee
variable {h h':ai}{α β:Type}
def PP.wp {P:α->Prop}{m:Nat->M α}{n:Nat}{Q:α->ai->Prop}(hm:PP P m)(q:∀x,P x->Q x h):Wp (m n) h Q:=
 let ⟨x,p,e⟩:=hm;⟨x,h,e n h,q x p⟩
def QN (b:Nat)(s:ζ):Prop:=PP (λy=>y=s) λn=>gq n b
def FP (s:ζ)(b:Nat):Prop:=s=DI\/(fN b/\QN b s)
def PP.uniq {m:Nat->M α}{x y:α}(hx:PP (λz=>z=x) m)(hy:PP (λz=>z=y) m):x=y:=by
 obtain⟨a,rfl,e1⟩:=hx;obtain⟨b,rfl,e2⟩:=hy;have h0:ai:=⟨λ_=>none,λ_=>none,0,λ_=>0,λ_=>false,λ_=>Classical.propDecidable _⟩;have:=(e1 0 h0).symm.trans (e2 0 h0);simp at this;exact this
def alB {x:Nat}(h:fN x):AH x x=true:=KI.2 h
def afW {x:Nat}(hx:fN x):∃r:ζ,QN x ((if IntKind.i64.wrap (x:Int)<0 then ofBytes [45] else ofBytes [])++r)/\PP (λy=>y=ofBytes [45]++r) λn=>gq n (cpN x):=by
 obtain⟨r,hr⟩:=acn (alB hx);refine⟨r,?_,?_⟩
 .unfold QN gq;simp only[sign_eq,pbind,aca];split
  .exact hr _ (by decide)
  .exact hr _ (by decide)
 .unfold gq;have sg:IntKind.i64.wrap (cpN x:Int)<0:=by
   unfold cpN;rw[IntKind.wrap_i64];omega
  simp only[sign_eq,pbind,aca,sg,amt,acm];exact hr _ (by decide)
def aco {x:Nat}(hx:¬fN x):∃s:ζ,s=DI/\QN x s:=by
 refine⟨_,rfl,?_⟩;have e:AH x x=false:=by
  cases c:AH x x with
  |true=>exact absurd (KI.1 c) hx
  |false=>rfl
 unfold QN gq;have j:∀s,PP (λy=>y=DI) λn=>cK n x s:=λs=>by
  unfold cK;rw[e];exact PP.ite (λ_=>PP.pure rfl) λq=>absurd rfl q
 simp only[sign_eq,pbind];exact PP.ite (λ_=>j _) λ_=>j _
def Ol (r:ζ):ofBytes []++r=r:=by
 refine aoJ (Array.toList_inj.1 ?_);simp[ao2,ofBytes]
def QP {x:Nat}{t:ζ}(ht:QN x t)(hd:∀c,t.data.toList.head?=some c->c≠45)(hn:t≠DI)(h0:t.data.toList≠[]):fN x/\fN (cpN x)/\QN (cpN x) (ofBytes [45]++t):=by
 have hx:fN x:=adj λq=>by
  obtain⟨s,e,hs⟩:=aco q;exact hn ((PP.uniq ht hs).trans e)
 obtain⟨r,h1,h2⟩:=afW hx;have e:=PP.uniq ht h1;have hc:fN (cpN x):=by
  rw[acj] at hx⊢;rw[ack];exact hx
 split at e
 .exfalso;refine hd 45 ?_ rfl;rw[e,ao2,aol];rfl
 .rw[Ol] at e;subst e;exact⟨hx,hc,h2⟩
end Go.Sh
namespace Go.Sh
open Go Go.Ago Go.Proofs Ieee
variable {h h':ai}{α β:Type}
def afX (n:Nat):vF n 1=AI 9218868437227405312:=by
 unfold vF bC;rw[By (by decide),pbind];rfl
def alC:QN 9218868437227405312 (ofBytes [105,110,102]):=by
 unfold QN gq cK;have s:¬IntKind.i64.wrap ((9218868437227405312:Nat):Int)<0:=by rw[IntKind.wrap_i64];omega
 have g:Q9 9218868437227405312 9218868437227405311=true:=by decide +kernel
 simp only[sign_eq,pbind,Tt,KZ];refine PP.ite (λq=>absurd (anl q) s) λ_=>PP.ite (λq=>by simp at q) λ_=>PP.ite (λ_=>(Tu (by decide)).bind λz hz=>PP.pure (hz.trans (Ol _))) λq=>absurd g q
def Om:QN 0 (ofBytes [48,112,48]):=by
 unfold QN gq cK;have s:¬IntKind.i64.wrap ((0:Nat):Int)<0:=by rw[IntKind.wrap_i64];omega
 have g:Q9 (0%9223372036854775808) 9218868437227405311=false:=by decide +kernel
 simp only[sign_eq,pbind,Tt,KZ,QM];refine PP.ite (λq=>absurd (anl q) s) λ_=>PP.ite (λq=>by simp at q) λ_=>PP.ite (λq=>by rw[g] at q;cases q) λ_=>PP.ite (λ_=>(Tu (by decide)).bind λz hz=>PP.pure (hz.trans (Ol _))) λq=>absurd rfl q
def DN (s:ζ):ζ:=⟨(Lib.trimPrefix s.data.toList [45]).toArray⟩
def afY (s:ζ):s=if Lib.hasPrefix s.data.toList [45]=true then ofBytes [45]++DN s else DN s:=by
 refine aoJ (Array.toList_inj.1 ?_);unfold DN Lib.trimPrefix;split
 .rename_i hp;rw[ao2,aol];show s.data.toList=[45]++s.data.toList.drop 1;unfold Lib.hasPrefix at hp;generalize s.data.toList=l at hp;cases l with
  |nil=>simp at hp
  |cons a l=>simp at hp;simp[hp]
 .rfl
def acp {s:ζ}{x:Nat}(ht:QN x (DN s))(hd:∀c,(DN s).data.toList.head?=some c->c≠45)(hn:DN s≠DI)(h0:(DN s).data.toList≠[]) :
  (Lib.hasPrefix s.data.toList [45]=true->FP s (cpN x))/\(Lib.hasPrefix s.data.toList [45]=false->FP s x):=by
 obtain⟨f1,f2,f3⟩:=QP ht hd hn h0;have e:=afY s;refine⟨λhp=>.inr ⟨f2,?_⟩,λhp=>.inr ⟨f1,?_⟩⟩
 .rw[By hp] at e;rw[e];exact f3
 .rw[AT (by rw[hp];decide)] at e;rw[e];exact ht
def acq {l:List UInt8}{v}(h:Lib.parseUintB 64 l=.ok v):∃c r,l=c::r/\48<=c.toNat/\c.toNat<=57:=by
 unfold Lib.parseUintB at h;split at h
 .cases h
 cases l with
 |nil=>rename_i q;exact absurd rfl q
 |cons c r=>
  unfold Lib.parseUintM at h;split at h
  .rename_i q;exact⟨c,r,rfl,q⟩
  .cases h
theorem adJ {s:ζ}(hs:s.size<=65536):PP (λr:ζ×ζ×Bool=>(r.1.size<=65536/\r.2.1.size<=65536)/\∀c,r.1.data.toList.head?=some c->s.data.toList.head?=some c) λn=>strings_Cut n s (ofBytes [112]):=by
 refine PP.bind (P:=λr:ζ×ζ×Bool=>(r.1.size<=65536/\r.2.1.size<=65536)/\∀c,r.1.data.toList.head?=some c->s.data.toList.head?=some c) ?_ λx hx=>PP.pure hx;unfold pK;refine PP.bind (P:=λx:Int=>x=Lib.indexByte s.data.toList 112) ⟨_,rfl,λ_ _=>rfl⟩ λx hx=>?_;subst hx;refine PP.ite (λhc=>?_) λ_=>PP.pure ⟨⟨hs,by show 0<=65536;omega⟩,λc h=>h⟩;rcases ixb s.data.toList 112 with hneg|⟨i,hi,hg⟩
 .simp only[aca] at hc;omega
 .have hlt:i<s.size:=(List.getElem?_eq_some_iff.1 hg).1;rw[hi];have h1:=EX s 0 i;have h2:=EX s (i+1) s.size;refine PP.bind (P:=λx:ζ=>x.size<=65536/\∀c,x.data.toList.head?=some c->s.data.toList.head?=some c) ⟨s.extract 0 i,⟨by omega,λc hc=>?_⟩,λ_ h=>by show im s 0 (i:Int) h=_;unfold im;rw[By (by omega)];simp[D9]⟩ λx hx=>?_
  .have e:(s.extract 0 i).data.toList=s.data.toList.take i:=by simp[aoD]
   rw[e] at hc;cases hl:s.data.toList with
   |nil=>rw[hl] at hc;simp at hc
   |cons a l=>
    rw[hl] at hc;cases i with
    |zero=>simp at hc
    |succ i=>simpa using hc
  have ew:IntKind.i64.wrap ((i:Int)+((ofBytes [112]).size:Int))=((i+1:Nat):Int):=by
   have:(ofBytes [112]).size=1:=rfl;rw[xQ (by omega) (by omega)];omega
  rw[ew];refine PP.bind (P:=λx:ζ=>x.size<=65536) ⟨s.extract (i+1) s.size,by omega,λ_ h=>by show im s ((i+1:Nat):Int) (s.size:Int) h=_;unfold im;rw[By (by omega)];simp[D9]⟩ λy hy=>PP.pure ⟨⟨hx.1,hy⟩,hx.2⟩
def acr {s:ζ}(hs:s.size<=65536)(hw:WF h)(n:Nat):Wp (jV n s) h λx _=>x.2=true->FP s x.1:=by
 have hc:(DN s).size<=65536:=by
  have:=IY s.data.toList [45];have h2:s.data.toList.length=s.size:=rfl;show (Lib.trimPrefix s.data.toList [45]).toArray.size<=65536;rw[aou];omega
 unfold jV strings_CutPrefix;rw[pbind];show Wp (if qk s (ofBytes [110,97,110])=true then _ else if qk (DN s) (ofBytes [105,110,102])=true then sh (vF n 1) λx1=>if Lib.hasPrefix s.data.toList [45]=true then _ else _ else if qk (DN s) (ofBytes [48,112,48])=true then (if Lib.hasPrefix s.data.toList [45]=true then _ else _) else _) h _;by_cases e1:qk s (ofBytes [110,97,110])=true
 .rw[By e1,ah];exact abc.wp λx _=>ag.2 λ_=>.inl (kS e1)
 rw[AT e1];by_cases e2:qk (DN s) (ofBytes [105,110,102])=true
 .have e:=kS e2;obtain⟨q1,q2⟩:=acp (s:=s) (x:=9218868437227405312) (by rw[e];exact alC) (by rw[e];intro c hc;cases hc;decide) (by rw[e];decide) (by rw[e];decide);rw[By e2,afX,pbind];cases hp:Lib.hasPrefix s.data.toList [45]
  .rw[AT (by decide)];exact ag.2 λ_=>q2 hp
  .rw[By rfl,copy_eq,pbind];exact ag.2 λ_=>q1 hp
 rw[AT e2];by_cases e3:qk (DN s) (ofBytes [48,112,48])=true
 .have e:=kS e3;obtain⟨q1,q2⟩:=acp (s:=s) (x:=0) (by rw[e];exact Om) (by rw[e];intro c hc;cases hc;decide) (by rw[e];decide) (by rw[e];decide);rw[By e3];cases hp:Lib.hasPrefix s.data.toList [45]
  .rw[AT (by decide)];exact ag.2 λ_=>q2 hp
  .rw[By rfl,copy_eq,pbind];exact ag.2 λ_=>q1 hp
 rw[AT e3];show Wp (sh (strings_Cut n (DN s) (ofBytes [112])) _) h _;rw[ah];refine (adJ hc).wp λr hr=>?_;obtain⟨⟨hr1,hr2⟩,hh⟩:=hr;rw[ah];refine (UP hr1 hw).mono λx2 h1 hx2=>?_;rw[ah];refine (NQ hr2 hx2.2.wf).mono λx3 h2 hx3=>?_;by_cases fd:(!r.2.2)=true
 .rw[By fd];exact ag.2 λq=>by cases q
 rw[AT fd];have bad:∀{k:Bool->M (Nat×Bool)} {v:ξ} {h:ai} {Q:Nat×Bool->ai->Prop},(∃t u,v=.iface t u)->Q (0,false) h->Wp (sh (kR v) λx4=>if (!x4)=true then AI (0,false) else k x4) h Q:=λhv q=>
  Cs hv (by rw[By (by decide)];exact ag.2 q)
 cases e4:Lib.parseUintB 64 r.1.data.toList with
 |ok v=>
  have hx2:=hx2.1;rw[e4] at hx2;simp only at hx2;subst hx2;refine zB rfl ?_;rw[AT (by decide)];cases e5:Lib.atoiAll r.2.1.data.toList with
  |ok e=>
   have hx3:=hx3.1;rw[e5] at hx3;simp only at hx3;subst hx3;refine zB rfl ?_;rw[AT (by decide),ah];have hle:=Lib.parseUintB_le e4;refine (UO (by omega) (by omega)).wp λb _=>?_;by_cases hb:(!b)=true
   .rw[By hb];exact ag.2 λq=>by cases q
   rw[AT hb];show Wp (fS n (DN s) (Lib.hasPrefix s.data.toList [45]) _ _) _ _;unfold fS;rw[ah];refine (Qg _ _).wp λx0 _=>?_;rw[ah];obtain⟨y,_,hy⟩:=(Qj x0).is;refine hy.wp λy' ey=>?_;subst ey;by_cases eq:(!qk y' (DN s))=true
   .rw[By eq];exact ag.2 λq=>by cases q
   rw[AT eq];have et:y'=DN s:=kS (by simpa using eq);rw[et] at hy;obtain⟨c,l,el,c1,c2⟩:=acq e4;have hhd:=hh c (by rw[el];rfl);obtain⟨q1,q2⟩:=acp (s:=s) (x:=x0) hy (λd hd=>by
    rw[hhd] at hd;cases hd;intro q;subst q;exact absurd c1 (by decide)) (λq=>by
    rw[q] at hhd;have:c=110:=(by cases hhd;rfl);subst this;exact absurd c2 (by decide)) (λq=>by rw[q] at hhd;cases hhd)
   cases hp:Lib.hasPrefix s.data.toList [45]
   .rw[AT (by decide)];exact ag.2 λ_=>q2 hp
   .rw[By rfl,copy_eq,pbind];exact ag.2 λ_=>q1 hp
  |range=>exact bad (by have:=hx3.1;rw[e5] at this;exact this) λq=>by cases q
  |_=>exact bad (by have:=hx3.1;rw[e5] at this;exact this) λq=>by cases q
 |range=>exact bad (by have:=hx2.1;rw[e4] at this;exact this) λq=>by cases q
 |_=>exact bad (by have:=hx2.1;rw[e4] at this;exact this) λq=>by cases q
end Go.Sh
namespace Go.Sh
open Go Go.Ago Go.Proofs Ieee
noncomputable def h00:ai:=⟨λ_=>none,λ_=>none,0,λ_=>0,λ_=>false,λ_=>Classical.propDecidable _⟩
def On:WF h00:=⟨λ_ _=>rfl,λ_ _=>rfl,λ_ _ _ _ _ h=>(by cases h),λ_ _=>rfl⟩
def Tv {s:ζ}(h:(oV s).2=true):FP s (oV s).1:=by
 by_cases hs:s.size<=65536
 .obtain⟨x,h1,e1,q1,_⟩:=Ge (n:=0) hs On;obtain⟨y,h2,e2,q2⟩:=acr hs On 0;rw[e1] at e2;cases e2;rw[q1] at q2;exact q2 h
 .unfold oV at h;rw[dif_neg hs] at h;cases h
def acs {x:Nat}{s}(h:QN x s):QN (x%qV) s:=by
 unfold QN at h⊢;simp only[ach];exact h
theorem acu (x:Nat):fV x=E6 FloatKind.f64.format.leastPlace (FloatKind.f64.format.read x):=rfl
def Ye {x:Nat}(hx:x<qV)(nx:fN x)(cx:fD x=0)(z:fV x=0):x=0\/x=9223372036854775808:=by
 have v:=Gv (f:=FloatKind.f64.format) nx cx;rw[acu] at z;rw[z] at v;have m0:DK FloatKind.f64.format.binade (x%FloatKind.f64.format.signWeight)=0:=by split at v<;>omega
 have m1:DK FloatKind.f64.format.binade 0=0:=by
  unfold DK;rw[By (by rw[afV];omega)]
 have r:=QL (B:=FloatKind.f64.format.binade) (by rw[afV];omega) (m0.trans m1.symm);rw[alz] at r;simp only[qV] at hx;omega
def ann:QN 9223372036854775808 nzS:=(QP Om (by intro c hc;cases hc;decide) (by decide) (by decide)).2.2
def MR {x:Nat}{s}(hx:x<qV)(nx:fN x)(cx:fD x=0)(z:fV x=0)(ht:QN x s):s=ofBytes [48,112,48]\/s=nzS:=by
 rcases Ye hx nx cx z with rfl|rfl
 .exact .inl (PP.uniq ht Om)
 .exact .inr (PP.uniq ht ann)
def alD:FlE:=by
 intro s t hs ht ns nt hz;have fx:=hs.2 ns;have fy:=ht.2 nt;obtain⟨_,tx⟩:=(Tv hs.1).resolve_left ns;obtain⟨_,ty⟩:=(Tv ht.1).resolve_left nt;obtain⟨hD,hV⟩:=Tf fx fy hz;generalize (oV s).1=x at *
 generalize (oV t).1=y at *
 have tx:=acs tx;have ty:=acs ty;have rx:=Ok x;have ry:=Ok y;have lx:x%qV<qV:=an5 _ (by decide);have ly:y%qV<qV:=an5 _ (by decide);have fx:fN (x%qV):=by unfold fN at fx⊢;rw[rx];exact fx
 have fy:fN (y%qV):=by unfold fN at fy⊢;rw[ry];exact fy
 have hD:fD (x%qV)=fD (y%qV):=by unfold fD at hD⊢;rw[rx,ry];exact hD
 have hV:fV (x%qV)=fV (y%qV):=by unfold fV at hV⊢;rw[rx,ry];exact hV
 generalize x%qV=x at *
 generalize y%qV=y at *
 by_cases c:fD x=0
 .have sw:qV=2*FloatKind.f64.format.signWeight:=by rw[alz]
  rcases acd (f:=FloatKind.f64.format) (by rw[afV];omega) (by rw[<-sw];exact lx) (by rw[<-sw];exact ly) fx fy c (show fD y=0 from hD▸c) (by rw[<-acu,<-acu];exact hV) with e|z
  .subst e;exact .inl (PP.uniq tx ty)
  .have zx:fV x=0:=z;have s1:=MR lx fx c zx tx;have s2:=MR ly fy (hD▸c) (hV▸zx) ty;have ne:ofBytes [48,112,48]≠nzS:=by decide
   rcases s1 with rfl|rfl<;>rcases s2 with rfl|rfl
   .exact .inl rfl
   .exact .inr ⟨λq=>absurd q ne,λq=>absurd rfl q⟩
   .exact .inr ⟨λ_=>ne,λ_=>rfl⟩
   .exact .inl rfl
 .have key:∀w,w<qV->fN w->fD w≠0->w%9223372036854775808=9218868437227405312/\fD w=if w/9223372036854775808%2==1 then -1 else 1:=λw lw nw cw=>by
   unfold fD at cw⊢;unfold fN at nw;rw[I8] at cw nw⊢;split at cw
   .exact absurd rfl cw
   .rename_i h1;split at cw
    .exact absurd rfl cw
    .rename_i h2;split at cw
     .rename_i h3;rw[AT h1,AT h2,By h3];exact⟨h3,rfl⟩
     .exact absurd rfl cw
  obtain⟨a1,a2⟩:=key x lx fx c;obtain⟨b1,b2⟩:=key y ly fy (hD▸c);rw[a2,b2] at hD;simp only[qV] at lx ly;have:x=y:=by
   have q1:x/9223372036854775808%2=x/9223372036854775808:=by omega
   have q2:y/9223372036854775808%2=y/9223372036854775808:=by omega
   rw[q1,q2] at hD;have e1:(x/9223372036854775808==1)=(y/9223372036854775808==1):=by
    cases h1:(x/9223372036854775808==1)<;>cases h2:(y/9223372036854775808==1)<;>simp_all
   have e2:x/9223372036854775808=1↔y/9223372036854775808=1:=by
    rw[<-beq_iff_eq,e1,beq_iff_eq]
   omega
  subst this;exact .inl (PP.uniq tx ty)
end Go.Sh
namespace Go.Sh
open Go Go.Ago Go.Proofs Ieee
variable {N:List aq}{root:Int}
def acv {s:ζ}(h:abe s=true):FlO s:=by
 have hs:s.size<=65536:=adj λq=>by
  unfold abe at h;rw[dif_neg q] at h;cases h
 have e:(oV s).2=true:=by
  obtain⟨x,h1,e1,q1,_⟩:=AR (n:=0) hs On;have w:Wp (od 0 s) h00 λx _=>x=(oV s).2:=by
   unfold od;rw[ah];exact (Ge hs On).mono λy h2 hy=>ag.2 (by rw[hy.1])
  obtain⟨y,h2,e2,q2⟩:=w;rw[e1] at e2;cases e2;rw[<-q2,q1];exact h
 exact⟨e,λhn=>((Tv e).resolve_left hn).1⟩
def ano {x:aq}(h:rA x=some true):SK x.kind x.text:=by
 have sc:x.kind<9->Gg x.kind x.text=some true:=λhk=>by
  unfold rA at h;rw[AT (by omega),AT (by omega),AT (by omega)] at h;split at h
  .exact h
  .cases h
 refine⟨λk=>?_,λk=>?_,λk=>?_⟩
 .have h:=sc (by omega);unfold Gg at h;simp[k] at h;exact h
 .have h:=sc (by omega);unfold Gg at h;simp[k] at h;exact h
 .have h:=sc (by omega);unfold Gg at h;simp[k] at h;exact acv h
def alE (h:∀x∈N,rA x=some true):SKs N:=λx hx=>ano (h x hx)
def anp (d:Vd N root)(sm:∀x∈N,x.kind=10->x.items.length<50)(tw:∀x∈N,x.keys.Pairwise λy x=>∀f,¬zI N f x y):∃H:Int->Nat,KOr N H/\∀u,H u<=N.length:=by
 obtain⟨H,h1,h2⟩:=d.Hx;refine⟨H,⟨alD,alE d.fm,d.ix,λx hx k=>d.map hx k,λx hx k=>d.keys hx k,λu v ku e=>?_,tw,sm⟩,h1⟩;have kv:KN N v:=.step ku e;exact⟨kv,h2 u v kv e⟩
end Go.Sh
