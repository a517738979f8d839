
import Derived.Test.YtdbjhobkhjneeaaGreatDoorPak
set_option linter.all false
namespace Go.Sh
open Ieee Go Go.Ago
def Ci (B r:Nat):Nat:=if r<B then r else (B+r%B)*2^(r/B-1)
def aev {B:Nat}(hB:0<B)(r:Nat):Ci B r<Ci B (r+1):=by
 unfold Ci;by_cases h:r+1<B
 .rw[By (by omega),By h];omega
 .rw[AT h];by_cases h0:r<B
  .have e:r+1=B:=by omega
   rw[By h0,e,Nat.mod_self,Nat.div_self hB];simp;omega
  .rw[AT h0];have hq:0<r/B:=Nat.div_pos (by omega) hB;have hm:=amR r hB;have dm:=anD r B;by_cases c:r%B+1<B
   .have e1:(r+1)/B=r/B:=by
     rw[Nat.div_eq_iff (by omega)];constructor
     .have:=anE B (r/B);omega
     .have:=anE B (r/B);omega
    have e2:(r+1)%B=r%B+1:=by
     have:=anD (r+1) B;rw[e1] at this;omega
    rw[e1,e2];exact anL (by omega) (Nat.pow_pos (by omega))
   .have e0:r+1=B*(r/B+1):=(by rw[Nat.mul_add];omega);have e1:(r+1)/B=r/B+1:=(by rw[e0,Nat.mul_div_cancel_left _ hB]);have e2:(r+1)%B=0:=(by rw[e0,Nat.mul_mod_right]);rw[e1,e2,show r/B+1-1=(r/B-1)+1 by omega,Nat.pow_succ,alD,<-Nat.mul_assoc,Nat.mul_right_comm];exact anL (by omega) (Nat.pow_pos (by omega))
def FJ {B:Nat}(hB:0<B):∀{r s:Nat},r<s->Ci B r<Ci B s
 |r,0,h=>by omega
 |r,s+1,h=>by
  have:=aev hB s;by_cases e:r=s
  .rw[e];exact this
  .have:=FJ hB (r:=r) (s:=s) (by omega);omega
def Pt {B:Nat}(hB:0<B){r s:Nat}(e:Ci B r=Ci B s):r=s:=by
 rcases ang r s with h|h|h
 .have:=FJ hB h;omega
 .exact h
 .have:=FJ hB h;omega
def ED {f:Format}{x:Nat}(hn:JP (f.read x)=false)(hc:Bs (f.read x)=0):DG f.leastPlace (f.read x)=if x/f.signWeight%2=1 then -((Ci f.binade (x%f.signWeight):Nat):Int) else ((Ci f.binade (x%f.signWeight):Nat):Int):=by
 unfold Format.read at hn hc⊢;simp only at hn hc⊢;unfold Ci;by_cases h1:x%f.signWeight<f.binade
 .rw[By h1,By h1];simp only[DG,signed,Int.sub_self,Int.toNat_zero,Nat.shiftLeft_zero,beq_iff_eq]
 .rw[AT h1] at hn hc⊢;rw[AT h1];by_cases h2:x%f.signWeight<f.infRung
  .rw[By h2];simp only[DG,signed,beq_iff_eq];rw[show (f.leastPlace+((x%f.signWeight/f.binade-1:Nat):Int)-f.leastPlace).toNat=x%f.signWeight/f.binade-1 by omega,amW]
  .rw[AT h2] at hn hc;by_cases h3:x%f.signWeight=f.infRung
   .rw[By h3] at hc;simp only[Bs] at hc;split at hc<;>omega
   .rw[AT h3] at hn;simp[JP] at hn
def aaX {f:Format}{x y:Nat}(hB:0<f.binade)(hx:x<2*f.signWeight)(hy:y<2*f.signWeight)(nx:JP (f.read x)=false)(ny:JP (f.read y)=false)(cx:Bs (f.read x)=0)(cy:Bs (f.read y)=0)
  (e:DG f.leastPlace (f.read x)=DG f.leastPlace (f.read y)):x=y\/DG f.leastPlace (f.read x)=0:=by
 rw[ED nx cx,ED ny cy] at e;rw[ED nx cx];by_cases z:Ci f.binade (x%f.signWeight)=0
 .right;rw[z];split<;>rfl
 .left;have hs:(x/f.signWeight%2=1↔y/f.signWeight%2=1)/\Ci f.binade (x%f.signWeight)=Ci f.binade (y%f.signWeight):=by
   split at e<;>split at e<;>constructor<;>omega
  obtain⟨hs1,hs2⟩:=hs;have hr:=Pt hB hs2;have d1:=anD x f.signWeight;have d2:=anD y f.signWeight;have q1:x/f.signWeight<2:=aom (by rw[anE];exact hx);have q2:y/f.signWeight<2:=aom (by rw[anE];exact hy);have two:∀p q:Nat,p<2->q<2->(p%2=1↔q%2=1)->p=q:=λp q _ _ _=>by omega
  have:=two _ _ q1 q2 hs1;rw[<-d1,<-d2,this,hr]
end Go.Sh
namespace Go.Sh
open Go Go.Ago Go.Proofs Ieee
def aaY (f:Format)(x:Nat):f.read (x%(2*f.signWeight))=f.read x:=by
 have h1:x%(2*f.signWeight)/f.signWeight%2=x/f.signWeight%2:=by
  rw[anE,Nat.mod_mul_right_div_self,Nat.mod_mod]
 have h2:x%(2*f.signWeight)%f.signWeight=x%f.signWeight:=Nat.mod_mod_of_dvd x (Nat.dvd_mul_left _ _);unfold Format.read;rw[h1,h2]
abbrev qp:Nat:=18446744073709551616
def MJ (x:Nat):FloatKind.f64.format.read (x%qp)=FloatKind.f64.format.read x:=by
 have h:qp=2*FloatKind.f64.format.signWeight:=by decide +kernel
 rw[h];exact aaY _ x
def aew (x y:Nat):zL (x%qp) y=zL x y:=by
 unfold zL Format.order;rw[MJ]
def aaZ (x y:Nat):zL y (x%qp)=zL y x:=by
 unfold zL Format.order;rw[MJ]
def aj7 (x:Nat):BitVec.ofInt 64 ((x%qp:Nat):Int)=BitVec.ofInt 64 (x:Int):=by
 apply BitVec.eq_of_toNat_eq;rw[akC,akC];simp only[qp];omega
def aex (x:Nat):IntKind.i64.wrap ((x%qp:Nat):Int)=IntKind.i64.wrap (x:Int):=by
 rw[IntKind.wrap_i64,IntKind.wrap_i64];simp only[qp];omega
theorem pbind {α β:Type}{a:α}{f:α->M β}:sh (AI a) f=f a:=rfl
def T0 (n x:Nat):qw n (x%qp)=qw n x:=by
 unfold qw bX;simp only[pbind,aj7]
def aa0 (n x:Nat):lu n (x%qp)=lu n x:=by
 unfold lu bX;simp only[pbind,aex]
def WW (n x:Nat):nE n (x%qp)=nE n x:=by
 unfold nE;rw[T0]
def aey (n x:Nat)(s:Int)(hs:s=0):nD n (x%qp) s=nD n x s:=by
 subst hs;unfold nD;rw[By (by simp),By (by simp),T0]
def aa1 (n x:Nat):gG n (x%qp)=gG n x:=by
 unfold gG;rw[aa0];have e:∀s,cQ n (x%qp) s=cQ n x s:=λs=>by
  unfold cQ;simp only[aey n x 0 rfl,WW,aew,aaZ]
 simp only[e]
end Go.Sh
namespace Go.Sh
open Go Go.Ago Go.Proofs Ieee
def ago (x:Nat):(BitVec.ofInt 64 (x:Int)&&&~~~BitVec.ofInt 64 9223372036854775808).toNat=x%9223372036854775808:=by
 have hc:(~~~BitVec.ofInt 64 9223372036854775808).toNat=2^63-1:=by decide +kernel
 rw[anV,hc,anA,akC];omega
def aez {x:Nat}(h:x<18446744073709551616):IntKind.u64.wrap (x:Int)=x:=by rw[IntKind.wrap_u64];omega
def abs_eq (n x:Nat):qw n x=AI (x%9223372036854775808):=by
 unfold qw bX bA;simp only[pbind,ago];rw[aez (by omega),OF]
def sign_eq (n x:Nat):lu n x=AI (decide (IntKind.i64.wrap (x:Int)<0)):=by
 unfold lu bX;simp only[pbind]
def am8 {A:Nat}(h:A<9223372036854775808):A|||9223372036854775808=A+9223372036854775808:=by
 rw[show (9223372036854775808:Nat)=1 <<< 63 from rfl,Nat.or_comm,<-anF h,anU]
def cpN (x:Nat):Nat:=x%9223372036854775808+9223372036854775808
def copy_eq (n x:Nat):jS n x 13830554455654793216=AI (cpN x):=by
 unfold jS bX bA;simp only[pbind,ago];have h2:(BitVec.ofInt 64 ((13830554455654793216:Nat):Int)&&&BitVec.ofInt 64 9223372036854775808).toNat=9223372036854775808:=by decide +kernel
 rw[h2,aez (x:=x%9223372036854775808) (by omega),aez (x:=9223372036854775808) (by omega),BitVec.toNat_or,akC,akC];rw[show (((x%9223372036854775808:Nat):Int)%((2^64:Nat):Int)).toNat=x%9223372036854775808 by omega,show (((9223372036854775808:Nat):Int)%((2^64:Nat):Int)).toNat=9223372036854775808 by decide,am8 (by omega),aez (by omega),OF];rfl
end Go.Sh
namespace Go.Sh
open Go Go.Ago Go.Proofs Ieee
def aj8:FloatKind.f64.format.signWeight=9223372036854775808:=by decide +kernel
def aeA:FloatKind.f64.format.binade=4503599627370496:=by decide +kernel
def am9:FloatKind.f64.format.infRung=9218868437227405312:=by decide +kernel
def Hc (x:Nat):FloatKind.f64.format.read x=if x%9223372036854775808<4503599627370496 then .number (x/9223372036854775808%2==1) (x%9223372036854775808) FloatKind.f64.format.leastPlace
  else if x%9223372036854775808<9218868437227405312 then .number (x/9223372036854775808%2==1) (4503599627370496+x%9223372036854775808%4503599627370496) (FloatKind.f64.format.leastPlace+(x%9223372036854775808/4503599627370496-1:Nat))
  else if x%9223372036854775808=9218868437227405312 then .infinity (x/9223372036854775808%2==1) else .nan (x/9223372036854775808%2==1) (x%9223372036854775808-9218868437227405312):=by
 rw[<-aj8,<-aeA,<-am9];rfl
def aj9 (x:Nat):JP (FloatKind.f64.format.read x)=decide (9218868437227405312<x%9223372036854775808):=by
 rw[Hc];split
 .simp[JP];omega
 split
 .simp[JP];omega
 split
 .simp[JP];omega
 .simp[JP];omega
def aa3 {x:Nat}:fN x↔x%9223372036854775808<=9218868437227405312:=by
 unfold fN;rw[aj9];simp
def I9 (x:Nat):zL x x=decide (x%9223372036854775808<=9218868437227405312):=by
 have h:=@I0 x;rw[aa3] at h;by_cases c:x%9223372036854775808<=9218868437227405312
 .rw[h.2 c];simp[c]
 .cases e:zL x x with
  |true=>exact absurd (h.1 e) c
  |false=>simp[c]
def Pv (x:Nat):zL x 0=decide (x%9223372036854775808=0):=by
 unfold zL Format.order;have e0:FloatKind.f64.format.read 0=.number false 0 FloatKind.f64.format.leastPlace:=by rw[Hc];rfl
 rw[e0,Hc];have cz:∀(s:Bool) (m k l:Nat),(compare (signed s m k) (signed false 0 l)==Ordering.eq)=decide (m=0):=λs m k l=>by
  have hz:signed false 0 l=0:=by simp[signed]
  rw[hz];have hp:0<2^k:=Nat.pow_pos (by omega);have hm:m <<< k=m*2^k:=amW m k;by_cases c:m=0
  .subst c;cases s<;>simp[signed,compare,compareOfLessAndEq]
  .have:0<m*2^k:=Nat.mul_pos (by omega) hp;unfold signed;rw[hm];simp only[compare,compareOfLessAndEq,c,decide_false];cases s
   .simp only[aeb,aed];rw[AT (by omega),AT (by omega)];rfl
   .simp only[aks];rw[By (by omega)];rfl
 by_cases h1:x%9223372036854775808<4503599627370496
 .rw[By h1];simp only[Datum.order,aon,cz]
 .rw[AT h1];have n0:¬x%9223372036854775808=0:=by omega
  by_cases h2:x%9223372036854775808<9218868437227405312
  .rw[By h2];simp only[Datum.order,aon,cz];simp only[n0,decide_false,decide_eq_false_iff_not];omega
  .rw[AT h2];by_cases h3:x%9223372036854775808=9218868437227405312
   .rw[By h3];simp only[Datum.order,n0,decide_false];cases (x/9223372036854775808%2==1)<;>rfl
   .rw[AT h3];simp only[Datum.order,n0,decide_false];rfl
def aa4 (x:Nat):cpN x%9223372036854775808=x%9223372036854775808:=by unfold cpN;omega
def RG (n x:Nat):nD n x 0=AI (P0 (x%9223372036854775808) 9218868437227405311):=by
 unfold nD;rw[By (by simp),abs_eq,pbind]
def aa5 (n x:Nat)(s:ζ):cQ n (cpN x) s=cQ n x s:=by
 unfold cQ nE;simp only[RG,I9,Pv,abs_eq,aa4]
def RH {x y:ζ}(h:x.size+y.size<=cP):PP (λz:ζ=>z=x++y) λ_=>kK x y:=⟨x++y,rfl,λ_ h'=>by
 show kK x y h'=_;unfold kK;rw[By h]⟩
def PP.is {α:Type}{P:α->Prop}{m:Nat->M α}(h:PP P m):∃x,P x/\PP (λy=>y=x) m:=let ⟨x,p,e⟩:=h;⟨x,p,x,rfl,e⟩
def aa6 {x:Nat}(hx:zL x x=true):∃r:ζ,∀s:ζ,s.size<=1->PP (λy=>y=s++r) λn=>cQ n x s:=by
 have h3:(ofBytes [105,110,102]).size=3:=rfl;have h4:(ofBytes [48,112,48]).size=3:=rfl;have h5:(ofBytes [112]).size=1:=rfl;obtain⟨b,_,hb⟩:=(Iv x 0).is;by_cases c:b=true
 .refine⟨ofBytes [105,110,102],λs hs=>PP.ite (λq=>by rw[hx] at q;simp at q) λ_=>hb.bind λb' e=>PP.ite (λ_=>(RH (by unfold cP;omega)).bind λz hz=>PP.pure hz) λq=>absurd (e.trans c) q⟩
 by_cases z:zL x 0=true
 .refine⟨ofBytes [48,112,48],λs hs=>PP.ite (λq=>by rw[hx] at q;simp at q) λ_=>hb.bind λb' e=>PP.ite (λq=>absurd (e▸q) c) λ_=>PP.ite (λ_=>(RH (by unfold cP;omega)).bind λz hz=>PP.pure hz) λq=>absurd z q⟩
 obtain⟨x1,hx1,p1⟩:=(OO x).is;obtain⟨x2,hx2,p2⟩:=(af2 hx1.1.1 hx1.1.2).is;obtain⟨x5,hx5,p5⟩:=(ZU hx1.2.1 hx1.2.2).is;refine⟨x2++ofBytes [112]++x5,λs hs=>PP.ite (λq=>by rw[hx] at q;simp at q) λ_=>hb.bind λb' e=>PP.ite (λq=>absurd (e▸q) c) λ_=>PP.ite (λq=>absurd q z) λ_=>?_⟩;refine p1.bind λy1 e1=>?_;subst e1;refine p2.bind λy2 e2=>?_;subst e2;refine (RH (by unfold cP;omega)).bind λy3 e3=>?_;subst e3;refine (RH (by rw[akw];unfold cP;omega)).bind λy4 e4=>?_;subst e4;refine p5.bind λy5 e5=>?_;subst e5;refine (RH (by rw[akw,akw];unfold cP;omega)).bind λy6 e6=>PP.pure ?_;rw[e6,anl,anl,anl]
end Go.Sh
namespace Go.Sh
open Go Go.Ago Go.Proofs Ieee
variable {h h':aj}{α β:Type}
def PP.wp {P:α->Prop}{m:Nat->M α}{n:Nat}{Q:α->aj->Prop}(hm:PP P m)(q:∀x,P x->Q x h):Wp (m n) h Q:=
 let ⟨x,p,e⟩:=hm;⟨x,h,e n h,q x p⟩
def Pw (b:Nat)(s:ζ):Prop:=PP (λy=>y=s) λn=>gG n b
def FP (s:ζ)(b:Nat):Prop:=s=Ch\/(fN b/\Pw b s)
def PP.uniq {m:Nat->M α}{x y:α}(hx:PP (λz=>z=x) m)(hy:PP (λz=>z=y) m):x=y:=by
 obtain⟨a,rfl,e1⟩:=hx;obtain⟨b,rfl,e2⟩:=hy;have h0:aj:=⟨λ_=>none,λ_=>none,0,λ_=>0,λ_=>false,λ_=>Classical.propDecidable _⟩;have:=(e1 0 h0).symm.trans (e2 0 h0);simp at this;exact this
def aka {x:Nat}(h:fN x):zL x x=true:=I0.2 h
def aeB {x:Nat}(hx:fN x):∃r:ζ,Pw x ((if IntKind.i64.wrap (x:Int)<0 then ofBytes [45] else ofBytes [])++r)/\PP (λy=>y=ofBytes [45]++r) λn=>gG n (cpN x):=by
 obtain⟨r,hr⟩:=aa6 (aka hx);refine⟨r,?_,?_⟩
 .unfold Pw gG;simp only[sign_eq,pbind,abD];split
  .exact hr _ (by decide)
  .exact hr _ (by decide)
 .unfold gG;have sg:IntKind.i64.wrap (cpN x:Int)<0:=by
   unfold cpN;rw[IntKind.wrap_i64];omega
  simp only[sign_eq,pbind,abD,sg,aks,aa5];exact hr _ (by decide)
def aa7 {x:Nat}(hx:¬fN x):∃s:ζ,s=Ch/\Pw x s:=by
 refine⟨_,rfl,?_⟩;have e:zL x x=false:=by
  cases c:zL x x with
  |true=>exact absurd (I0.1 c) hx
  |false=>rfl
 unfold Pw gG;have j:∀s,PP (λy=>y=Ch) λn=>cQ n x s:=λs=>by
  unfold cQ;rw[e];exact PP.ite (λ_=>PP.pure rfl) λq=>absurd rfl q
 simp only[sign_eq,pbind];exact PP.ite (λ_=>j _) λ_=>j _
def MK (r:ζ):ofBytes []++r=r:=by
 refine amo (Array.toList_inj.1 ?_);simp[alk,ofBytes]
def Px {x:Nat}{t:ζ}(ht:Pw x t)(hd:∀c,t.data.toList.head?=some c->c≠45)(hn:t≠Ch)(h0:t.data.toList≠[]):fN x/\fN (cpN x)/\Pw (cpN x) (ofBytes [45]++t):=by
 have hx:fN x:=aef λq=>by
  obtain⟨s,e,hs⟩:=aa7 q;exact hn ((PP.uniq ht hs).trans e)
 obtain⟨r,h1,h2⟩:=aeB hx;have e:=PP.uniq ht h1;have hc:fN (cpN x):=by
  rw[aa3] at hx⊢;rw[aa4];exact hx
 split at e
 .exfalso;refine hd 45 ?_ rfl;rw[e,alk,ak9];rfl
 .rw[MK] at e;subst e;exact⟨hx,hc,h2⟩
end Go.Sh
namespace Go.Sh
open Go Go.Ago Go.Proofs Ieee
variable {h h':aj}{α β:Type}
def aeC (n:Nat):uK n 1=AI 9218868437227405312:=by
 unfold uK bA;rw[By (by decide),pbind];rfl
def akb:Pw 9218868437227405312 (ofBytes [105,110,102]):=by
 unfold Pw gG cQ;have s:¬IntKind.i64.wrap ((9218868437227405312:Nat):Int)<0:=by rw[IntKind.wrap_i64];omega
 have g:P0 9218868437227405312 9218868437227405311=true:=by decide +kernel
 simp only[sign_eq,pbind,RG,I9];refine PP.ite (λq=>absurd (akH q) s) λ_=>PP.ite (λq=>by simp at q) λ_=>PP.ite (λ_=>(RH (by decide)).bind λz hz=>PP.pure (hz.trans (MK _))) λq=>absurd g q
def MM:Pw 0 (ofBytes [48,112,48]):=by
 unfold Pw gG cQ;have s:¬IntKind.i64.wrap ((0:Nat):Int)<0:=by rw[IntKind.wrap_i64];omega
 have g:P0 (0%9223372036854775808) 9218868437227405311=false:=by decide +kernel
 simp only[sign_eq,pbind,RG,I9,Pv];refine PP.ite (λq=>absurd (akH q) s) λ_=>PP.ite (λq=>by simp at q) λ_=>PP.ite (λq=>by rw[g] at q;cases q) λ_=>PP.ite (λ_=>(RH (by decide)).bind λz hz=>PP.pure (hz.trans (MK _))) λq=>absurd rfl q
def Cj (s:ζ):ζ:=⟨(Lib.trimPrefix s.data.toList [45]).toArray⟩
def aeD (s:ζ):s=if Lib.hasPrefix s.data.toList [45]=true then ofBytes [45]++Cj s else Cj s:=by
 refine amo (Array.toList_inj.1 ?_);unfold Cj Lib.trimPrefix;split
 .rename_i hp;rw[alk,ak9];show s.data.toList=[45]++s.data.toList.drop 1;unfold Lib.hasPrefix at hp;generalize s.data.toList=l at hp;cases l with
  |nil=>simp at hp
  |cons a l=>simp at hp;simp[hp]
 .rfl
def aa8 {s:ζ}{x:Nat}(ht:Pw x (Cj s))(hd:∀c,(Cj s).data.toList.head?=some c->c≠45)(hn:Cj s≠Ch)(h0:(Cj s).data.toList≠[]) :
  (Lib.hasPrefix s.data.toList [45]=true->FP s (cpN x))/\(Lib.hasPrefix s.data.toList [45]=false->FP s x):=by
 obtain⟨f1,f2,f3⟩:=Px ht hd hn h0;have e:=aeD s;refine⟨λhp=>.inr ⟨f2,?_⟩,λhp=>.inr ⟨f1,?_⟩⟩
 .rw[By hp] at e;rw[e];exact f3
 .rw[AT (by rw[hp];decide)] at e;rw[e];exact ht
def aa9 {l:List UInt8}{v}(h:Lib.parseUintB 64 l=.ok v):∃c r,l=c::r/\48<=c.toNat/\c.toNat<=57:=by
 unfold Lib.parseUintB at h;split at h
 .cases h
 cases l with
 |nil=>rename_i q;exact absurd rfl q
 |cons c r=>
  unfold Lib.parseUintM at h;split at h
  .rename_i q;exact⟨c,r,rfl,q⟩
  .cases h
theorem agP {s:ζ}(hs:s.size<=65536):PP (λr:ζ×ζ×Bool=>(r.1.size<=65536/\r.2.1.size<=65536)/\∀c,r.1.data.toList.head?=some c->s.data.toList.head?=some c) λn=>strings_Cut n s (ofBytes [112]):=by
 refine PP.bind (P:=λr:ζ×ζ×Bool=>(r.1.size<=65536/\r.2.1.size<=65536)/\∀c,r.1.data.toList.head?=some c->s.data.toList.head?=some c) ?_ λx hx=>PP.pure hx;unfold oN;refine PP.bind (P:=λx:Int=>x=Lib.indexByte s.data.toList 112) ⟨_,rfl,λ_ _=>rfl⟩ λx hx=>?_;subst hx;refine PP.ite (λhc=>?_) λ_=>PP.pure ⟨⟨hs,by show 0<=65536;omega⟩,λc h=>h⟩;rcases ixb s.data.toList 112 with hneg|⟨i,hi,hg⟩
 .simp only[abD] at hc;omega
 .have hlt:i<s.size:=(List.getElem?_eq_some_iff.1 hg).1;rw[hi];have h1:=Dt s 0 i;have h2:=Dt s (i+1) s.size;refine PP.bind (P:=λx:ζ=>x.size<=65536/\∀c,x.data.toList.head?=some c->s.data.toList.head?=some c) ⟨s.extract 0 i,⟨by omega,λc hc=>?_⟩,λ_ h=>by show iF s 0 (i:Int) h=_;unfold iF;rw[By (by omega)];simp[Cy]⟩ λx hx=>?_
  .have e:(s.extract 0 i).data.toList=s.data.toList.take i:=by simp[alC]
   rw[e] at hc;cases hl:s.data.toList with
   |nil=>rw[hl] at hc;simp at hc
   |cons a l=>
    rw[hl] at hc;cases i with
    |zero=>simp at hc
    |succ i=>simpa using hc
  have ew:IntKind.i64.wrap ((i:Int)+((ofBytes [112]).size:Int))=((i+1:Nat):Int):=by
   have:(ofBytes [112]).size=1:=rfl;rw[tH (by omega) (by omega)];omega
  rw[ew];refine PP.bind (P:=λx:ζ=>x.size<=65536) ⟨s.extract (i+1) s.size,by omega,λ_ h=>by show iF s ((i+1:Nat):Int) (s.size:Int) h=_;unfold iF;rw[By (by omega)];simp[Cy]⟩ λy hy=>PP.pure ⟨⟨hx.1,hy⟩,hx.2⟩
def aba {s:ζ}(hs:s.size<=65536)(hw:WF h)(n:Nat):Wp (jQ n s) h λx _=>x.2=true->FP s x.1:=by
 have hc:(Cj s).size<=65536:=by
  have:=GW s.data.toList [45];have h2:s.data.toList.length=s.size:=rfl;show (Lib.trimPrefix s.data.toList [45]).toArray.size<=65536;rw[anh];omega
 unfold jQ strings_CutPrefix;rw[pbind];show Wp (if mQ s (ofBytes [110,97,110])=true then _ else if mQ (Cj s) (ofBytes [105,110,102])=true then sh (uK n 1) λx1=>if Lib.hasPrefix s.data.toList [45]=true then _ else _ else if mQ (Cj s) (ofBytes [48,112,48])=true then (if Lib.hasPrefix s.data.toList [45]=true then _ else _) else _) h _;by_cases e1:mQ s (ofBytes [110,97,110])=true
 .rw[By e1,ag];exact ZT.wp λx _=>af.2 λ_=>.inl (iI e1)
 rw[AT e1];by_cases e2:mQ (Cj s) (ofBytes [105,110,102])=true
 .have e:=iI e2;obtain⟨q1,q2⟩:=aa8 (s:=s) (x:=9218868437227405312) (by rw[e];exact akb) (by rw[e];intro c hc;cases hc;decide) (by rw[e];decide) (by rw[e];decide);rw[By e2,aeC,pbind];cases hp:Lib.hasPrefix s.data.toList [45]
  .rw[AT (by decide)];exact af.2 λ_=>q2 hp
  .rw[By rfl,copy_eq,pbind];exact af.2 λ_=>q1 hp
 rw[AT e2];by_cases e3:mQ (Cj s) (ofBytes [48,112,48])=true
 .have e:=iI e3;obtain⟨q1,q2⟩:=aa8 (s:=s) (x:=0) (by rw[e];exact MM) (by rw[e];intro c hc;cases hc;decide) (by rw[e];decide) (by rw[e];decide);rw[By e3];cases hp:Lib.hasPrefix s.data.toList [45]
  .rw[AT (by decide)];exact af.2 λ_=>q2 hp
  .rw[By rfl,copy_eq,pbind];exact af.2 λ_=>q1 hp
 rw[AT e3];show Wp (sh (strings_Cut n (Cj s) (ofBytes [112])) _) h _;rw[ag];refine (agP hc).wp λr hr=>?_;obtain⟨⟨hr1,hr2⟩,hh⟩:=hr;rw[ag];refine (S6 hr1 hw).mono λx2 h1 hx2=>?_;rw[ag];refine (L5 hr2 hx2.2.wf).mono λx3 h2 hx3=>?_;by_cases fd:(!r.2.2)=true
 .rw[By fd];exact af.2 λq=>by cases q
 rw[AT fd];have bad:∀{k:Bool->M (Nat×Bool)} {v:ο} {h:aj} {Q:Nat×Bool->aj->Prop},(∃t u,v=.iface t u)->Q (0,false) h->Wp (sh (kL v) λx4=>if (!x4)=true then AI (0,false) else k x4) h Q:=λhv q=>
  Bl hv (by rw[By (by decide)];exact af.2 q)
 cases e4:Lib.parseUintB 64 r.1.data.toList with
 |ok v=>
  have hx2:=hx2.1;rw[e4] at hx2;simp only at hx2;subst hx2;refine yy rfl ?_;rw[AT (by decide)];cases e5:Lib.atoiAll r.2.1.data.toList with
  |ok e=>
   have hx3:=hx3.1;rw[e5] at hx3;simp only at hx3;subst hx3;refine yy rfl ?_;rw[AT (by decide),ag];have hle:=Lib.parseUintB_le e4;refine (S5 (by omega) (by omega)).wp λb _=>?_;by_cases hb:(!b)=true
   .rw[By hb];exact af.2 λq=>by cases q
   rw[AT hb];show Wp (gj n (Cj s) (Lib.hasPrefix s.data.toList [45]) _ _) _ _;unfold gj;rw[ag];refine (ON _ _).wp λx0 _=>?_;rw[ag];obtain⟨y,_,hy⟩:=(OQ x0).is;refine hy.wp λy' ey=>?_;subst ey;by_cases eq:(!mQ y' (Cj s))=true
   .rw[By eq];exact af.2 λq=>by cases q
   rw[AT eq];have et:y'=Cj s:=iI (by simpa using eq);rw[et] at hy;obtain⟨c,l,el,c1,c2⟩:=aa9 e4;have hhd:=hh c (by rw[el];rfl);obtain⟨q1,q2⟩:=aa8 (s:=s) (x:=x0) hy (λd hd=>by
    rw[hhd] at hd;cases hd;intro q;subst q;exact absurd c1 (by decide)) (λq=>by
    rw[q] at hhd;have:c=110:=(by cases hhd;rfl);subst this;exact absurd c2 (by decide)) (λq=>by rw[q] at hhd;cases hhd)
   cases hp:Lib.hasPrefix s.data.toList [45]
   .rw[AT (by decide)];exact af.2 λ_=>q2 hp
   .rw[By rfl,copy_eq,pbind];exact af.2 λ_=>q1 hp
  |range=>exact bad (by have:=hx3.1;rw[e5] at this;exact this) λq=>by cases q
  |_=>exact bad (by have:=hx3.1;rw[e5] at this;exact this) λq=>by cases q
 |range=>exact bad (by have:=hx2.1;rw[e4] at this;exact this) λq=>by cases q
 |_=>exact bad (by have:=hx2.1;rw[e4] at this;exact this) λq=>by cases q
end Go.Sh
namespace Go.Sh
open Go Go.Ago Go.Proofs Ieee
noncomputable def h00:aj:=⟨λ_=>none,λ_=>none,0,λ_=>0,λ_=>false,λ_=>Classical.propDecidable _⟩
def MN:WF h00:=⟨λ_ _=>rfl,λ_ _=>rfl,λ_ _ _ _ _ h=>(by cases h),λ_ _=>rfl⟩
def RI {s:ζ}(h:(oj s).2=true):FP s (oj s).1:=by
 by_cases hs:s.size<=65536
 .obtain⟨x,h1,e1,q1,_⟩:=Eu (n:=0) hs MN;obtain⟨y,h2,e2,q2⟩:=aba hs MN 0;rw[e1] at e2;cases e2;rw[q1] at q2;exact q2 h
 .unfold oj at h;rw[dif_neg hs] at h;cases h
def abb {x:Nat}{s}(h:Pw x s):Pw (x%qp) s:=by
 unfold Pw at h⊢;simp only[aa1];exact h
theorem abc (x:Nat):fV x=DG FloatKind.f64.format.leastPlace (FloatKind.f64.format.read x):=rfl
def WX {x:Nat}(hx:x<qp)(nx:fN x)(cx:fD x=0)(z:fV x=0):x=0\/x=9223372036854775808:=by
 have v:=ED (f:=FloatKind.f64.format) nx cx;rw[abc] at z;rw[z] at v;have m0:Ci FloatKind.f64.format.binade (x%FloatKind.f64.format.signWeight)=0:=by split at v<;>omega
 have m1:Ci FloatKind.f64.format.binade 0=0:=by
  unfold Ci;rw[By (by rw[aeA];omega)]
 have r:=Pt (B:=FloatKind.f64.format.binade) (by rw[aeA];omega) (m0.trans m1.symm);rw[aj8] at r;simp only[qp] at hx;omega
def alR:Pw 9223372036854775808 nzS:=(Px MM (by intro c hc;cases hc;decide) (by decide) (by decide)).2.2
def KH {x:Nat}{s}(hx:x<qp)(nx:fN x)(cx:fD x=0)(z:fV x=0)(ht:Pw x s):s=ofBytes [48,112,48]\/s=nzS:=by
 rcases WX hx nx cx z with rfl|rfl
 .exact .inl (PP.uniq ht MM)
 .exact .inr (PP.uniq ht alR)
def akc:FlE:=by
 intro s t hs ht ns nt hz;have fx:=hs.2 ns;have fy:=ht.2 nt;obtain⟨_,tx⟩:=(RI hs.1).resolve_left ns;obtain⟨_,ty⟩:=(RI ht.1).resolve_left nt;obtain⟨hD,hV⟩:=RD fx fy hz;generalize (oj s).1=x at *
 generalize (oj t).1=y at *
 have tx:=abb tx;have ty:=abb ty;have rx:=MJ x;have ry:=MJ y;have lx:x%qp<qp:=amR _ (by decide);have ly:y%qp<qp:=amR _ (by decide);have fx:fN (x%qp):=by unfold fN at fx⊢;rw[rx];exact fx
 have fy:fN (y%qp):=by unfold fN at fy⊢;rw[ry];exact fy
 have hD:fD (x%qp)=fD (y%qp):=by unfold fD at hD⊢;rw[rx,ry];exact hD
 have hV:fV (x%qp)=fV (y%qp):=by unfold fV at hV⊢;rw[rx,ry];exact hV
 generalize x%qp=x at *
 generalize y%qp=y at *
 by_cases c:fD x=0
 .have sw:qp=2*FloatKind.f64.format.signWeight:=by rw[aj8]
  rcases aaX (f:=FloatKind.f64.format) (by rw[aeA];omega) (by rw[<-sw];exact lx) (by rw[<-sw];exact ly) fx fy c (show fD y=0 from hD▸c) (by rw[<-abc,<-abc];exact hV) with e|z
  .subst e;exact .inl (PP.uniq tx ty)
  .have zx:fV x=0:=z;have s1:=KH lx fx c zx tx;have s2:=KH ly fy (hD▸c) (hV▸zx) ty;have ne:ofBytes [48,112,48]≠nzS:=by decide
   rcases s1 with rfl|rfl<;>rcases s2 with rfl|rfl
   .exact .inl rfl
   .exact .inr ⟨λq=>absurd q ne,λq=>absurd rfl q⟩
   .exact .inr ⟨λ_=>ne,λ_=>rfl⟩
   .exact .inl rfl
 .have key:∀w,w<qp->fN w->fD w≠0->w%9223372036854775808=9218868437227405312/\fD w=if w/9223372036854775808%2==1 then -1 else 1:=λw lw nw cw=>by
   unfold fD at cw⊢;unfold fN at nw;rw[Hc] at cw nw⊢;split at cw
   .exact absurd rfl cw
   .rename_i h1;split at cw
    .exact absurd rfl cw
    .rename_i h2;split at cw
     .rename_i h3;rw[AT h1,AT h2,By h3];exact⟨h3,rfl⟩
     .exact absurd rfl cw
  obtain⟨a1,a2⟩:=key x lx fx c;obtain⟨b1,b2⟩:=key y ly fy (hD▸c);rw[a2,b2] at hD;simp only[qp] at lx ly;have:x=y:=by
   have q1:x/9223372036854775808%2=x/9223372036854775808:=by omega
   have q2:y/9223372036854775808%2=y/9223372036854775808:=by omega
   rw[q1,q2] at hD;have e1:(x/9223372036854775808==1)=(y/9223372036854775808==1):=by
    cases h1:(x/9223372036854775808==1)<;>cases h2:(y/9223372036854775808==1)<;>simp_all
   have e2:x/9223372036854775808=1↔y/9223372036854775808=1:=by
    rw[<-beq_iff_eq,e1,beq_iff_eq]
   omega
  subst this;exact .inl (PP.uniq tx ty)
end Go.Sh
namespace Go.Sh
open Go Go.Ago Go.Proofs Ieee
variable {N:List al}{root:Int}
def abd {s:ζ}(h:Q9 s=true):FlO s:=by
 have hs:s.size<=65536:=aef λq=>by
  unfold Q9 at h;rw[dif_neg q] at h;cases h
 have e:(oj s).2=true:=by
  obtain⟨x,h1,e1,q1,_⟩:=zQ (n:=0) hs MN;have w:Wp (nH 0 s) h00 λx _=>x=(oj s).2:=by
   unfold nH;rw[ag];exact (Eu hs MN).mono λy h2 hy=>af.2 (by rw[hy.1])
  obtain⟨y,h2,e2,q2⟩:=w;rw[e1] at e2;cases e2;rw[<-q2,q1];exact h
 exact⟨e,λhn=>((RI e).resolve_left hn).1⟩
def alS {x:al}(h:jr x=some true):SK x.kind x.text:=by
 have sc:x.kind<9->xw x.kind x.text=some true:=λhk=>by
  unfold jr at h;rw[AT (by omega),AT (by omega),AT (by omega)] at h;split at h
  .exact h
  .cases h
 refine⟨λk=>?_,λk=>?_,λk=>?_⟩
 .have h:=sc (by omega);unfold xw at h;simp[k] at h;exact h
 .have h:=sc (by omega);unfold xw at h;simp[k] at h;exact h
 .have h:=sc (by omega);unfold xw at h;simp[k] at h;exact abd h
def akd (h:∀x∈N,jr x=some true):SKs N:=λx hx=>alS (h x hx)
def alT (d:Vd N root)(sm:∀x∈N,x.kind=10->x.items.length<50)(tw:∀x∈N,x.keys.Pairwise λy x=>∀f,¬xW N f x y):∃H:Int->Nat,KOr N H/\∀u,H u<=N.length:=by
 obtain⟨H,h1,h2⟩:=d.Mn;refine⟨H,⟨akc,akd d.fm,d.ix,λx hx k=>d.map hx k,λx hx k=>d.keys hx k,λu v ku e=>?_,tw,sm⟩,h1⟩;have kv:KN N v:=.step ku e;exact⟨kv,h2 u v kv e⟩
end Go.Sh
