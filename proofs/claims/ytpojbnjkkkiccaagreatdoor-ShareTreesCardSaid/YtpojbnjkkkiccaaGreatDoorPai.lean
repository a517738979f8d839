
import Derived.Test.YtpojbnjkkkiccaaGreatDoorPag
set_option linter.all false
namespace Go.Sh
open Go Go.Ago
structure CM {α:Type} (S:α->Prop) (c:α->α->Int):Prop where
 an:∀a b,S a->S b->(c a b<0↔0<c b a)
 tr:∀a b d,S a->S b->S d->c a b<=0->c b d<=0->c a d<=0
section
variable {α β:Type}{S S':α->Prop}{c c':α->α->Int}
def CM.rf (h:CM S c){a}(x:S a):c a a=0:=by have:=h.an a a x x;omega
def CM.z (h:CM S c){a b}(x:S a)(y:S b):c a b=0↔c b a=0:=by have:=h.an a b x y;have:=h.an b a y x;omega
def CM.le (h:CM S c){a b}(x:S a)(y:S b):c a b<=0↔0<=c b a:=by have:=h.an a b x y;have:=h.an b a y x;omega
def CM.lt (h:CM S c){a b d}(x:S a)(y:S b)(z:S d)(p:c a b<0)(q:c b d<=0):c a d<0:=by
 have:=h.tr d a b z x y;have:=h.tr b d a y z x q;have:=h.le z x;have:=h.an a b x y;omega
def CM.lt' (h:CM S c){a b d}(x:S a)(y:S b)(z:S d)(p:c a b<=0)(q:c b d<0):c a d<0:=by
 have:=h.tr d a b z x y;have:=h.le z x;have:=h.an b d y z;omega
def CM.zt (h:CM S c){a b d}(x:S a)(y:S b)(z:S d)(p:c a b=0)(q:c b d=0):c a d=0:=by
 have:=h.tr a b d x y z (by omega) (by omega);have:=h.tr d b a z y x (by have:=h.z y z;omega) (by have:=h.z x y;omega);have:=h.le z x;omega
def CM.on (h:CM S c)(f:β->α):CM (λb=>S (f b)) (λa b=>c (f a) (f b)):=
 ⟨λa b=>h.an _ _,λa b d=>h.tr _ _ _⟩
def CM.sub (h:CM S c)(s:∀a,S' a->S a):CM S' c:=⟨λa b x y=>h.an a b (s a x) (s b y),λa b d x y z=>h.tr a b d (s a x) (s b y) (s d z)⟩
def CM.congr (h:CM S c)(e:∀a b,S a->S b->c a b=c' a b):CM S c':=
 ⟨λa b x y=>by rw[<-e a b x y,<-e b a y x];exact h.an a b x y,λa b d x y z=>by rw[<-e a b x y,<-e b d y z,<-e a d x z];exact h.tr a b d x y z⟩
theorem CM.lex (h:CM S c)(h':∀a,S a->CM (λb=>S b/\c a b=0) c'):CM S (λa b=>if c a b≠0 then c a b else c' a b):=by
 have k:∀a b,S a->S b->c a b=0->(c' a b<0↔0<c' b a):=λa b x y e=>(h' a x).an a b ⟨x,h.rf x⟩ ⟨y,e⟩;refine⟨λa b x y=>?_,λa b d x y z p q=>?_⟩
 .have:=h.z x y;have:=h.an a b x y;have:=k a b x y
  grind
 .have t1:=h.tr a b d x y z;have t2:=h.lt x y z;have t3:=h.lt' x y z;have t4:=h.zt x y z;by_cases e1:c a b=0<;>by_cases e2:c b d=0
  .have t5:=(h' a x).tr a b d ⟨x,h.rf x⟩ ⟨y,e1⟩ ⟨z,t4 e1 e2⟩
   grind
  .grind
  .grind
  .grind
theorem CM.num {S:Int->Prop}:CM S (λa b:Int=>if a<b then -1 else if b<a then 1 else 0):=⟨λa b _ _=>by grind,λa b d _ _ _=>by grind⟩
def CM.zero:CM S (λ_ _=>0):=⟨λa b _ _=>by simp,λa b d _ _ _=>by simp⟩
def rv (c:α->α->Int):List α->List α->Int
 |[],[]=>0
 |[],_::_=>-1
 |_::_,[]=>1
 |a::l,b::m=>if c a b≠0 then c a b else rv c l m
theorem CM.row (h:CM S c):CM (λl=>∀a∈l,S a) (rv c):=by
 refine⟨?_,?_⟩
 .intro l
  induction l with
  |nil=>intro m;cases m<;>simp[rv]
  |cons a l ih=>
   intro m x y;cases m with
   |nil=>simp[rv]
   |cons b m=>
    simp only[ape] at x y;have:=ih m x.2 y.2;have:=h.an a b x.1 y.1;have:=h.z x.1 y.1
    grind [rv]
 .intro l
  induction l with
  |nil=>intro m n;cases m<;>cases n<;>simp[rv]
  |cons a l ih=>
   intro m n x y z;cases m with
   |nil=>simp[rv]
   |cons b m=>
    cases n with
    |nil=>simp[rv]
    |cons d n=>
     simp only[ape] at x y z;have:=ih m n x.2 y.2 z.2;have:=h.tr a b d x.1 y.1 z.1;have:=h.lt x.1 y.1 z.1;have:=h.lt' x.1 y.1 z.1;have:=h.zt x.1 y.1 z.1
     grind [rv]
theorem Mt (hz:∀a b,S a->S b->c a b=0->a=b):∀l m:List α,(∀a∈l,S a)->(∀a∈m,S a)->rv c l m=0->l=m
 |[],[],_,_,_=>rfl
 |[],_::_,_,_,e=>by simp[rv] at e
 |_::_,[],_,_,e=>by simp[rv] at e
 |a::l,b::m,x,y,e=>by
  simp only[ape] at x y;have:=Mt hz l m x.2 y.2;have:=hz a b x.1 y.1
  grind [rv]
end
end Go.Sh
namespace Go.Sh
open Go Go.Ago Go.Proofs
def Mu:∀k,CM (λ_:ε=>True) (λD E=>va D E k)
 |0=>CM.zero
 |k+1=>((CM.num.on (S:=λ_=>True) (λD:ε=>D.getD k 0)).lex (c':=λD E=>va D E k) λa _=>(Mu k).sub λ_ _=>trivial).congr λa b _ _=>by
  have e:va a b (k+1)=if a.getD k 0=b.getD k 0 then va a b k else if a.getD k 0<b.getD k 0 then -1 else 1:=rfl;simp only[e];generalize va a b k=c
  grind
def H3:∀{k} {D E:ε},va D E k=0->∀i,i<k->D.getD i 0=E.getD i 0
 |0,_,_,_,i,h=>by omega
 |k+1,D,E,e,i,h=>by
  unfold va at e;split at e
  .rename_i q;by_cases hi:i=k
   .subst hi;exact q
   .exact H3 e i (by omega)
  .grind
def Qo {D E:ε}(hl:D.length=E.length)(h:∀i,i<D.length->D.getD i 0=E.getD i 0):D=E:=by
 refine List.ext_getElem hl λi h1 h2=>?_;have:=h i h1;simpa[akC,h1,h2] using this
def abn:CM (λ_:ε=>True) H2:=
 ((CM.num.on (S:=λ_=>True) (λD:ε=>(D.length:Int))).lex (c':=λD E=>va D E D.length) λa _=>
  ((Mu a.length).sub (S':=λb=>True/\(if (a.length:Int)<(b.length:Int) then (-1:Int) else if (b.length:Int)<(a.length:Int) then 1 else 0)=0) λ_ _=>trivial).congr λb d hb hd=>by
   have:b.length=a.length:=by grind
   rw[this]).congr λa b _ _=>by
  unfold H2
  grind
def KD {D E:ε}(e:H2 D E=0):D=E:=by
 unfold H2 at e;split at e
 .grind
 .rename_i h;exact Qo (by omega) (H3 e)
def abo:CM (λ_:Bool×ε=>True) Gd:=by
 have h1:=abn;refine⟨λa b _ _=>?_,λa b d _ _ _=>?_⟩
 .have:=h1.an a.2 b.2 trivial trivial;have:=h1.an b.2 a.2 trivial trivial;unfold Gd
  grind
 .have:=h1.tr a.2 b.2 d.2 trivial trivial trivial;have:=h1.tr d.2 b.2 a.2 trivial trivial trivial;unfold Gd
  grind
def Te {x y:Bool×ε}(e:Gd x y=0):x=y:=by
 unfold Gd at e;have:=@KD x.2 y.2;have:=@KD y.2 x.2;obtain⟨x1,x2⟩:=x;obtain⟨y1,y2⟩:=y
 grind
def U2:CM (λs=>nC s=true) Tc:=
 ((abo.on λs=>((wN s).1,EW (wN s).2)).sub λ_ _=>trivial).congr λs t hs ht=>by
  unfold Tc;rw[hs,ht];rfl
end Go.Sh
namespace Go.Sh
open Go Go.Ago Go.Proofs
def CM.dif {S:Int->Prop}:CM S (λa b:Int=>a-b):=⟨λa b _ _=>by omega,λa b d _ _ _=>by omega⟩
structure II (N:Bool×ε×Int):Prop where
 dg:∀d∈N.2.1,0<=d/\d<=9
 le:N.2.1.length<=400
 ex:-2000<=N.2.2/\N.2.2<=2000
 ze:N.2.1=[]->N.1=false/\N.2.2=0
 la:∀d,N.2.1.getLast?=some d->d≠0
def U3 {D:ε}(h:∀d∈D,0<=d/\d<=9) i:0<=D.getD i 0/\D.getD i 0<=9:=by
 rw[akC];cases e:D[i]? with
 |none=>simp
 |some d=>exact h d (IN e)
def U4 {D E:ε}(h:∀d∈D,0<=d/\d<=9)(h':∀d∈E,0<=d/\d<=9) i:KA D E i=D.getD i 0-E.getD i 0:=by
 have:=U3 h i;have:=U3 h' i;unfold KA wi;rw[xQ (x:=D.getD i 0) (by omega) (by omega),xQ (x:=E.getD i 0) (by omega) (by omega),xQ (by omega) (by omega)]
abbrev Dg (D:ε):Prop:=∀d∈D,0<=d/\d<=9
def U5:∀k i,CM Dg (λD E=>wO D E k i)
 |0,i=>CM.zero
 |k+1,i=>((CM.dif.on (S:=λ_=>True) (λD:ε=>D.getD i 0)).sub (S':=Dg) (λ_ _=>trivial) |>.lex (c':=λD E=>wO D E k (i+1)) λa _=>(U5 k (i+1)).sub λ_ h=>h.1).congr λa b ha hb=>by
  have e:wO a b (k+1) i=if KA a b i=0 then wO a b k (i+1) else KA a b i:=rfl;simp only[e,U4 ha hb];generalize wO a b k (i+1)=c
  grind
def Mv {D E:ε}(h:Dg D)(h':Dg E):∀{k i},wO D E k i=0->∀j,i<=j->j<i+k->D.getD j 0=E.getD j 0
 |0,i,_,j,a,b=>by omega
 |k+1,i,e,j,a,b=>by
  unfold wO at e;rw[U4 h h'] at e;split at e
  .rename_i q;by_cases hj:j=i
   .subst hj;omega
   .exact Mv h h' e j (by omega) (by omega)
  .omega
def KE {D E:ε}:∀k i,D.length<=i->E.length<=i->wO D E k i=0
 |0,i,_,_=>rfl
 |k+1,i,a,b=>by
  have:KA D E i=0:=by
   unfold KA;rw[akC,akC,ahW a,ahW b];rfl
  unfold wO;rw[By this];exact KE k (i+1) (by omega) (by omega)
def Mw {D E:ε}:∀k m i,D.length<=i+k->E.length<=i+k->k<=m->wO D E m i=wO D E k i
 |0,m,i,a,b,_=>by rw[KE m i (by omega) (by omega)];rfl
 |k+1,m+1,i,a,b,c=>by
  unfold wO;rw[Mw k m (i+1) (by omega) (by omega) (by omega)]
 |k+1,0,i,a,b,c=>by omega
def Qp (N:Bool×ε×Int):Int:=if N.2.1=[] then -5000 else N.2.1.length+N.2.2
def E5 (K:Nat)(N M:Bool×ε×Int):Int:=if Qp N-Qp M≠0 then Qp N-Qp M else wO N.2.1 M.2.1 K 0
section
variable {K:Nat}{N M:Bool×ε×Int}
theorem afe:CM II (E5 K):=
 (CM.dif.on (S:=λ_=>True) Qp).sub (S':=II) (λ_ _=>trivial) |>.lex (c':=λN M:Bool×ε×Int=>wO N.2.1 M.2.1 K 0) λa _=>((U5 K 0).on λN:Bool×ε×Int=>N.2.1).sub λb h=>h.1.dg
theorem I3 {n e}:Qp (n,[],e)=-5000:=rfl
def zD {n D e}(h:D≠[]):Qp (n,D,e)=(D.length:Int)+e:=AT h
def Mx {x:Int}(h:-9223372036854775808<=x)(h':x<9223372036854775808):wi x=x:=xQ h (by omega)
def U6 {x:Int}(h:x<0):Mr x=-1:=By h
def U7 {x:Int}(h:0<x):Mr x=1:=by unfold Mr;rw[AT (by omega),By h]
theorem aff (hK:400<=K)(h:II N)(h':II M):Mr (IH N.2.1 N.2.2 M.2.1 M.2.2)=Mr (E5 K N M):=by
 obtain⟨n,D,e⟩:=N;obtain⟨m,E,f⟩:=M;obtain⟨a1,a2,a3,a4,_⟩:=h;obtain⟨b1,b2,b3,b4,_⟩:=h';simp only at a1 a2 a3 a4 b1 b2 b3 b4;show Mr (IH D e E f)=Mr (if Qp (n,D,e)-Qp (m,E,f)≠0 then Qp (n,D,e)-Qp (m,E,f) else wO D E K 0);by_cases d0:D=[]
 .subst d0;by_cases e0:E=[]
  .subst e0;rw[I3,I3,AT (by omega),KE K 0 (by simp) (by simp)];rfl
  .have l2:0<E.length:=List.length_pos_iff.2 e0;have hp:IH [] e E f=-(E.length:Int):=by
    unfold IH;rw[By (show ([]:ε).length=0 from rfl),Mx (by simp;omega) (by simp;omega)];simp
   rw[I3,zD e0,By (by omega),hp,U6 (by omega),U6 (by omega)]
 .have l1:0<D.length:=List.length_pos_iff.2 d0;by_cases e0:E=[]
  .subst e0;have hp:IH D e [] f=(D.length:Int):=by
    unfold IH;rw[AT (by omega),By (show ([]:ε).length=0 from rfl),Mx (by grind) (by grind)];simp
   rw[I3,zD d0,By (by omega),hp,U7 (by omega),U7 (by omega)]
  .have l2:0<E.length:=List.length_pos_iff.2 e0;have t:wi (wi (wi (D.length+e)-E.length)-f)=D.length+e-(E.length+f):=by
    rw[Mx (x:=(D.length:Int)+e) (by omega) (by omega),Mx (x:=(D.length:Int)+e-E.length) (by omega) (by omega),Mx (by omega) (by omega)];omega
   unfold IH;rw[zD d0,zD e0,AT (by omega),AT (by omega),t];by_cases q:(D.length:Int)+e-(E.length+f)=0
   .rw[By q,AT (by omega),Mw (max D.length E.length) K 0 (by omega) (by omega) (by omega)]
   .rw[AT q,By q]
theorem Az {x:Int}:(Mr x<0↔x<0)/\(0<Mr x↔0<x)/\-1<=Mr x/\Mr x<=1:=by unfold Mr;grind
def U8 (hK:400<=K)(h:II N)(h':II M):Td N M=if N.1≠M.1 then (if N.1 then -1 else 1) else if N.1 then 0-Mr (E5 K N M) else Mr (E5 K N M):=by
 unfold Td;rw[aff hK h h'];have:=@Az (E5 K N M);rw[Mx (by omega) (by omega)]
theorem afg:CM II Td:=by
 obtain⟨K,hK⟩:∃K:Nat,400<=K:=⟨400,abi _⟩;have h1:CM II (E5 K):=afe;refine CM.congr (c:=λN M=>if N.1≠M.1 then (if N.1 then -1 else 1) else if N.1 then 0-Mr (E5 K N M) else Mr (E5 K N M)) ⟨λa b x y=>?_,λa b d x y z=>?_⟩ λa b x y=>(U8 hK x y).symm
 .have:=h1.an a b x y;have:=h1.an b a y x;have:=@Az (E5 K a b);have:=@Az (E5 K b a)
  grind
 .have:=h1.tr a b d x y z;have:=h1.tr d b a z y x;have:=h1.le x y;have:=h1.le y x;have:=h1.le y z;have:=h1.le z y;have:=h1.le x z;have:=h1.le z x;have:=@Az (E5 K a b);have:=@Az (E5 K b d);have:=@Az (E5 K a d)
  grind
theorem XO (h:II N)(h':II M)(z:Td N M=0):N=M:=by
 obtain⟨K,hK⟩:∃K:Nat,400<=K:=⟨400,abi _⟩;rw[U8 hK h h'] at z;obtain⟨n,D,e⟩:=N;obtain⟨m,E,f⟩:=M;have hs:n=m:=by
  by_cases q:n=m
  .exact q
  .rw[By q] at z;grind
 subst hs;have hm:E5 K (n,D,e) (n,E,f)=0:=by
  have:=@Az (E5 K (n,D,e) (n,E,f))
  grind
 obtain⟨a1,a2,a3,a4,a5⟩:=h;obtain⟨b1,b2,b3,b4,b5⟩:=h';simp only at a1 a2 a3 a4 a5 b1 b2 b3 b4 b5;have hm:(if Qp (n,D,e)-Qp (n,E,f)≠0 then Qp (n,D,e)-Qp (n,E,f) else wO D E K 0)=0:=hm;by_cases hr:Qp (n,D,e)-Qp (n,E,f)=0
 .rw[AT (by omega)] at hm;have g:=λj (hj:j<K)=>Mv a1 b1 hm j (alg _) (by omega);have key:∀{X Y:ε},(∀d,Y.getLast?=some d->d≠0)->(∀j,j<K->X.getD j 0=Y.getD j 0)->Y.length<=400->Y.length<=X.length:=λ{X Y} lb g hy=>by
   refine Nat.le_of_not_lt λhlt=>?_;have hne:Y≠[]:=λq=>by rw[q] at hlt;simp at hlt
   have hl:=lb _ (anY hne);have g1:=g (Y.length-1) (by omega);rw[akC,akC,ahW (by omega),<-apA,anY hne] at g1;exact hl g1.symm
  have le1:=key b5 g b2;have le2:=key a5 (λj hj=>(g j hj).symm) a2;have hD:D=E:=Qo (by omega) λi hi=>g i (by omega);subst hD;have:e=f:=by
   by_cases d0:D=[]
   .rw[(a4 d0).2,(b4 d0).2]
   .rw[zD d0,zD d0] at hr;omega
  rw[this]
 .rw[By hr] at hm;exact absurd hm hr
end
end Go.Sh
namespace Go.Sh
open Go Go.Ago Go.Proofs
def KG:∀{D:ε} {d},d∈stripL D->d∈D
 |[],d,h=>h
 |x::r,d,h=>by
  unfold stripL at h;split at h
  .exact BY _ (KG h)
  .exact h
def KH:∀{l:ε} {e d},d∈(stripR l e).1->d∈l
 |[],e,d,h=>h
 |x::r,e,d,h=>by
  unfold stripR at h;split at h
  .exact BY _ (KH h)
  .exact List.mem_reverse.1 h
def H4:∀{l:ε} {e d},(stripR l e).1.getLast?=some d->d≠0
 |[],e,d,h=>by simp[stripR] at h
 |x::r,e,d,h=>by
  unfold stripR at h;split at h
  .exact H4 h
  .rename_i q;simp at h;rw[<-h];exact q
def XP {neg}{D:ε}{e}(h:Dg D)(hl:NP (xJ neg D e).2.1 (xJ neg D e).2.2=0):II (xJ neg D e):=by
 unfold xJ at hl⊢;split at hl<;>rename_i q
 .rw[By q];exact⟨by simp,by simp,by simp,by simp,by simp⟩
 .rw[AT q];unfold NP at hl;simp only at hl;exact⟨λd hd=>h d (KG (List.mem_reverse.1 (KH hd))),by grind,by grind,λz=>absurd (by rw[z];rfl) q,λd hd=>H4 hd⟩
def afh {b:UInt8}(h:pP b=true):0<=Cq b/\Cq b<=9:=by
 unfold pP at h;simp only[abw,Nat.ble_eq] at h;unfold Cq;have:IntKind.u8.wrap ((b.toNat:Int)-48)=(b.toNat:Int)-48:=by
  simp only[IntKind.wrap,IntKind.bits,IntKind.signed];simp;omega
 omega
def akR {s:ζ}{i}(h:nC (s.extract 0 i)=true):Dg (yV (yA s i)):=by
 intro d hd;unfold yV at hd;obtain⟨b,hb,rfl⟩:=List.mem_map.1 hd;refine afh ?_;unfold yA at hb;unfold nC at h;generalize (s.extract 0 i).data.toList=l at h hb;simp only[abw,al1] at h;cases l with
 |nil=>simp[Lib.trimPrefix] at hb
 |cons a r=>
  by_cases ha:a=45
  .subst ha;cases r with
   |nil=>exact absurd (h.2 45 (by simp)) (by decide)
   |cons c r=>exact h.2 b (by simpa[Lib.trimPrefix,Lib.hasPrefix] using hb)
  .refine h.2 b ?_;rw[AT (by simpa using λ_=>ha)];simpa[Lib.trimPrefix,Lib.hasPrefix,Ne.symm ha] using hb
def Ct {s:ζ}(h:Cr s=true):II (sr s)/\UI (sr s).1 (sr s).2.1 (sr s).2.2=s:=by
 unfold Cr at h;unfold sr;split at h
 .cases h
 split at h
 .cases h
 rename_i ho;split at h
 .cases h
 split at h
 .rename_i e he;unfold UJ akv at h;rw[abw] at h;obtain⟨q1,q2⟩:=h;have q1:=anl q1;have q2:=kS q2;refine⟨?_,q2⟩;unfold numOf at q1⊢;exact XP (akR (by simpa using ho)) q1
 .cases h
def My:CM (λs=>Cr s=true) E4:=
 ((afg.on sr).sub λs h=>(Ct h).1).congr λs t hs ht=>by
  unfold E4;rw[hs,ht];rfl
def Qq {s t:ζ}(hs:Cr s=true)(ht:Cr t=true)(e:E4 s t=0):s=t:=by
 unfold E4 at e;rw[hs,ht] at e;have:=XO (Ct hs).1 (Ct ht).1 e;rw[<-(Ct hs).2,<-(Ct ht).2,this]
end Go.Sh
namespace Go.Sh
open Ieee Go Go.Ago
def E6 (b:Int):Datum->Int
 |.number s m i=>signed s m (i-b).toNat
 |_=>0
def Cu:Datum->Int
 |.infinity s=>if s then -1 else 1
 |_=>0
def plD:Datum->Int
 |.number _ _ i=>i
 |_=>0
def LR (d:Datum):Bool:=match d with
 |.nan ..=>true
 |_=>false
def XQ (s m u k):signed s m (u+k)=signed s m u*2^k:=by
 unfold signed;rw[an8,an8,Nat.pow_add];split<;>simp[Int.natCast_mul,Int.natCast_pow,Int.mul_assoc,Int.neg_mul]
def Mz {b c:Int}{d}(h:c<=b)(hb:b<=plD d\/Cu d≠0\/LR d=true):E6 c d=E6 b d*2^(b-c).toNat:=by
 cases d with
 |number s m i=>
  simp[plD,Cu,LR] at hb;simp only[E6];rw[show (i-c).toNat=(i-b).toNat+(b-c).toNat by omega,XQ]
 |infinity s=>simp[E6]
 |nan s t=>simp[E6]
def am4 (b:Int)(d e:Datum):Ordering:=if Cu d≠Cu e then compare (Cu d) (Cu e) else compare (E6 b d) (E6 b e)
def afi (x y:Int)(k:Nat):compare (x*2^k) (y*2^k)=compare x y:=by
 have hp:(0:Int)<2^k:=Int.pow_pos (by omega);simp only[compare,compareOfLessAndEq];have h1:x*2^k<y*2^k↔x<y:=⟨λh=>Int.lt_of_mul_lt_mul_right h (aqb hp),λh=>Int.mul_lt_mul_of_pos_right h hp⟩;have h2:x*2^k=y*2^k↔x=y:=⟨λh=>Int.eq_of_mul_eq_mul_right (by omega) h,λh=>by rw[h]⟩;simp only[h1,h2]
def abp {d e:Datum}{b:Int}(hd:LR d=false)(he:LR e=false)(pd:b<=plD d\/Cu d≠0)(pe:b<=plD e\/Cu e≠0):d.order e=some (am4 b d e):=by
 cases d with
 |nan=>simp[LR] at hd
 |infinity s=>
  cases e with
  |nan=>simp[LR] at he
  |infinity t=>cases s<;>cases t<;>rfl
  |number t n j=>cases s<;>rfl
 |number s m i=>
  cases e with
  |nan=>simp[LR] at he
  |infinity t=>cases t<;>rfl
  |number t n j=>
   simp[plD,Cu] at pd pe;unfold am4 Datum.order;simp only[Cu,ne_eq,aio,afM];rw[Mz (b:=min i j) (c:=b) (by omega) (.inl (by simp only[plD];omega)),Mz (b:=min i j) (c:=b) (d:=.number t n j) (by omega) (.inl (by simp only[plD];omega)),afi];rfl
def MA (f:Format) x:LR (f.read x)=true\/f.leastPlace<=plD (f.read x)\/Cu (f.read x)≠0:=by
 unfold Format.read;simp only;split
 .exact .inr (.inl (by simp[plD]))
 split
 .exact .inr (.inl (by simp only[plD];omega))
 split
 .exact .inr (.inr (by simp only[Cu];split<;>omega))
 .exact .inl rfl
def fN (x:Nat):Prop:=LR (Go.FloatKind.f64.format.read x)=false
noncomputable def fB:Int:=Go.FloatKind.f64.format.leastPlace
noncomputable def fD (x:Nat):Int:=Cu (Go.FloatKind.f64.format.read x)
noncomputable def fV (x:Nat):Int:=E6 fB (Go.FloatKind.f64.format.read x)
def afj {x y}(hx:fN x)(hy:fN y):Go.FloatKind.f64.format.order x y=some (if fD x≠fD y then compare (fD x) (fD y) else compare (fV x) (fV y)):=by
 have px:=MA Go.FloatKind.f64.format x;have py:=MA Go.FloatKind.f64.format y;unfold fN at hx hy;rw[hx] at px;rw[hy] at py;exact abp hx hy (px.resolve_left (by simp)) (py.resolve_left (by simp))
def AU (x y:Nat):Int:=if Go.Ago.Yw x y then -1 else if Go.Ago.Q9 x y then 1 else 0
def Qr {x y}(hx:fN x)(hy:fN y):AU x y=if (if fD x<fD y then (-1:Int) else if fD y<fD x then 1 else 0)≠0 then (if fD x<fD y then (-1:Int) else if fD y<fD x then 1 else 0) else if fV x<fV y then -1 else if fV y<fV x then 1 else 0:=by
 unfold AU Go.Ago.Yw Go.Ago.Q9;rw[afj hx hy];have c1:∀a b:Int,compare a b=Ordering.lt↔a<b:=λa b=>by simp only[compare,compareOfLessAndEq];grind
 have c2:∀a b:Int,compare a b=Ordering.gt↔b<a:=λa b=>by simp only[compare,compareOfLessAndEq];grind
 have s:∀o p:Ordering,(some o==some p)=true↔o=p:=λo p=>by cases o<;>cases p<;>decide
 simp only[s];by_cases h:fD x=fD y
 .simp only[ne_eq,h,aio,afM,c1,c2]
  grind
 .simp only[ne_eq,h,not_false_eq_true,amt,c1,c2]
  grind
def abq:CM fN AU:=
 ((CM.num.on (S:=λ_=>True) fD).sub (S':=fN) (λ_ _=>trivial) |>.lex (c':=λx y=>if fV x<fV y then -1 else if fV y<fV x then 1 else 0) λa _=>(CM.num.on (S:=λ_=>True) fV).sub λ_ _=>trivial).congr λx y hx hy=>(Qr hx hy).symm
def Tf {x y}(hx:fN x)(hy:fN y)(h:AU x y=0):fD x=fD y/\fV x=fV y:=by
 rw[Qr hx hy] at h
 grind
def KI {x}:Go.Ago.AH x x=true↔fN x:=by
 unfold fN Go.Ago.AH Format.order;cases Go.FloatKind.f64.format.read x with
 |number s m i=>simp[LR,Datum.order]
 |infinity s=>simp[LR,Datum.order]
 |nan s t=>simp[LR,Datum.order]
end Go.Sh
namespace Go.Sh
open Go Go.Ago Go.Proofs
def Qs {a b:UInt8}(h:pP a=true)(h':pP b=true)(e:Cq a=Cq b):a=b:=by
 unfold pP at h h';simp only[abw,Nat.ble_eq] at h h';unfold Cq at e;have w:∀c:UInt8,48<=c.toNat->c.toNat<=57->IntKind.u8.wrap ((c.toNat:Int)-48)=(c.toNat:Int)-48:=λc _ _=>by
  simp only[IntKind.wrap,IntKind.bits,IntKind.signed];simp;omega
 rw[w a h.1 h.2,w b h'.1 h'.2] at e;exact UInt8.toNat_inj.1 (by omega)
def U9:∀{l m:List UInt8},l.all pP=true->m.all pP=true->l.map Cq=m.map Cq->l=m
 |[],[],_,_,_=>rfl
 |[],_::_,_,_,h=>by simp at h
 |_::_,[],_,_,h=>by simp at h
 |a::l,b::m,h,h',e=>by
  simp only[aoK,abw] at h h';simp only[acW,apN] at e;rw[Qs h.1 h'.1 e.1,U9 h.2 h'.2 e.2]
def XR {a:UInt8}(h:pP a=true)(e:Cq a=0):a=48:=Qs h (by decide) (e.trans (by decide))
def Ht {t:ζ}{a r}(ht:t.data.toList=a::r)(hd:(a::r).all pP=true)(ha:a≠48):EW t=((a::r).map Cq).reverse:=by
 have hs:t.size=r.length+1:=by
  have:t.size=t.data.toList.length:=rfl;rw[this,ht];rfl
 unfold EW yV;rw[ht,hs];have h0:Cq a≠0:=λe=>ha (XR (by simp only[aoK,abw] at hd;exact hd.1) e);have k:D3 ((a::r).map Cq).reverse (r.length+1)=r.length+1:=by
  unfold D3;rw[AT];simp only[acW,List.reverse_cons];rw[agj (by simp)];simpa using h0
 rw[k];exact al4 (by simp)
def MC {t:ζ}(ht:t.data.toList=[48]):EW t=[]:=by
 have hs:t.size=1:=by
  have:t.size=t.data.toList.length:=rfl;rw[this,ht];rfl
 unfold EW yV;rw[ht,hs];decide
def KJ {s:ζ}(h:nC s=true):∃a r,(wN s).2.data.toList=a::r/\(a::r).all pP=true/\(a=48->r=[]/\(wN s).1=false)/\s.data.toList=if (wN s).1 then 45::a::r else a::r:=by
 have hs:s.size=s.data.toList.length:=rfl;unfold nC at h;unfold wN;simp only[abw,aca] at h;by_cases c:1<s.size/\s.data.toList.head?=some 45
 .rw[By c];rw[hs] at c;rw[By c] at h;have e:(s.extract 1 s.size).data.toList=s.data.toList.tail:=by
   rw[hs];simp[aoD,List.extract_eq_drop_take,al4]
  simp only[e,amt];generalize s.data.toList=l at h c;cases l with
  |nil=>simp at c
  |cons x l=>
   cases l with
   |nil=>simp at c
   |cons a r=>
    simp only[List.head?_cons,acU] at c;refine⟨a,r,rfl,h.2,λq=>absurd ?_ h.1.2.2,by rw[c.2]⟩;simp[q]
 .rw[AT c];rw[hs] at c;rw[AT c] at h;simp only[aft,afM,and_true];generalize s.data.toList=l at h c;cases l with
  |nil=>exact absurd rfl h.1.1
  |cons a r=>
   refine⟨a,r,rfl,h.2,λq=>?_,rfl⟩;subst q;cases r with
   |nil=>rfl
   |cons b r=>exact absurd (by simp) h.1.2.2
def XS {s t:ζ}(hs:nC s=true)(ht:nC t=true)(e:Tc s t=0):s=t:=by
 unfold Tc at e;rw[hs,ht] at e;have e:=Te (by simpa using e);obtain⟨a,r,p1,p2,p3,p4⟩:=KJ hs;obtain⟨b,q,q1,q2,q3,q4⟩:=KJ ht;simp only[aof] at e;refine aoJ (Array.toList_inj.1 ?_);rw[p4,q4,e.1];have key:a::r=b::q:=by
  by_cases ha:a=48
  .obtain⟨rfl,_⟩:=p3 ha;subst ha;rw[MC p1] at e;by_cases hb:b=48
   .obtain⟨rfl,_⟩:=q3 hb;rw[hb]
   .rw[Ht q1 q2 hb] at e;simp at e
  .rw[Ht p1 p2 ha] at e;by_cases hb:b=48
   .obtain⟨rfl,_⟩:=q3 hb;subst hb;rw[MC q1] at e;simp at e
   .rw[Ht q1 q2 hb] at e;exact U9 p2 q2 (List.reverse_inj.1 e.2)
 rw[key]
end Go.Sh
namespace Go.Sh
open Go Go.Ago Go.Proofs
def cU (a b:UInt8):Int:=if a<b then -1 else if b<a then 1 else 0
def am5:CM (λ_=>True) cU:=(CM.num.on (S:=λ_=>True) λa:UInt8=>(a.toNat:Int)).congr λa b _ _=>by
 unfold cU;simp only[apU,Int.ofNat_lt]
def NZ:∀l m:List UInt8,Lib.compareBytes l m=rv cU l m
 |[],[]=>rfl
 |[],_::_=>rfl
 |_::_,[]=>rfl
 |a::l,b::m=>by
  unfold Lib.compareBytes rv;rw[NZ l m];unfold cU;split
  .simp
  .split<;>simp
def Va:CM (λ_=>True) Nz:=((am5.row.on λs:ζ=>s.data.toList).sub λ_ _ _ _=>trivial).congr λs t _ _=>by
 unfold Nz;rw[Lib.cmp_eq,NZ]
def XT {s t:ζ}(h:Nz s t=0):s=t:=by
 unfold Nz at h;rw[Lib.cmp_eq,NZ] at h;refine aoJ (Array.toList_inj.1 (Mt (S:=λ_=>True) (λa b _ _ e=>?_) _ _ (λ_ _=>trivial) (λ_ _=>trivial) h));unfold cU at e;split at e
 .cases e
 split at e
 .cases e
 .rename_i h1 h2;simp only[apU] at h1 h2;exact UInt8.toNat_inj.1 (by omega)
abbrev DI:ζ:=ofBytes [110,97,110]
abbrev nzS:ζ:=ofBytes [45,48,112,48]
def FlO (s:ζ):Prop:=(oV s).2=true/\(s≠DI->fN (oV s).1)
def FlE:Prop:=∀s t,FlO s->FlO t->s≠DI->t≠DI->AU (oV s).1 (oV t).1=0->s=t\/(s=nzS↔t≠nzS)
def Q4 (s:ζ):Int:=if s=DI then 1 else 0
def Vb (s:ζ):Int:=if s=nzS then 0 else 1
noncomputable def abr (s t:ζ):Int:=if s=DI then 0 else if AU (oV s).1 (oV t).1≠0 then AU (oV s).1 (oV t).1 else if Vb s<Vb t then -1 else if Vb t<Vb s then 1 else 0
noncomputable def abt (s t:ζ):Int:=if (if Q4 s<Q4 t then (-1:Int) else if Q4 t<Q4 s then 1 else 0)≠0 then (if Q4 s<Q4 t then (-1:Int) else if Q4 t<Q4 s then 1 else 0) else abr s t
def Qt:CM FlO abt:=
 (CM.num.on (S:=λ_=>True) Q4).sub (S':=FlO) (λ_ _=>trivial) |>.lex (c':=abr) λa ha=>by
  by_cases n:a=DI
  .refine CM.zero.congr λs t hs ht=>?_;have:s=DI:=by
    have:=hs.2;unfold Q4 at this
    grind
   unfold abr;rw[By this]
  .have ne:∀s,(FlO s/\(if Q4 a<Q4 s then (-1:Int) else if Q4 s<Q4 a then 1 else 0)=0)->s≠DI:=λs hs=>by
    have:=hs.2;unfold Q4 at this
    grind
   refine CM.congr (c:=λs t=>if AU (oV s).1 (oV t).1≠0 then AU (oV s).1 (oV t).1 else if Vb s<Vb t then -1 else if Vb t<Vb s then 1 else 0) ?_ λs t hs ht=>by
    unfold abr;rw[AT (ne s hs)]
   exact ((abq.on λs=>(oV s).1).sub λs hs=>hs.1.2 (ne s hs)).lex (c':=λs t=>if Vb s<Vb t then -1 else if Vb t<Vb s then 1 else 0) λ_ _=>(CM.num.on (S:=λ_=>True) Vb).sub λ_ _=>trivial
structure SK (k:Int) (s:ζ):Prop where
 i:k=2->nC s=true
 d:k=3->Cr s=true
 f:k=4->FlO s
def CR {a b:ζ}:qk a b=true↔a=b:=⟨kS,λe=>by grind [sM]⟩
def CT {k s}:vc k s s=0:=by
 unfold vc;rw[By (CR.2 rfl)]
def abu (hF:FlE){s t}(hs:FlO s)(ht:FlO t):vc 4 s t=abt s t:=by
 by_cases e:s=t
 .subst e;rw[CT,Qt.rf hs]
 .unfold vc abt abr Q4;rw[AT (λq=>e (CR.1 q)),AT (by omega),AT (by omega),By rfl];simp only[CR];by_cases n:s=DI
  .have m:t≠DI:=λq=>e (n.trans q.symm);simp[n,m]
  .rw[AT n,AT n];by_cases m:t=DI
   .rw[By m,By m];simp
   .rw[AT m,AT m];have c:(Qm s t).1=AU (oV s).1 (oV t).1:=by
     unfold Qm AU;rw[hs.1,ht.1,KI.2 (hs.2 n),KI.2 (ht.2 m)];simp only[Bool.true_eq_false,afM];split
     .rfl
     .split<;>rfl
    rw[c];simp only[Int.lt_irrefl,afM,ne_eq,aio];by_cases z:AU (oV s).1 (oV t).1=0
    .have:=(hF s t hs ht n m z).resolve_left e;unfold Vb
     grind
    .simp[n,z]
def Vc {k:Int}{s t}(h2:k≠2)(h3:k≠3)(h4:k≠4):vc k s t=Nz s t:=by
 by_cases e:s=t
 .subst e;rw[CT,Va.rf trivial]
 .unfold vc;rw[AT (λq=>e (CR.1 q)),AT h2,AT h3,AT h4]
def afl (hF:FlE)(k:Int):CM (SK k) (vc k):=by
 by_cases h2:k=2
 .refine (U2.sub (S':=SK k) λs h=>h.i h2).congr λs t hs ht=>?_;by_cases e:s=t
  .subst e;rw[CT,U2.rf (hs.i h2)]
  .unfold vc;rw[AT (λq=>e (CR.1 q)),By h2]
 by_cases h3:k=3
 .refine (My.sub (S':=SK k) λs h=>h.d h3).congr λs t hs ht=>?_;by_cases e:s=t
  .subst e;rw[CT,My.rf (hs.d h3)]
  .unfold vc;rw[AT (λq=>e (CR.1 q)),AT h2,By h3]
 by_cases h4:k=4
 .subst h4;exact (Qt.sub λs h=>h.f rfl).congr λs t hs ht=>(abu hF (hs.f rfl) (ht.f rfl)).symm
 .exact (Va.sub λ_ _=>trivial).congr λs t _ _=>(Vc h2 h3 h4).symm
def XU {k:Int}{s t}(hs:SK k s)(ht:SK k t)(h:vc k s t=0):s=t:=by
 by_cases h2:k=2
 .unfold vc at h;split at h
  .rename_i e;exact kS e
  .exact XS (hs.i h2) (ht.i h2) h
 by_cases h3:k=3
 .unfold vc at h;split at h
  .rename_i e;exact kS e
  .exact Qq (hs.d h3) (ht.d h3) h
 by_cases h4:k=4
 .unfold vc at h;split at h
  .rename_i e;exact kS e
  .grind
 .exact XT ((Vc h2 h3 h4).symm.trans h)
end Go.Sh
