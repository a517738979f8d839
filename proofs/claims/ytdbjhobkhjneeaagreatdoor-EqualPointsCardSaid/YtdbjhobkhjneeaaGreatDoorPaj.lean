
import Derived.Test.YtdbjhobkhjneeaaGreatDoorPag
set_option linter.all false
namespace Go.Sh
open Go Go.Ago
structure CM {α:Type} (S:α->Prop) (c:α->α->Int):Prop where
 an:∀a b,S a->S b->(c a b<0↔0<c b a)
 tr:∀a b d,S a->S b->S d->c a b<=0->c b d<=0->c a d<=0
section
variable {α β:Type}{S S':α->Prop}{c c':α->α->Int}
def CM.rf (h:CM S c){a}(x:S a):c a a=0:=by have:=h.an a a x x;omega
def CM.z (h:CM S c){a b}(x:S a)(y:S b):c a b=0↔c b a=0:=by have:=h.an a b x y;have:=h.an b a y x;omega
def CM.le (h:CM S c){a b}(x:S a)(y:S b):c a b<=0↔0<=c b a:=by have:=h.an a b x y;have:=h.an b a y x;omega
def CM.lt (h:CM S c){a b d}(x:S a)(y:S b)(z:S d)(p:c a b<0)(q:c b d<=0):c a d<0:=by
 have:=h.tr d a b z x y;have:=h.tr b d a y z x q;have:=h.le z x;have:=h.an a b x y;omega
def CM.lt' (h:CM S c){a b d}(x:S a)(y:S b)(z:S d)(p:c a b<=0)(q:c b d<0):c a d<0:=by
 have:=h.tr d a b z x y;have:=h.le z x;have:=h.an b d y z;omega
def CM.zt (h:CM S c){a b d}(x:S a)(y:S b)(z:S d)(p:c a b=0)(q:c b d=0):c a d=0:=by
 have:=h.tr a b d x y z (by omega) (by omega);have:=h.tr d b a z y x (by have:=h.z y z;omega) (by have:=h.z x y;omega);have:=h.le z x;omega
def CM.on (h:CM S c)(f:β->α):CM (λb=>S (f b)) (λa b=>c (f a) (f b)):=
 ⟨λa b=>h.an _ _,λa b d=>h.tr _ _ _⟩
def CM.sub (h:CM S c)(s:∀a,S' a->S a):CM S' c:=⟨λa b x y=>h.an a b (s a x) (s b y),λa b d x y z=>h.tr a b d (s a x) (s b y) (s d z)⟩
def CM.congr (h:CM S c)(e:∀a b,S a->S b->c a b=c' a b):CM S c':=
 ⟨λa b x y=>by rw[<-e a b x y,<-e b a y x];exact h.an a b x y,λa b d x y z=>by rw[<-e a b x y,<-e b d y z,<-e a d x z];exact h.tr a b d x y z⟩
theorem CM.lex (h:CM S c)(h':∀a,S a->CM (λb=>S b/\c a b=0) c'):CM S (λa b=>if c a b≠0 then c a b else c' a b):=by
 have k:∀a b,S a->S b->c a b=0->(c' a b<0↔0<c' b a):=λa b x y e=>(h' a x).an a b ⟨x,h.rf x⟩ ⟨y,e⟩;refine⟨λa b x y=>?_,λa b d x y z p q=>?_⟩
 .have:=h.z x y;have:=h.an a b x y;have:=k a b x y
  grind
 .have t1:=h.tr a b d x y z;have t2:=h.lt x y z;have t3:=h.lt' x y z;have t4:=h.zt x y z;by_cases e1:c a b=0<;>by_cases e2:c b d=0
  .have t5:=(h' a x).tr a b d ⟨x,h.rf x⟩ ⟨y,e1⟩ ⟨z,t4 e1 e2⟩
   grind
  .grind
  .grind
  .grind
theorem CM.num {S:Int->Prop}:CM S (λa b:Int=>if a<b then -1 else if b<a then 1 else 0):=⟨λa b _ _=>by grind,λa b d _ _ _=>by grind⟩
def CM.zero:CM S (λ_ _=>0):=⟨λa b _ _=>by simp,λa b d _ _ _=>by simp⟩
def qG (c:α->α->Int):List α->List α->Int
 |[],[]=>0
 |[],_::_=>-1
 |_::_,[]=>1
 |a::l,b::m=>if c a b≠0 then c a b else qG c l m
theorem CM.row (h:CM S c):CM (λl=>∀a∈l,S a) (qG c):=by
 refine⟨?_,?_⟩
 .intro l
  induction l with
  |nil=>intro m;cases m<;>simp[qG]
  |cons a l ih=>
   intro m x y;cases m with
   |nil=>simp[qG]
   |cons b m=>
    simp only[anC] at x y;have:=ih m x.2 y.2;have:=h.an a b x.1 y.1;have:=h.z x.1 y.1
    grind [qG]
 .intro l
  induction l with
  |nil=>intro m n;cases m<;>cases n<;>simp[qG]
  |cons a l ih=>
   intro m n x y z;cases m with
   |nil=>simp[qG]
   |cons b m=>
    cases n with
    |nil=>simp[qG]
    |cons d n=>
     simp only[anC] at x y z;have:=ih m n x.2 y.2 z.2;have:=h.tr a b d x.1 y.1 z.1;have:=h.lt x.1 y.1 z.1;have:=h.lt' x.1 y.1 z.1;have:=h.zt x.1 y.1 z.1
     grind [qG]
theorem Kx (hz:∀a b,S a->S b->c a b=0->a=b):∀l m:List α,(∀a∈l,S a)->(∀a∈m,S a)->qG c l m=0->l=m
 |[],[],_,_,_=>rfl
 |[],_::_,_,_,e=>by simp[qG] at e
 |_::_,[],_,_,e=>by simp[qG] at e
 |a::l,b::m,x,y,e=>by
  simp only[anC] at x y;have:=Kx hz l m x.2 y.2;have:=hz a b x.1 y.1
  grind [qG]
end
end Go.Sh
namespace Go.Sh
open Go Go.Ago Go.Proofs
def Ky:∀k,CM (λ_:ε=>True) (λD E=>uj D E k)
 |0=>CM.zero
 |k+1=>((CM.num.on (S:=λ_=>True) (λD:ε=>D.getD k 0)).lex (c':=λD E=>uj D E k) λa _=>(Ky k).sub λ_ _=>trivial).congr λa b _ _=>by
  have e:uj a b (k+1)=if a.getD k 0=b.getD k 0 then uj a b k else if a.getD k 0<b.getD k 0 then -1 else 1:=rfl;simp only[e];generalize uj a b k=c
  grind
def Gc:∀{k} {D E:ε},uj D E k=0->∀i,i<k->D.getD i 0=E.getD i 0
 |0,_,_,_,i,h=>by omega
 |k+1,D,E,e,i,h=>by
  unfold uj at e;split at e
  .rename_i q;by_cases hi:i=k
   .subst hi;exact q
   .exact Gc e i (by omega)
  .grind
def Pg {D E:ε}(hl:D.length=E.length)(h:∀i,i<D.length->D.getD i 0=E.getD i 0):D=E:=by
 refine List.ext_getElem hl λi h1 h2=>?_;have:=h i h1;simpa[agl,h1,h2] using this
def aaM:CM (λ_:ε=>True) Ga:=
 ((CM.num.on (S:=λ_=>True) (λD:ε=>(D.length:Int))).lex (c':=λD E=>uj D E D.length) λa _=>
  ((Ky a.length).sub (S':=λb=>True/\(if (a.length:Int)<(b.length:Int) then (-1:Int) else if (b.length:Int)<(a.length:Int) then 1 else 0)=0) λ_ _=>trivial).congr λb d hb hd=>by
   have:b.length=a.length:=by grind
   rw[this]).congr λa b _ _=>by
  unfold Ga
  grind
def IW {D E:ε}(e:Ga D E=0):D=E:=by
 unfold Ga at e;split at e
 .grind
 .rename_i h;exact Pg (by omega) (Gc e)
def aaN:CM (λ_:Bool×ε=>True) Et:=by
 have h1:=aaM;refine⟨λa b _ _=>?_,λa b d _ _ _=>?_⟩
 .have:=h1.an a.2 b.2 trivial trivial;have:=h1.an b.2 a.2 trivial trivial;unfold Et
  grind
 .have:=h1.tr a.2 b.2 d.2 trivial trivial trivial;have:=h1.tr d.2 b.2 a.2 trivial trivial trivial;unfold Et
  grind
def RC {x y:Bool×ε}(e:Et x y=0):x=y:=by
 unfold Et at e;have:=@IW x.2 y.2;have:=@IW y.2 x.2;obtain⟨x1,x2⟩:=x;obtain⟨y1,y2⟩:=y
 grind
def TF:CM (λs=>lj s=true) Rq:=
 ((aaN.on λs=>((vK s).1,Ds (vK s).2)).sub λ_ _=>trivial).congr λs t hs ht=>by
  unfold Rq;rw[hs,ht];rfl
end Go.Sh
namespace Go.Sh
open Go Go.Ago Go.Proofs
def CM.dif {S:Int->Prop}:CM S (λa b:Int=>a-b):=⟨λa b _ _=>by omega,λa b d _ _ _=>by omega⟩
structure GL (N:Bool×ε×Int):Prop where
 dg:∀d∈N.2.1,0<=d/\d<=9
 le:N.2.1.length<=400
 ex:-2000<=N.2.2/\N.2.2<=2000
 ze:N.2.1=[]->N.1=false/\N.2.2=0
 la:∀d,N.2.1.getLast?=some d->d≠0
def TG {D:ε}(h:∀d∈D,0<=d/\d<=9) i:0<=D.getD i 0/\D.getD i 0<=9:=by
 rw[agl];cases e:D[i]? with
 |none=>simp
 |some d=>exact h d (IN e)
def TH {D E:ε}(h:∀d∈D,0<=d/\d<=9)(h':∀d∈E,0<=d/\d<=9) i:IG D E i=D.getD i 0-E.getD i 0:=by
 have:=TG h i;have:=TG h' i;unfold IG wi;rw[tH (x:=D.getD i 0) (by omega) (by omega),tH (x:=E.getD i 0) (by omega) (by omega),tH (by omega) (by omega)]
abbrev Dg (D:ε):Prop:=∀d∈D,0<=d/\d<=9
def TK:∀k i,CM Dg (λD E=>vM D E k i)
 |0,i=>CM.zero
 |k+1,i=>((CM.dif.on (S:=λ_=>True) (λD:ε=>D.getD i 0)).sub (S':=Dg) (λ_ _=>trivial) |>.lex (c':=λD E=>vM D E k (i+1)) λa _=>(TK k (i+1)).sub λ_ h=>h.1).congr λa b ha hb=>by
  have e:vM a b (k+1) i=if IG a b i=0 then vM a b k (i+1) else IG a b i:=rfl;simp only[e,TH ha hb];generalize vM a b k (i+1)=c
  grind
def Kz {D E:ε}(h:Dg D)(h':Dg E):∀{k i},vM D E k i=0->∀j,i<=j->j<i+k->D.getD j 0=E.getD j 0
 |0,i,_,j,a,b=>by omega
 |k+1,i,e,j,a,b=>by
  unfold vM at e;rw[TH h h'] at e;split at e
  .rename_i q;by_cases hj:j=i
   .subst hj;omega
   .exact Kz h h' e j (by omega) (by omega)
  .omega
def IX {D E:ε}:∀k i,D.length<=i->E.length<=i->vM D E k i=0
 |0,i,_,_=>rfl
 |k+1,i,a,b=>by
  have:IG D E i=0:=by
   unfold IG;rw[agl,agl,agW a,agW b];rfl
  unfold vM;rw[By this];exact IX k (i+1) (by omega) (by omega)
def KA {D E:ε}:∀k m i,D.length<=i+k->E.length<=i+k->k<=m->vM D E m i=vM D E k i
 |0,m,i,a,b,_=>by rw[IX m i (by omega) (by omega)];rfl
 |k+1,m+1,i,a,b,c=>by
  unfold vM;rw[KA k m (i+1) (by omega) (by omega) (by omega)]
 |k+1,0,i,a,b,c=>by omega
def Ph (N:Bool×ε×Int):Int:=if N.2.1=[] then -5000 else N.2.1.length+N.2.2
def DE (K:Nat)(N M:Bool×ε×Int):Int:=if Ph N-Ph M≠0 then Ph N-Ph M else vM N.2.1 M.2.1 K 0
section
variable {K:Nat}{N M:Bool×ε×Int}
theorem aek:CM GL (DE K):=
 (CM.dif.on (S:=λ_=>True) Ph).sub (S':=GL) (λ_ _=>trivial) |>.lex (c':=λN M:Bool×ε×Int=>vM N.2.1 M.2.1 K 0) λa _=>((TK K 0).on λN:Bool×ε×Int=>N.2.1).sub λb h=>h.1.dg
theorem G8 {n e}:Ph (n,[],e)=-5000:=rfl
def yE {n D e}(h:D≠[]):Ph (n,D,e)=(D.length:Int)+e:=AT h
def KB {x:Int}(h:-9223372036854775808<=x)(h':x<9223372036854775808):wi x=x:=tH h (by omega)
def TM {x:Int}(h:x<0):Ko x=-1:=By h
def TN {x:Int}(h:0<x):Ko x=1:=by unfold Ko;rw[AT (by omega),By h]
theorem ael (hK:400<=K)(h:GL N)(h':GL M):Ko (GK N.2.1 N.2.2 M.2.1 M.2.2)=Ko (DE K N M):=by
 obtain⟨n,D,e⟩:=N;obtain⟨m,E,f⟩:=M;obtain⟨a1,a2,a3,a4,_⟩:=h;obtain⟨b1,b2,b3,b4,_⟩:=h';simp only at a1 a2 a3 a4 b1 b2 b3 b4;show Ko (GK D e E f)=Ko (if Ph (n,D,e)-Ph (m,E,f)≠0 then Ph (n,D,e)-Ph (m,E,f) else vM D E K 0);by_cases d0:D=[]
 .subst d0;by_cases e0:E=[]
  .subst e0;rw[G8,G8,AT (by omega),IX K 0 (by simp) (by simp)];rfl
  .have l2:0<E.length:=List.length_pos_iff.2 e0;have hp:GK [] e E f=-(E.length:Int):=by
    unfold GK;rw[By (show ([]:ε).length=0 from rfl),KB (by simp;omega) (by simp;omega)];simp
   rw[G8,yE e0,By (by omega),hp,TM (by omega),TM (by omega)]
 .have l1:0<D.length:=List.length_pos_iff.2 d0;by_cases e0:E=[]
  .subst e0;have hp:GK D e [] f=(D.length:Int):=by
    unfold GK;rw[AT (by omega),By (show ([]:ε).length=0 from rfl),KB (by grind) (by grind)];simp
   rw[G8,yE d0,By (by omega),hp,TN (by omega),TN (by omega)]
  .have l2:0<E.length:=List.length_pos_iff.2 e0;have t:wi (wi (wi (D.length+e)-E.length)-f)=D.length+e-(E.length+f):=by
    rw[KB (x:=(D.length:Int)+e) (by omega) (by omega),KB (x:=(D.length:Int)+e-E.length) (by omega) (by omega),KB (by omega) (by omega)];omega
   unfold GK;rw[yE d0,yE e0,AT (by omega),AT (by omega),t];by_cases q:(D.length:Int)+e-(E.length+f)=0
   .rw[By q,AT (by omega),KA (max D.length E.length) K 0 (by omega) (by omega) (by omega)]
   .rw[AT q,By q]
theorem zF {x:Int}:(Ko x<0↔x<0)/\(0<Ko x↔0<x)/\-1<=Ko x/\Ko x<=1:=by unfold Ko;grind
def TO (hK:400<=K)(h:GL N)(h':GL M):Rr N M=if N.1≠M.1 then (if N.1 then -1 else 1) else if N.1 then 0-Ko (DE K N M) else Ko (DE K N M):=by
 unfold Rr;rw[ael hK h h'];have:=@zF (DE K N M);rw[KB (by omega) (by omega)]
theorem aem:CM GL Rr:=by
 obtain⟨K,hK⟩:∃K:Nat,400<=K:=⟨400,aa2 _⟩;have h1:CM GL (DE K):=aek;refine CM.congr (c:=λN M=>if N.1≠M.1 then (if N.1 then -1 else 1) else if N.1 then 0-Ko (DE K N M) else Ko (DE K N M)) ⟨λa b x y=>?_,λa b d x y z=>?_⟩ λa b x y=>(TO hK x y).symm
 .have:=h1.an a b x y;have:=h1.an b a y x;have:=@zF (DE K a b);have:=@zF (DE K b a)
  grind
 .have:=h1.tr a b d x y z;have:=h1.tr d b a z y x;have:=h1.le x y;have:=h1.le y x;have:=h1.le y z;have:=h1.le z y;have:=h1.le x z;have:=h1.le z x;have:=@zF (DE K a b);have:=@zF (DE K b d);have:=@zF (DE K a d)
  grind
theorem WL (h:GL N)(h':GL M)(z:Rr N M=0):N=M:=by
 obtain⟨K,hK⟩:∃K:Nat,400<=K:=⟨400,aa2 _⟩;rw[TO hK h h'] at z;obtain⟨n,D,e⟩:=N;obtain⟨m,E,f⟩:=M;have hs:n=m:=by
  by_cases q:n=m
  .exact q
  .rw[By q] at z;grind
 subst hs;have hm:DE K (n,D,e) (n,E,f)=0:=by
  have:=@zF (DE K (n,D,e) (n,E,f))
  grind
 obtain⟨a1,a2,a3,a4,a5⟩:=h;obtain⟨b1,b2,b3,b4,b5⟩:=h';simp only at a1 a2 a3 a4 a5 b1 b2 b3 b4 b5;have hm:(if Ph (n,D,e)-Ph (n,E,f)≠0 then Ph (n,D,e)-Ph (n,E,f) else vM D E K 0)=0:=hm;by_cases hr:Ph (n,D,e)-Ph (n,E,f)=0
 .rw[AT (by omega)] at hm;have g:=λj (hj:j<K)=>Kz a1 b1 hm j (alm _) (by omega);have key:∀{X Y:ε},(∀d,Y.getLast?=some d->d≠0)->(∀j,j<K->X.getD j 0=Y.getD j 0)->Y.length<=400->Y.length<=X.length:=λ{X Y} lb g hy=>by
   refine Nat.le_of_not_lt λhlt=>?_;have hne:Y≠[]:=λq=>by rw[q] at hlt;simp at hlt
   have hl:=lb _ (amB hne);have g1:=g (Y.length-1) (by omega);rw[agl,agl,agW (by omega),<-anR,amB hne] at g1;exact hl g1.symm
  have le1:=key b5 g b2;have le2:=key a5 (λj hj=>(g j hj).symm) a2;have hD:D=E:=Pg (by omega) λi hi=>g i (by omega);subst hD;have:e=f:=by
   by_cases d0:D=[]
   .rw[(a4 d0).2,(b4 d0).2]
   .rw[yE d0,yE d0] at hr;omega
  rw[this]
 .rw[By hr] at hm;exact absurd hm hr
end
end Go.Sh
namespace Go.Sh
open Go Go.Ago Go.Proofs
def IY:∀{D:ε} {d},d∈stripL D->d∈D
 |[],d,h=>h
 |x::r,d,h=>by
  unfold stripL at h;split at h
  .exact BY _ (IY h)
  .exact h
def IZ:∀{l:ε} {e d},d∈(stripR l e).1->d∈l
 |[],e,d,h=>h
 |x::r,e,d,h=>by
  unfold stripR at h;split at h
  .exact BY _ (IZ h)
  .exact List.mem_reverse.1 h
def Gd:∀{l:ε} {e d},(stripR l e).1.getLast?=some d->d≠0
 |[],e,d,h=>by simp[stripR] at h
 |x::r,e,d,h=>by
  unfold stripR at h;split at h
  .exact Gd h
  .rename_i q;simp at h;rw[<-h];exact q
def WM {neg}{D:ε}{e}(h:Dg D)(hl:L4 (wP neg D e).2.1 (wP neg D e).2.2=0):GL (wP neg D e):=by
 unfold wP at hl⊢;split at hl<;>rename_i q
 .rw[By q];exact⟨by simp,by simp,by simp,by simp,by simp⟩
 .rw[AT q];unfold L4 at hl;simp only at hl;exact⟨λd hd=>h d (IY (List.mem_reverse.1 (IZ hd))),by grind,by grind,λz=>absurd (by rw[z];rfl) q,λd hd=>Gd hd⟩
def aen {b:UInt8}(h:nQ b=true):0<=Bj b/\Bj b<=9:=by
 unfold nQ at h;simp only[abi,Nat.ble_eq] at h;unfold Bj;have:IntKind.u8.wrap ((b.toNat:Int)-48)=(b.toNat:Int)-48:=by
  simp only[IntKind.wrap,IntKind.bits,IntKind.signed];simp;omega
 omega
def aj6 {s:ζ}{i}(h:lj (s.extract 0 i)=true):Dg (xV (xu s i)):=by
 intro d hd;unfold xV at hd;obtain⟨b,hb,rfl⟩:=List.mem_map.1 hd;refine aen ?_;unfold xu at hb;unfold lj at h;generalize (s.extract 0 i).data.toList=l at h hb;simp only[abi,akg] at h;cases l with
 |nil=>simp[Lib.trimPrefix] at hb
 |cons a r=>
  by_cases ha:a=45
  .subst ha;cases r with
   |nil=>exact absurd (h.2 45 (by simp)) (by decide)
   |cons c r=>exact h.2 b (by simpa[Lib.trimPrefix,Lib.hasPrefix] using hb)
  .refine h.2 b ?_;rw[AT (by simpa using λ_=>ha)];simpa[Lib.trimPrefix,Lib.hasPrefix,Ne.symm ha] using hb
def Br {s:ζ}(h:zw s=true):GL (rq s)/\SS (rq s).1 (rq s).2.1 (rq s).2.2=s:=by
 unfold zw at h;unfold rq;split at h
 .cases h
 split at h
 .cases h
 rename_i ho;split at h
 .cases h
 split at h
 .rename_i e he;unfold SU ai2 at h;rw[abi] at h;obtain⟨q1,q2⟩:=h;have q1:=akH q1;have q2:=iI q2;refine⟨?_,q2⟩;unfold numOf at q1⊢;exact WM (aj6 (by simpa using ho)) q1
 .cases h
def KC:CM (λs=>zw s=true) Dy:=
 ((aem.on rq).sub λs h=>(Br h).1).congr λs t hs ht=>by
  unfold Dy;rw[hs,ht];rfl
def Pj {s t:ζ}(hs:zw s=true)(ht:zw t=true)(e:Dy s t=0):s=t:=by
 unfold Dy at e;rw[hs,ht] at e;have:=WL (Br hs).1 (Br ht).1 e;rw[<-(Br hs).2,<-(Br ht).2,this]
end Go.Sh
namespace Go.Sh
open Ieee Go Go.Ago
def DG (b:Int):Datum->Int
 |.number s m i=>signed s m (i-b).toNat
 |_=>0
def Bs:Datum->Int
 |.infinity s=>if s then -1 else 1
 |_=>0
def plD:Datum->Int
 |.number _ _ i=>i
 |_=>0
def JP (d:Datum):Bool:=match d with
 |.nan ..=>true
 |_=>false
def WN (s m u k):signed s m (u+k)=signed s m u*2^k:=by
 unfold signed;rw[amW,amW,Nat.pow_add];split<;>simp[Int.natCast_mul,Int.natCast_pow,Int.mul_assoc,Int.neg_mul]
def KD {b c:Int}{d}(h:c<=b)(hb:b<=plD d\/Bs d≠0\/JP d=true):DG c d=DG b d*2^(b-c).toNat:=by
 cases d with
 |number s m i=>
  simp[plD,Bs,JP] at hb;simp only[DG];rw[show (i-c).toNat=(i-b).toNat+(b-c).toNat by omega,WN]
 |infinity s=>simp[DG]
 |nan s t=>simp[DG]
def alP (b:Int)(d e:Datum):Ordering:=if Bs d≠Bs e then compare (Bs d) (Bs e) else compare (DG b d) (DG b e)
def aeo (x y:Int)(k:Nat):compare (x*2^k) (y*2^k)=compare x y:=by
 have hp:(0:Int)<2^k:=Int.pow_pos (by omega);simp only[compare,compareOfLessAndEq];have h1:x*2^k<y*2^k↔x<y:=⟨λh=>Int.lt_of_mul_lt_mul_right h (aov hp),λh=>Int.mul_lt_mul_of_pos_right h hp⟩;have h2:x*2^k=y*2^k↔x=y:=⟨λh=>Int.eq_of_mul_eq_mul_right (by omega) h,λh=>by rw[h]⟩;simp only[h1,h2]
def aaO {d e:Datum}{b:Int}(hd:JP d=false)(he:JP e=false)(pd:b<=plD d\/Bs d≠0)(pe:b<=plD e\/Bs e≠0):d.order e=some (alP b d e):=by
 cases d with
 |nan=>simp[JP] at hd
 |infinity s=>
  cases e with
  |nan=>simp[JP] at he
  |infinity t=>cases s<;>cases t<;>rfl
  |number t n j=>cases s<;>rfl
 |number s m i=>
  cases e with
  |nan=>simp[JP] at he
  |infinity t=>cases t<;>rfl
  |number t n j=>
   simp[plD,Bs] at pd pe;unfold alP Datum.order;simp only[Bs,ne_eq,agz,aed];rw[KD (b:=min i j) (c:=b) (by omega) (.inl (by simp only[plD];omega)),KD (b:=min i j) (c:=b) (d:=.number t n j) (by omega) (.inl (by simp only[plD];omega)),aeo];rfl
def KE (f:Format) x:JP (f.read x)=true\/f.leastPlace<=plD (f.read x)\/Bs (f.read x)≠0:=by
 unfold Format.read;simp only;split
 .exact .inr (.inl (by simp[plD]))
 split
 .exact .inr (.inl (by simp only[plD];omega))
 split
 .exact .inr (.inr (by simp only[Bs];split<;>omega))
 .exact .inl rfl
def fN (x:Nat):Prop:=JP (Go.FloatKind.f64.format.read x)=false
noncomputable def fB:Int:=Go.FloatKind.f64.format.leastPlace
noncomputable def fD (x:Nat):Int:=Bs (Go.FloatKind.f64.format.read x)
noncomputable def fV (x:Nat):Int:=DG fB (Go.FloatKind.f64.format.read x)
def aep {x y}(hx:fN x)(hy:fN y):Go.FloatKind.f64.format.order x y=some (if fD x≠fD y then compare (fD x) (fD y) else compare (fV x) (fV y)):=by
 have px:=KE Go.FloatKind.f64.format x;have py:=KE Go.FloatKind.f64.format y;unfold fN at hx hy;rw[hx] at px;rw[hy] at py;exact aaO hx hy (px.resolve_left (by simp)) (py.resolve_left (by simp))
def zS (x y:Nat):Int:=if Go.Ago.Xg x y then -1 else if Go.Ago.P0 x y then 1 else 0
def Pk {x y}(hx:fN x)(hy:fN y):zS x y=if (if fD x<fD y then (-1:Int) else if fD y<fD x then 1 else 0)≠0 then (if fD x<fD y then (-1:Int) else if fD y<fD x then 1 else 0) else if fV x<fV y then -1 else if fV y<fV x then 1 else 0:=by
 unfold zS Go.Ago.Xg Go.Ago.P0;rw[aep hx hy];have c1:∀a b:Int,compare a b=Ordering.lt↔a<b:=λa b=>by simp only[compare,compareOfLessAndEq];grind
 have c2:∀a b:Int,compare a b=Ordering.gt↔b<a:=λa b=>by simp only[compare,compareOfLessAndEq];grind
 have s:∀o p:Ordering,(some o==some p)=true↔o=p:=λo p=>by cases o<;>cases p<;>decide
 simp only[s];by_cases h:fD x=fD y
 .simp only[ne_eq,h,agz,aed,c1,c2]
  grind
 .simp only[ne_eq,h,not_false_eq_true,aks,c1,c2]
  grind
def aaP:CM fN zS:=
 ((CM.num.on (S:=λ_=>True) fD).sub (S':=fN) (λ_ _=>trivial) |>.lex (c':=λx y=>if fV x<fV y then -1 else if fV y<fV x then 1 else 0) λa _=>(CM.num.on (S:=λ_=>True) fV).sub λ_ _=>trivial).congr λx y hx hy=>(Pk hx hy).symm
def RD {x y}(hx:fN x)(hy:fN y)(h:zS x y=0):fD x=fD y/\fV x=fV y:=by
 rw[Pk hx hy] at h
 grind
def I0 {x}:Go.Ago.zL x x=true↔fN x:=by
 unfold fN Go.Ago.zL Format.order;cases Go.FloatKind.f64.format.read x with
 |number s m i=>simp[JP,Datum.order]
 |infinity s=>simp[JP,Datum.order]
 |nan s t=>simp[JP,Datum.order]
end Go.Sh
namespace Go.Sh
open Go Go.Ago Go.Proofs
def Pl {a b:UInt8}(h:nQ a=true)(h':nQ b=true)(e:Bj a=Bj b):a=b:=by
 unfold nQ at h h';simp only[abi,Nat.ble_eq] at h h';unfold Bj at e;have w:∀c:UInt8,48<=c.toNat->c.toNat<=57->IntKind.u8.wrap ((c.toNat:Int)-48)=(c.toNat:Int)-48:=λc _ _=>by
  simp only[IntKind.wrap,IntKind.bits,IntKind.signed];simp;omega
 rw[w a h.1 h.2,w b h'.1 h'.2] at e;exact UInt8.toNat_inj.1 (by omega)
def TQ:∀{l m:List UInt8},l.all nQ=true->m.all nQ=true->l.map Bj=m.map Bj->l=m
 |[],[],_,_,_=>rfl
 |[],_::_,_,_,h=>by simp at h
 |_::_,[],_,_,h=>by simp at h
 |a::l,b::m,h,h',e=>by
  simp only[ano,abi] at h h';simp only[ab4,adS] at e;rw[Pl h.1 h'.1 e.1,TQ h.2 h'.2 e.2]
def WO {a:UInt8}(h:nQ a=true)(e:Bj a=0):a=48:=Pl h (by decide) (e.trans (by decide))
def FI {t:ζ}{a r}(ht:t.data.toList=a::r)(hd:(a::r).all nQ=true)(ha:a≠48):Ds t=((a::r).map Bj).reverse:=by
 have hs:t.size=r.length+1:=by
  have:t.size=t.data.toList.length:=rfl;rw[this,ht];rfl
 unfold Ds xV;rw[ht,hs];have h0:Bj a≠0:=λe=>ha (WO (by simp only[ano,abi] at hd;exact hd.1) e);have k:Ct ((a::r).map Bj).reverse (r.length+1)=r.length+1:=by
  unfold Ct;rw[AT];simp only[ab4,List.reverse_cons];rw[ai8 (by simp)];simpa using h0
 rw[k];exact ajC (by simp)
def KG {t:ζ}(ht:t.data.toList=[48]):Ds t=[]:=by
 have hs:t.size=1:=by
  have:t.size=t.data.toList.length:=rfl;rw[this,ht];rfl
 unfold Ds xV;rw[ht,hs];decide
def I1 {s:ζ}(h:lj s=true):∃a r,(vK s).2.data.toList=a::r/\(a::r).all nQ=true/\(a=48->r=[]/\(vK s).1=false)/\s.data.toList=if (vK s).1 then 45::a::r else a::r:=by
 have hs:s.size=s.data.toList.length:=rfl;unfold lj at h;unfold vK;simp only[abi,abD] at h;by_cases c:1<s.size/\s.data.toList.head?=some 45
 .rw[By c];rw[hs] at c;rw[By c] at h;have e:(s.extract 1 s.size).data.toList=s.data.toList.tail:=by
   rw[hs];simp[alC,List.extract_eq_drop_take,ajC]
  simp only[e,aks];generalize s.data.toList=l at h c;cases l with
  |nil=>simp at c
  |cons x l=>
   cases l with
   |nil=>simp at c
   |cons a r=>
    simp only[List.head?_cons,abH] at c;refine⟨a,r,rfl,h.2,λq=>absurd ?_ h.1.2.2,by rw[c.2]⟩;simp[q]
 .rw[AT c];rw[hs] at c;rw[AT c] at h;simp only[aeb,aed,and_true];generalize s.data.toList=l at h c;cases l with
  |nil=>exact absurd rfl h.1.1
  |cons a r=>
   refine⟨a,r,rfl,h.2,λq=>?_,rfl⟩;subst q;cases r with
   |nil=>rfl
   |cons b r=>exact absurd (by simp) h.1.2.2
def WQ {s t:ζ}(hs:lj s=true)(ht:lj t=true)(e:Rq s t=0):s=t:=by
 unfold Rq at e;rw[hs,ht] at e;have e:=RC (by simpa using e);obtain⟨a,r,p1,p2,p3,p4⟩:=I1 hs;obtain⟨b,q,q1,q2,q3,q4⟩:=I1 ht;simp only[amn] at e;refine amo (Array.toList_inj.1 ?_);rw[p4,q4,e.1];have key:a::r=b::q:=by
  by_cases ha:a=48
  .obtain⟨rfl,_⟩:=p3 ha;subst ha;rw[KG p1] at e;by_cases hb:b=48
   .obtain⟨rfl,_⟩:=q3 hb;rw[hb]
   .rw[FI q1 q2 hb] at e;simp at e
  .rw[FI p1 p2 ha] at e;by_cases hb:b=48
   .obtain⟨rfl,_⟩:=q3 hb;subst hb;rw[KG q1] at e;simp at e
   .rw[FI q1 q2 hb] at e;exact TQ p2 q2 (List.reverse_inj.1 e.2)
 rw[key]
end Go.Sh
namespace Go.Sh
open Go Go.Ago Go.Proofs
def cU (a b:UInt8):Int:=if a<b then -1 else if b<a then 1 else 0
def alQ:CM (λ_=>True) cU:=(CM.num.on (S:=λ_=>True) λa:UInt8=>(a.toNat:Int)).congr λa b _ _=>by
 unfold cU;simp only[aof,Int.ofNat_lt]
def MF:∀l m:List UInt8,Lib.compareBytes l m=qG cU l m
 |[],[]=>rfl
 |[],_::_=>rfl
 |_::_,[]=>rfl
 |a::l,b::m=>by
  unfold Lib.compareBytes qG;rw[MF l m];unfold cU;split
  .simp
  .split<;>simp
def TT:CM (λ_=>True) LN:=((alQ.row.on λs:ζ=>s.data.toList).sub λ_ _ _ _=>trivial).congr λs t _ _=>by
 unfold LN;rw[Lib.cmp_eq,MF]
def WR {s t:ζ}(h:LN s t=0):s=t:=by
 unfold LN at h;rw[Lib.cmp_eq,MF] at h;refine amo (Array.toList_inj.1 (Kx (S:=λ_=>True) (λa b _ _ e=>?_) _ _ (λ_ _=>trivial) (λ_ _=>trivial) h));unfold cU at e;split at e
 .cases e
 split at e
 .cases e
 .rename_i h1 h2;simp only[aof] at h1 h2;exact UInt8.toNat_inj.1 (by omega)
abbrev Ch:ζ:=ofBytes [110,97,110]
abbrev nzS:ζ:=ofBytes [45,48,112,48]
def FlO (s:ζ):Prop:=(oj s).2=true/\(s≠Ch->fN (oj s).1)
def FlE:Prop:=∀s t,FlO s->FlO t->s≠Ch->t≠Ch->zS (oj s).1 (oj t).1=0->s=t\/(s=nzS↔t≠nzS)
def PX (s:ζ):Int:=if s=Ch then 1 else 0
def TU (s:ζ):Int:=if s=nzS then 0 else 1
noncomputable def aaQ (s t:ζ):Int:=if s=Ch then 0 else if zS (oj s).1 (oj t).1≠0 then zS (oj s).1 (oj t).1 else if TU s<TU t then -1 else if TU t<TU s then 1 else 0
noncomputable def aaR (s t:ζ):Int:=if (if PX s<PX t then (-1:Int) else if PX t<PX s then 1 else 0)≠0 then (if PX s<PX t then (-1:Int) else if PX t<PX s then 1 else 0) else aaQ s t
def Pn:CM FlO aaR:=
 (CM.num.on (S:=λ_=>True) PX).sub (S':=FlO) (λ_ _=>trivial) |>.lex (c':=aaQ) λa ha=>by
  by_cases n:a=Ch
  .refine CM.zero.congr λs t hs ht=>?_;have:s=Ch:=by
    have:=hs.2;unfold PX at this
    grind
   unfold aaQ;rw[By this]
  .have ne:∀s,(FlO s/\(if PX a<PX s then (-1:Int) else if PX s<PX a then 1 else 0)=0)->s≠Ch:=λs hs=>by
    have:=hs.2;unfold PX at this
    grind
   refine CM.congr (c:=λs t=>if zS (oj s).1 (oj t).1≠0 then zS (oj s).1 (oj t).1 else if TU s<TU t then -1 else if TU t<TU s then 1 else 0) ?_ λs t hs ht=>by
    unfold aaQ;rw[AT (ne s hs)]
   exact ((aaP.on λs=>(oj s).1).sub λs hs=>hs.1.2 (ne s hs)).lex (c':=λs t=>if TU s<TU t then -1 else if TU t<TU s then 1 else 0) λ_ _=>(CM.num.on (S:=λ_=>True) TU).sub λ_ _=>trivial
structure SK (k:Int) (s:ζ):Prop where
 i:k=2->lj s=true
 d:k=3->zw s=true
 f:k=4->FlO s
def BQ {a b:ζ}:mQ a b=true↔a=b:=⟨iI,λe=>by grind [qI]⟩
def BR {k s}:vN k s s=0:=by
 unfold vN;rw[By (BQ.2 rfl)]
def aaS (hF:FlE){s t}(hs:FlO s)(ht:FlO t):vN 4 s t=aaR s t:=by
 by_cases e:s=t
 .subst e;rw[BR,Pn.rf hs]
 .unfold vN aaR aaQ PX;rw[AT (λq=>e (BQ.1 q)),AT (by omega),AT (by omega),By rfl];simp only[BQ];by_cases n:s=Ch
  .have m:t≠Ch:=λq=>e (n.trans q.symm);simp[n,m]
  .rw[AT n,AT n];by_cases m:t=Ch
   .rw[By m,By m];simp
   .rw[AT m,AT m];have c:(O6 s t).1=zS (oj s).1 (oj t).1:=by
     unfold O6 zS;rw[hs.1,ht.1,I0.2 (hs.2 n),I0.2 (ht.2 m)];simp only[Bool.true_eq_false,aed];split
     .rfl
     .split<;>rfl
    rw[c];simp only[Int.lt_irrefl,aed,ne_eq,agz];by_cases z:zS (oj s).1 (oj t).1=0
    .have:=(hF s t hs ht n m z).resolve_left e;unfold TU
     grind
    .simp[n,z]
def TV {k:Int}{s t}(h2:k≠2)(h3:k≠3)(h4:k≠4):vN k s t=LN s t:=by
 by_cases e:s=t
 .subst e;rw[BR,TT.rf trivial]
 .unfold vN;rw[AT (λq=>e (BQ.1 q)),AT h2,AT h3,AT h4]
def aer (hF:FlE)(k:Int):CM (SK k) (vN k):=by
 by_cases h2:k=2
 .refine (TF.sub (S':=SK k) λs h=>h.i h2).congr λs t hs ht=>?_;by_cases e:s=t
  .subst e;rw[BR,TF.rf (hs.i h2)]
  .unfold vN;rw[AT (λq=>e (BQ.1 q)),By h2]
 by_cases h3:k=3
 .refine (KC.sub (S':=SK k) λs h=>h.d h3).congr λs t hs ht=>?_;by_cases e:s=t
  .subst e;rw[BR,KC.rf (hs.d h3)]
  .unfold vN;rw[AT (λq=>e (BQ.1 q)),AT h2,By h3]
 by_cases h4:k=4
 .subst h4;exact (Pn.sub λs h=>h.f rfl).congr λs t hs ht=>(aaS hF (hs.f rfl) (ht.f rfl)).symm
 .exact (TT.sub λ_ _=>trivial).congr λs t _ _=>(TV h2 h3 h4).symm
def WS {k:Int}{s t}(hs:SK k s)(ht:SK k t)(h:vN k s t=0):s=t:=by
 by_cases h2:k=2
 .unfold vN at h;split at h
  .rename_i e;exact iI e
  .exact WQ (hs.i h2) (ht.i h2) h
 by_cases h3:k=3
 .unfold vN at h;split at h
  .rename_i e;exact iI e
  .exact Pj (hs.d h3) (ht.d h3) h
 by_cases h4:k=4
 .unfold vN at h;split at h
  .rename_i e;exact iI e
  .grind
 .exact WR ((TV h2 h3 h4).symm.trans h)
end Go.Sh
