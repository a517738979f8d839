
import Derived.Test.YtdbjhobkhjneeaaGreatDoorPag
set_option linter.all false
namespace Go.Sh
open Go Go.Ago
structure CM {α:Type} (S:α->Prop) (c:α->α->Int):Prop where
 an:∀a b,S a->S b->(c a b<0↔0<c b a)
 tr:∀a b d,S a->S b->S d->c a b<=0->c b d<=0->c a d<=0
section
variable {α β:Type}{S S':α->Prop}{c c':α->α->Int}
def CM.rf (h:CM S c){a}(x:S a):c a a=0:=by have:=h.an a a x x;omega
def CM.z (h:CM S c){a b}(x:S a)(y:S b):c a b=0↔c b a=0:=by have:=h.an a b x y;have:=h.an b a y x;omega
def CM.le (h:CM S c){a b}(x:S a)(y:S b):c a b<=0↔0<=c b a:=by have:=h.an a b x y;have:=h.an b a y x;omega
def CM.lt (h:CM S c){a b d}(x:S a)(y:S b)(z:S d)(p:c a b<0)(q:c b d<=0):c a d<0:=by
 have:=h.tr d a b z x y;have:=h.tr b d a y z x q;have:=h.le z x;have:=h.an a b x y;omega
def CM.lt' (h:CM S c){a b d}(x:S a)(y:S b)(z:S d)(p:c a b<=0)(q:c b d<0):c a d<0:=by
 have:=h.tr d a b z x y;have:=h.le z x;have:=h.an b d y z;omega
def CM.zt (h:CM S c){a b d}(x:S a)(y:S b)(z:S d)(p:c a b=0)(q:c b d=0):c a d=0:=by
 have:=h.tr a b d x y z (by omega) (by omega);have:=h.tr d b a z y x (by have:=h.z y z;omega) (by have:=h.z x y;omega);have:=h.le z x;omega
def CM.on (h:CM S c)(f:β->α):CM (λb=>S (f b)) (λa b=>c (f a) (f b)):=
 ⟨λa b=>h.an _ _,λa b d=>h.tr _ _ _⟩
def CM.sub (h:CM S c)(s:∀a,S' a->S a):CM S' c:=⟨λa b x y=>h.an a b (s a x) (s b y),λa b d x y z=>h.tr a b d (s a x) (s b y) (s d z)⟩
def CM.congr (h:CM S c)(e:∀a b,S a->S b->c a b=c' a b):CM S c':=
 ⟨λa b x y=>by rw[<-e a b x y,<-e b a y x];exact h.an a b x y,λa b d x y z=>by rw[<-e a b x y,<-e b d y z,<-e a d x z];exact h.tr a b d x y z⟩
theorem CM.lex (h:CM S c)(h':∀a,S a->CM (λb=>S b/\c a b=0) c'):CM S (λa b=>if c a b≠0 then c a b else c' a b):=by
 have k:∀a b,S a->S b->c a b=0->(c' a b<0↔0<c' b a):=λa b x y e=>(h' a x).an a b ⟨x,h.rf x⟩ ⟨y,e⟩;refine⟨λa b x y=>?_,λa b d x y z p q=>?_⟩
 .have:=h.z x y;have:=h.an a b x y;have:=k a b x y
  grind
 .have t1:=h.tr a b d x y z;have t2:=h.lt x y z;have t3:=h.lt' x y z;have t4:=h.zt x y z;by_cases e1:c a b=0<;>by_cases e2:c b d=0
  .have t5:=(h' a x).tr a b d ⟨x,h.rf x⟩ ⟨y,e1⟩ ⟨z,t4 e1 e2⟩
   grind
  .grind
  .grind
  .grind
theorem CM.num {S:Int->Prop}:CM S (λa b:Int=>if a<b then -1 else if b<a then 1 else 0):=⟨λa b _ _=>by grind,λa b d _ _ _=>by grind⟩
def CM.zero:CM S (λ_ _=>0):=⟨λa b _ _=>by simp,λa b d _ _ _=>by simp⟩
def qA (c:α->α->Int):List α->List α->Int
 |[],[]=>0
 |[],_::_=>-1
 |_::_,[]=>1
 |a::l,b::m=>if c a b≠0 then c a b else qA c l m
theorem CM.row (h:CM S c):CM (λl=>∀a∈l,S a) (qA c):=by
 refine⟨?_,?_⟩
 .intro l
  induction l with
  |nil=>intro m;cases m<;>simp[qA]
  |cons a l ih=>
   intro m x y;cases m with
   |nil=>simp[qA]
   |cons b m=>
    simp only[anl] at x y;have:=ih m x.2 y.2;have:=h.an a b x.1 y.1;have:=h.z x.1 y.1
    grind [qA]
 .intro l
  induction l with
  |nil=>intro m n;cases m<;>cases n<;>simp[qA]
  |cons a l ih=>
   intro m n x y z;cases m with
   |nil=>simp[qA]
   |cons b m=>
    cases n with
    |nil=>simp[qA]
    |cons d n=>
     simp only[anl] at x y z;have:=ih m n x.2 y.2 z.2;have:=h.tr a b d x.1 y.1 z.1;have:=h.lt x.1 y.1 z.1;have:=h.lt' x.1 y.1 z.1;have:=h.zt x.1 y.1 z.1
     grind [qA]
theorem Kj (hz:∀a b,S a->S b->c a b=0->a=b):∀l m:List α,(∀a∈l,S a)->(∀a∈m,S a)->qA c l m=0->l=m
 |[],[],_,_,_=>rfl
 |[],_::_,_,_,e=>by simp[qA] at e
 |_::_,[],_,_,e=>by simp[qA] at e
 |a::l,b::m,x,y,e=>by
  simp only[anl] at x y;have:=Kj hz l m x.2 y.2;have:=hz a b x.1 y.1
  grind [qA]
end
end Go.Sh
namespace Go.Sh
open Go Go.Ago Go.Proofs
def Kl:∀k,CM (λ_:ε=>True) (λD E=>ue D E k)
 |0=>CM.zero
 |k+1=>((CM.num.on (S:=λ_=>True) (λD:ε=>D.getD k 0)).lex (c':=λD E=>ue D E k) λa _=>(Kl k).sub λ_ _=>trivial).congr λa b _ _=>by
  have e:ue a b (k+1)=if a.getD k 0=b.getD k 0 then ue a b k else if a.getD k 0<b.getD k 0 then -1 else 1:=rfl;simp only[e];generalize ue a b k=c
  grind
def F6:∀{k} {D E:ε},ue D E k=0->∀i,i<k->D.getD i 0=E.getD i 0
 |0,_,_,_,i,h=>by omega
 |k+1,D,E,e,i,h=>by
  unfold ue at e;split at e
  .rename_i q;by_cases hi:i=k
   .subst hi;exact q
   .exact F6 e i (by omega)
  .grind
def OZ {D E:ε}(hl:D.length=E.length)(h:∀i,i<D.length->D.getD i 0=E.getD i 0):D=E:=by
 refine List.ext_getElem hl λi h1 h2=>?_;have:=h i h1;simpa[af3,h1,h2] using this
def aar:CM (λ_:ε=>True) F4:=
 ((CM.num.on (S:=λ_=>True) (λD:ε=>(D.length:Int))).lex (c':=λD E=>ue D E D.length) λa _=>
  ((Kl a.length).sub (S':=λb=>True/\(if (a.length:Int)<(b.length:Int) then (-1:Int) else if (b.length:Int)<(a.length:Int) then 1 else 0)=0) λ_ _=>trivial).congr λb d hb hd=>by
   have:b.length=a.length:=by grind
   rw[this]).congr λa b _ _=>by
  unfold F4
  grind
def IF {D E:ε}(e:F4 D E=0):D=E:=by
 unfold F4 at e;split at e
 .grind
 .rename_i h;exact OZ (by omega) (F6 e)
def aas:CM (λ_:Bool×ε=>True) En:=by
 have h1:=aar;refine⟨λa b _ _=>?_,λa b d _ _ _=>?_⟩
 .have:=h1.an a.2 b.2 trivial trivial;have:=h1.an b.2 a.2 trivial trivial;unfold En
  grind
 .have:=h1.tr a.2 b.2 d.2 trivial trivial trivial;have:=h1.tr d.2 b.2 a.2 trivial trivial trivial;unfold En
  grind
def Rd {x y:Bool×ε}(e:En x y=0):x=y:=by
 unfold En at e;have:=@IF x.2 y.2;have:=@IF y.2 x.2;obtain⟨x1,x2⟩:=x;obtain⟨y1,y2⟩:=y
 grind
def Tg:CM (λs=>lg s=true) Q1:=
 ((aas.on λs=>((vI s).1,Dm (vI s).2)).sub λ_ _=>trivial).congr λs t hs ht=>by
  unfold Q1;rw[hs,ht];rfl
end Go.Sh
namespace Go.Sh
open Go Go.Ago Go.Proofs
def CM.dif {S:Int->Prop}:CM S (λa b:Int=>a-b):=⟨λa b _ _=>by omega,λa b d _ _ _=>by omega⟩
structure GF (N:Bool×ε×Int):Prop where
 dg:∀d∈N.2.1,0<=d/\d<=9
 le:N.2.1.length<=400
 ex:-2000<=N.2.2/\N.2.2<=2000
 ze:N.2.1=[]->N.1=false/\N.2.2=0
 la:∀d,N.2.1.getLast?=some d->d≠0
def Th {D:ε}(h:∀d∈D,0<=d/\d<=9) i:0<=D.getD i 0/\D.getD i 0<=9:=by
 rw[af3];cases e:D[i]? with
 |none=>simp
 |some d=>exact h d (IN e)
def Ti {D E:ε}(h:∀d∈D,0<=d/\d<=9)(h':∀d∈E,0<=d/\d<=9) i:Iw D E i=D.getD i 0-E.getD i 0:=by
 have:=Th h i;have:=Th h' i;unfold Iw wi;rw[tC (x:=D.getD i 0) (by omega) (by omega),tC (x:=E.getD i 0) (by omega) (by omega),tC (by omega) (by omega)]
abbrev Dg (D:ε):Prop:=∀d∈D,0<=d/\d<=9
def Tj:∀k i,CM Dg (λD E=>vK D E k i)
 |0,i=>CM.zero
 |k+1,i=>((CM.dif.on (S:=λ_=>True) (λD:ε=>D.getD i 0)).sub (S':=Dg) (λ_ _=>trivial) |>.lex (c':=λD E=>vK D E k (i+1)) λa _=>(Tj k (i+1)).sub λ_ h=>h.1).congr λa b ha hb=>by
  have e:vK a b (k+1) i=if Iw a b i=0 then vK a b k (i+1) else Iw a b i:=rfl;simp only[e,Ti ha hb];generalize vK a b k (i+1)=c
  grind
def Kn {D E:ε}(h:Dg D)(h':Dg E):∀{k i},vK D E k i=0->∀j,i<=j->j<i+k->D.getD j 0=E.getD j 0
 |0,i,_,j,a,b=>by omega
 |k+1,i,e,j,a,b=>by
  unfold vK at e;rw[Ti h h'] at e;split at e
  .rename_i q;by_cases hj:j=i
   .subst hj;omega
   .exact Kn h h' e j (by omega) (by omega)
  .omega
def IG {D E:ε}:∀k i,D.length<=i->E.length<=i->vK D E k i=0
 |0,i,_,_=>rfl
 |k+1,i,a,b=>by
  have:Iw D E i=0:=by
   unfold Iw;rw[af3,af3,agl a,agl b];rfl
  unfold vK;rw[By this];exact IG k (i+1) (by omega) (by omega)
def Ko {D E:ε}:∀k m i,D.length<=i+k->E.length<=i+k->k<=m->vK D E m i=vK D E k i
 |0,m,i,a,b,_=>by rw[IG m i (by omega) (by omega)];rfl
 |k+1,m+1,i,a,b,c=>by
  unfold vK;rw[Ko k m (i+1) (by omega) (by omega) (by omega)]
 |k+1,0,i,a,b,c=>by omega
def O0 (N:Bool×ε×Int):Int:=if N.2.1=[] then -5000 else N.2.1.length+N.2.2
def Dx (K:Nat)(N M:Bool×ε×Int):Int:=if O0 N-O0 M≠0 then O0 N-O0 M else vK N.2.1 M.2.1 K 0
section
variable {K:Nat}{N M:Bool×ε×Int}
theorem ad5:CM GF (Dx K):=
 (CM.dif.on (S:=λ_=>True) O0).sub (S':=GF) (λ_ _=>trivial) |>.lex (c':=λN M:Bool×ε×Int=>vK N.2.1 M.2.1 K 0) λa _=>((Tj K 0).on λN:Bool×ε×Int=>N.2.1).sub λb h=>h.1.dg
theorem G0 {n e}:O0 (n,[],e)=-5000:=rfl
def yy {n D e}(h:D≠[]):O0 (n,D,e)=(D.length:Int)+e:=AT h
def Kp {x:Int}(h:-9223372036854775808<=x)(h':x<9223372036854775808):wi x=x:=tC h (by omega)
def Tk {x:Int}(h:x<0):J9 x=-1:=By h
def Tl {x:Int}(h:0<x):J9 x=1:=by unfold J9;rw[AT (by omega),By h]
theorem ad6 (hK:400<=K)(h:GF N)(h':GF M):J9 (GD N.2.1 N.2.2 M.2.1 M.2.2)=J9 (Dx K N M):=by
 obtain⟨n,D,e⟩:=N;obtain⟨m,E,f⟩:=M;obtain⟨a1,a2,a3,a4,_⟩:=h;obtain⟨b1,b2,b3,b4,_⟩:=h';simp only at a1 a2 a3 a4 b1 b2 b3 b4;show J9 (GD D e E f)=J9 (if O0 (n,D,e)-O0 (m,E,f)≠0 then O0 (n,D,e)-O0 (m,E,f) else vK D E K 0);by_cases d0:D=[]
 .subst d0;by_cases e0:E=[]
  .subst e0;rw[G0,G0,AT (by omega),IG K 0 (by simp) (by simp)];rfl
  .have l2:0<E.length:=List.length_pos_iff.2 e0;have hp:GD [] e E f=-(E.length:Int):=by
    unfold GD;rw[By (show ([]:ε).length=0 from rfl),Kp (by simp;omega) (by simp;omega)];simp
   rw[G0,yy e0,By (by omega),hp,Tk (by omega),Tk (by omega)]
 .have l1:0<D.length:=List.length_pos_iff.2 d0;by_cases e0:E=[]
  .subst e0;have hp:GD D e [] f=(D.length:Int):=by
    unfold GD;rw[AT (by omega),By (show ([]:ε).length=0 from rfl),Kp (by grind) (by grind)];simp
   rw[G0,yy d0,By (by omega),hp,Tl (by omega),Tl (by omega)]
  .have l2:0<E.length:=List.length_pos_iff.2 e0;have t:wi (wi (wi (D.length+e)-E.length)-f)=D.length+e-(E.length+f):=by
    rw[Kp (x:=(D.length:Int)+e) (by omega) (by omega),Kp (x:=(D.length:Int)+e-E.length) (by omega) (by omega),Kp (by omega) (by omega)];omega
   unfold GD;rw[yy d0,yy e0,AT (by omega),AT (by omega),t];by_cases q:(D.length:Int)+e-(E.length+f)=0
   .rw[By q,AT (by omega),Ko (max D.length E.length) K 0 (by omega) (by omega) (by omega)]
   .rw[AT q,By q]
theorem zD {x:Int}:(J9 x<0↔x<0)/\(0<J9 x↔0<x)/\-1<=J9 x/\J9 x<=1:=by unfold J9;grind
def Tm (hK:400<=K)(h:GF N)(h':GF M):Q3 N M=if N.1≠M.1 then (if N.1 then -1 else 1) else if N.1 then 0-J9 (Dx K N M) else J9 (Dx K N M):=by
 unfold Q3;rw[ad6 hK h h'];have:=@zD (Dx K N M);rw[Kp (by omega) (by omega)]
theorem ad7:CM GF Q3:=by
 obtain⟨K,hK⟩:∃K:Nat,400<=K:=⟨400,aao _⟩;have h1:CM GF (Dx K):=ad5;refine CM.congr (c:=λN M=>if N.1≠M.1 then (if N.1 then -1 else 1) else if N.1 then 0-J9 (Dx K N M) else J9 (Dx K N M)) ⟨λa b x y=>?_,λa b d x y z=>?_⟩ λa b x y=>(Tm hK x y).symm
 .have:=h1.an a b x y;have:=h1.an b a y x;have:=@zD (Dx K a b);have:=@zD (Dx K b a)
  grind
 .have:=h1.tr a b d x y z;have:=h1.tr d b a z y x;have:=h1.le x y;have:=h1.le y x;have:=h1.le y z;have:=h1.le z y;have:=h1.le x z;have:=h1.le z x;have:=@zD (Dx K a b);have:=@zD (Dx K b d);have:=@zD (Dx K a d)
  grind
theorem Wm (h:GF N)(h':GF M)(z:Q3 N M=0):N=M:=by
 obtain⟨K,hK⟩:∃K:Nat,400<=K:=⟨400,aao _⟩;rw[Tm hK h h'] at z;obtain⟨n,D,e⟩:=N;obtain⟨m,E,f⟩:=M;have hs:n=m:=by
  by_cases q:n=m
  .exact q
  .rw[By q] at z;grind
 subst hs;have hm:Dx K (n,D,e) (n,E,f)=0:=by
  have:=@zD (Dx K (n,D,e) (n,E,f))
  grind
 obtain⟨a1,a2,a3,a4,a5⟩:=h;obtain⟨b1,b2,b3,b4,b5⟩:=h';simp only at a1 a2 a3 a4 a5 b1 b2 b3 b4 b5;have hm:(if O0 (n,D,e)-O0 (n,E,f)≠0 then O0 (n,D,e)-O0 (n,E,f) else vK D E K 0)=0:=hm;by_cases hr:O0 (n,D,e)-O0 (n,E,f)=0
 .rw[AT (by omega)] at hm;have g:=λj (hj:j<K)=>Kn a1 b1 hm j (aku _) (by omega);have key:∀{X Y:ε},(∀d,Y.getLast?=some d->d≠0)->(∀j,j<K->X.getD j 0=Y.getD j 0)->Y.length<=400->Y.length<=X.length:=λ{X Y} lb g hy=>by
   refine Nat.le_of_not_lt λhlt=>?_;have hne:Y≠[]:=λq=>by rw[q] at hlt;simp at hlt
   have hl:=lb _ (ame hne);have g1:=g (Y.length-1) (by omega);rw[af3,af3,agl (by omega),<-anB,ame hne] at g1;exact hl g1.symm
  have le1:=key b5 g b2;have le2:=key a5 (λj hj=>(g j hj).symm) a2;have hD:D=E:=OZ (by omega) λi hi=>g i (by omega);subst hD;have:e=f:=by
   by_cases d0:D=[]
   .rw[(a4 d0).2,(b4 d0).2]
   .rw[yy d0,yy d0] at hr;omega
  rw[this]
 .rw[By hr] at hm;exact absurd hm hr
end
end Go.Sh
namespace Go.Sh
open Go Go.Ago Go.Proofs
def IH:∀{D:ε} {d},d∈stripL D->d∈D
 |[],d,h=>h
 |x::r,d,h=>by
  unfold stripL at h;split at h
  .exact BY _ (IH h)
  .exact h
def II:∀{l:ε} {e d},d∈(stripR l e).1->d∈l
 |[],e,d,h=>h
 |x::r,e,d,h=>by
  unfold stripR at h;split at h
  .exact BY _ (II h)
  .exact List.mem_reverse.1 h
def F7:∀{l:ε} {e d},(stripR l e).1.getLast?=some d->d≠0
 |[],e,d,h=>by simp[stripR] at h
 |x::r,e,d,h=>by
  unfold stripR at h;split at h
  .exact F7 h
  .rename_i q;simp at h;rw[<-h];exact q
def Wn {neg}{D:ε}{e}(h:Dg D)(hl:LN (wN neg D e).2.1 (wN neg D e).2.2=0):GF (wN neg D e):=by
 unfold wN at hl⊢;split at hl<;>rename_i q
 .rw[By q];exact⟨by simp,by simp,by simp,by simp,by simp⟩
 .rw[AT q];unfold LN at hl;simp only at hl;exact⟨λd hd=>h d (IH (List.mem_reverse.1 (II hd))),by grind,by grind,λz=>absurd (by rw[z];rfl) q,λd hd=>F7 hd⟩
def ad8 {b:UInt8}(h:nK b=true):0<=Bg b/\Bg b<=9:=by
 unfold nK at h;simp only[aaq,Nat.ble_eq] at h;unfold Bg;have:IntKind.u8.wrap ((b.toNat:Int)-48)=(b.toNat:Int)-48:=by
  simp only[IntKind.wrap,IntKind.bits,IntKind.signed];simp;omega
 omega
def ajT {s:ζ}{i}(h:lg (s.extract 0 i)=true):Dg (xQ (xo s i)):=by
 intro d hd;unfold xQ at hd;obtain⟨b,hb,rfl⟩:=List.mem_map.1 hd;refine ad8 ?_;unfold xo at hb;unfold lg at h;generalize (s.extract 0 i).data.toList=l at h hb;simp only[aaq,ajt] at h;cases l with
 |nil=>simp[Lib.trimPrefix] at hb
 |cons a r=>
  by_cases ha:a=45
  .subst ha;cases r with
   |nil=>exact absurd (h.2 45 (by simp)) (by decide)
   |cons c r=>exact h.2 b (by simpa[Lib.trimPrefix,Lib.hasPrefix] using hb)
  .refine h.2 b ?_;rw[AT (by simpa using λ_=>ha)];simpa[Lib.trimPrefix,Lib.hasPrefix,Ne.symm ha] using hb
def Bo {s:ζ}(h:zr s=true):GF (qZ s)/\So (qZ s).1 (qZ s).2.1 (qZ s).2.2=s:=by
 unfold zr at h;unfold qZ;split at h
 .cases h
 split at h
 .cases h
 rename_i ho;split at h
 .cases h
 split at h
 .rename_i e he;unfold Sp aiO at h;rw[aaq] at h;obtain⟨q1,q2⟩:=h;have q1:=akm q1;have q2:=iH q2;refine⟨?_,q2⟩;unfold numOf at q1⊢;exact Wn (ajT (by simpa using ho)) q1
 .cases h
def Kq:CM (λs=>zr s=true) Dt:=
 ((ad7.on qZ).sub λs h=>(Bo h).1).congr λs t hs ht=>by
  unfold Dt;rw[hs,ht];rfl
def O1 {s t:ζ}(hs:zr s=true)(ht:zr t=true)(e:Dt s t=0):s=t:=by
 unfold Dt at e;rw[hs,ht] at e;have:=Wm (Bo hs).1 (Bo ht).1 e;rw[<-(Bo hs).2,<-(Bo ht).2,this]
end Go.Sh
namespace Go.Sh
open Ieee Go Go.Ago
def Dy (b:Int):Datum->Int
 |.number s m i=>signed s m (i-b).toNat
 |_=>0
def Bp:Datum->Int
 |.infinity s=>if s then -1 else 1
 |_=>0
def plD:Datum->Int
 |.number _ _ i=>i
 |_=>0
def JF (d:Datum):Bool:=match d with
 |.nan ..=>true
 |_=>false
def Wo (s m u k):signed s m (u+k)=signed s m u*2^k:=by
 unfold signed;rw[amC,amC,Nat.pow_add];split<;>simp[Int.natCast_mul,Int.natCast_pow,Int.mul_assoc,Int.neg_mul]
def Kr {b c:Int}{d}(h:c<=b)(hb:b<=plD d\/Bp d≠0\/JF d=true):Dy c d=Dy b d*2^(b-c).toNat:=by
 cases d with
 |number s m i=>
  simp[plD,Bp,JF] at hb;simp only[Dy];rw[show (i-c).toNat=(i-b).toNat+(b-c).toNat by omega,Wo]
 |infinity s=>simp[Dy]
 |nan s t=>simp[Dy]
def alC (b:Int)(d e:Datum):Ordering:=if Bp d≠Bp e then compare (Bp d) (Bp e) else compare (Dy b d) (Dy b e)
def ad9 (x y:Int)(k:Nat):compare (x*2^k) (y*2^k)=compare x y:=by
 have hp:(0:Int)<2^k:=Int.pow_pos (by omega);simp only[compare,compareOfLessAndEq];have h1:x*2^k<y*2^k↔x<y:=⟨λh=>Int.lt_of_mul_lt_mul_right h (aog hp),λh=>Int.mul_lt_mul_of_pos_right h hp⟩;have h2:x*2^k=y*2^k↔x=y:=⟨λh=>Int.eq_of_mul_eq_mul_right (by omega) h,λh=>by rw[h]⟩;simp only[h1,h2]
def aat {d e:Datum}{b:Int}(hd:JF d=false)(he:JF e=false)(pd:b<=plD d\/Bp d≠0)(pe:b<=plD e\/Bp e≠0):d.order e=some (alC b d e):=by
 cases d with
 |nan=>simp[JF] at hd
 |infinity s=>
  cases e with
  |nan=>simp[JF] at he
  |infinity t=>cases s<;>cases t<;>rfl
  |number t n j=>cases s<;>rfl
 |number s m i=>
  cases e with
  |nan=>simp[JF] at he
  |infinity t=>cases t<;>rfl
  |number t n j=>
   simp[plD,Bp] at pd pe;unfold alC Datum.order;simp only[Bp,ne_eq,af5,adW];rw[Kr (b:=min i j) (c:=b) (by omega) (.inl (by simp only[plD];omega)),Kr (b:=min i j) (c:=b) (d:=.number t n j) (by omega) (.inl (by simp only[plD];omega)),ad9];rfl
def Ks (f:Format) x:JF (f.read x)=true\/f.leastPlace<=plD (f.read x)\/Bp (f.read x)≠0:=by
 unfold Format.read;simp only;split
 .exact .inr (.inl (by simp[plD]))
 split
 .exact .inr (.inl (by simp only[plD];omega))
 split
 .exact .inr (.inr (by simp only[Bp];split<;>omega))
 .exact .inl rfl
def fN (x:Nat):Prop:=JF (Go.FloatKind.f64.format.read x)=false
noncomputable def fB:Int:=Go.FloatKind.f64.format.leastPlace
noncomputable def fD (x:Nat):Int:=Bp (Go.FloatKind.f64.format.read x)
noncomputable def fV (x:Nat):Int:=Dy fB (Go.FloatKind.f64.format.read x)
def aea {x y}(hx:fN x)(hy:fN y):Go.FloatKind.f64.format.order x y=some (if fD x≠fD y then compare (fD x) (fD y) else compare (fV x) (fV y)):=by
 have px:=Ks Go.FloatKind.f64.format x;have py:=Ks Go.FloatKind.f64.format y;unfold fN at hx hy;rw[hx] at px;rw[hy] at py;exact aat hx hy (px.resolve_left (by simp)) (py.resolve_left (by simp))
def zP (x y:Nat):Int:=if Go.Ago.WN x y then -1 else if Go.Ago.PB x y then 1 else 0
def O3 {x y}(hx:fN x)(hy:fN y):zP x y=if (if fD x<fD y then (-1:Int) else if fD y<fD x then 1 else 0)≠0 then (if fD x<fD y then (-1:Int) else if fD y<fD x then 1 else 0) else if fV x<fV y then -1 else if fV y<fV x then 1 else 0:=by
 unfold zP Go.Ago.WN Go.Ago.PB;rw[aea hx hy];have c1:∀a b:Int,compare a b=Ordering.lt↔a<b:=λa b=>by simp only[compare,compareOfLessAndEq];grind
 have c2:∀a b:Int,compare a b=Ordering.gt↔b<a:=λa b=>by simp only[compare,compareOfLessAndEq];grind
 have s:∀o p:Ordering,(some o==some p)=true↔o=p:=λo p=>by cases o<;>cases p<;>decide
 simp only[s];by_cases h:fD x=fD y
 .simp only[ne_eq,h,af5,adW,c1,c2]
  grind
 .simp only[ne_eq,h,not_false_eq_true,ajN,c1,c2]
  grind
def aau:CM fN zP:=
 ((CM.num.on (S:=λ_=>True) fD).sub (S':=fN) (λ_ _=>trivial) |>.lex (c':=λx y=>if fV x<fV y then -1 else if fV y<fV x then 1 else 0) λa _=>(CM.num.on (S:=λ_=>True) fV).sub λ_ _=>trivial).congr λx y hx hy=>(O3 hx hy).symm
def Re {x y}(hx:fN x)(hy:fN y)(h:zP x y=0):fD x=fD y/\fV x=fV y:=by
 rw[O3 hx hy] at h
 grind
def IJ {x}:Go.Ago.zH x x=true↔fN x:=by
 unfold fN Go.Ago.zH Format.order;cases Go.FloatKind.f64.format.read x with
 |number s m i=>simp[JF,Datum.order]
 |infinity s=>simp[JF,Datum.order]
 |nan s t=>simp[JF,Datum.order]
end Go.Sh
namespace Go.Sh
open Go Go.Ago Go.Proofs
def O4 {a b:UInt8}(h:nK a=true)(h':nK b=true)(e:Bg a=Bg b):a=b:=by
 unfold nK at h h';simp only[aaq,Nat.ble_eq] at h h';unfold Bg at e;have w:∀c:UInt8,48<=c.toNat->c.toNat<=57->IntKind.u8.wrap ((c.toNat:Int)-48)=(c.toNat:Int)-48:=λc _ _=>by
  simp only[IntKind.wrap,IntKind.bits,IntKind.signed];simp;omega
 rw[w a h.1 h.2,w b h'.1 h'.2] at e;exact UInt8.toNat_inj.1 (by omega)
def Tn:∀{l m:List UInt8},l.all nK=true->m.all nK=true->l.map Bg=m.map Bg->l=m
 |[],[],_,_,_=>rfl
 |[],_::_,_,_,h=>by simp at h
 |_::_,[],_,_,h=>by simp at h
 |a::l,b::m,h,h',e=>by
  simp only[am6,aaq] at h h';simp only[abv,abP] at e;rw[O4 h.1 h'.1 e.1,Tn h.2 h'.2 e.2]
def Wq {a:UInt8}(h:nK a=true)(e:Bg a=0):a=48:=O4 h (by decide) (e.trans (by decide))
def FD {t:ζ}{a r}(ht:t.data.toList=a::r)(hd:(a::r).all nK=true)(ha:a≠48):Dm t=((a::r).map Bg).reverse:=by
 have hs:t.size=r.length+1:=by
  have:t.size=t.data.toList.length:=rfl;rw[this,ht];rfl
 unfold Dm xQ;rw[ht,hs];have h0:Bg a≠0:=λe=>ha (Wq (by simp only[am6,aaq] at hd;exact hd.1) e);have k:Co ((a::r).map Bg).reverse (r.length+1)=r.length+1:=by
  unfold Co;rw[AT];simp only[abv,List.reverse_cons];rw[agq (by simp)];simpa using h0
 rw[k];exact agG (by simp)
def Kt {t:ζ}(ht:t.data.toList=[48]):Dm t=[]:=by
 have hs:t.size=1:=by
  have:t.size=t.data.toList.length:=rfl;rw[this,ht];rfl
 unfold Dm xQ;rw[ht,hs];decide
def IK {s:ζ}(h:lg s=true):∃a r,(vI s).2.data.toList=a::r/\(a::r).all nK=true/\(a=48->r=[]/\(vI s).1=false)/\s.data.toList=if (vI s).1 then 45::a::r else a::r:=by
 have hs:s.size=s.data.toList.length:=rfl;unfold lg at h;unfold vI;simp only[aaq,abb] at h;by_cases c:1<s.size/\s.data.toList.head?=some 45
 .rw[By c];rw[hs] at c;rw[By c] at h;have e:(s.extract 1 s.size).data.toList=s.data.toList.tail:=by
   rw[hs];simp[ak8,List.extract_eq_drop_take,agG]
  simp only[e,ajN];generalize s.data.toList=l at h c;cases l with
  |nil=>simp at c
  |cons x l=>
   cases l with
   |nil=>simp at c
   |cons a r=>
    simp only[List.head?_cons,abo] at c;refine⟨a,r,rfl,h.2,λq=>absurd ?_ h.1.2.2,by rw[c.2]⟩;simp[q]
 .rw[AT c];rw[hs] at c;rw[AT c] at h;simp only[adD,adW,and_true];generalize s.data.toList=l at h c;cases l with
  |nil=>exact absurd rfl h.1.1
  |cons a r=>
   refine⟨a,r,rfl,h.2,λq=>?_,rfl⟩;subst q;cases r with
   |nil=>rfl
   |cons b r=>exact absurd (by simp) h.1.2.2
def Ws {s t:ζ}(hs:lg s=true)(ht:lg t=true)(e:Q1 s t=0):s=t:=by
 unfold Q1 at e;rw[hs,ht] at e;have e:=Rd (by simpa using e);obtain⟨a,r,p1,p2,p3,p4⟩:=IK hs;obtain⟨b,q,q1,q2,q3,q4⟩:=IK ht;simp only[aly] at e;refine al8 (Array.toList_inj.1 ?_);rw[p4,q4,e.1];have key:a::r=b::q:=by
  by_cases ha:a=48
  .obtain⟨rfl,_⟩:=p3 ha;subst ha;rw[Kt p1] at e;by_cases hb:b=48
   .obtain⟨rfl,_⟩:=q3 hb;rw[hb]
   .rw[FD q1 q2 hb] at e;simp at e
  .rw[FD p1 p2 ha] at e;by_cases hb:b=48
   .obtain⟨rfl,_⟩:=q3 hb;subst hb;rw[Kt q1] at e;simp at e
   .rw[FD q1 q2 hb] at e;exact Tn p2 q2 (List.reverse_inj.1 e.2)
 rw[key]
end Go.Sh
namespace Go.Sh
open Go Go.Ago Go.Proofs
def cU (a b:UInt8):Int:=if a<b then -1 else if b<a then 1 else 0
def alD:CM (λ_=>True) cU:=(CM.num.on (S:=λ_=>True) λa:UInt8=>(a.toNat:Int)).congr λa b _ _=>by
 unfold cU;simp only[an1,Int.ofNat_lt]
def Mq:∀l m:List UInt8,Lib.compareBytes l m=qA cU l m
 |[],[]=>rfl
 |[],_::_=>rfl
 |_::_,[]=>rfl
 |a::l,b::m=>by
  unfold Lib.compareBytes qA;rw[Mq l m];unfold cU;split
  .simp
  .split<;>simp
def To:CM (λ_=>True) Lw:=((alD.row.on λs:ζ=>s.data.toList).sub λ_ _ _ _=>trivial).congr λs t _ _=>by
 unfold Lw;rw[Lib.cmp_eq,Mq]
def Wt {s t:ζ}(h:Lw s t=0):s=t:=by
 unfold Lw at h;rw[Lib.cmp_eq,Mq] at h;refine al8 (Array.toList_inj.1 (Kj (S:=λ_=>True) (λa b _ _ e=>?_) _ _ (λ_ _=>trivial) (λ_ _=>trivial) h));unfold cU at e;split at e
 .cases e
 split at e
 .cases e
 .rename_i h1 h2;simp only[an1] at h1 h2;exact UInt8.toNat_inj.1 (by omega)
abbrev Cd:ζ:=ofBytes [110,97,110]
abbrev nzS:ζ:=ofBytes [45,48,112,48]
def FlO (s:ζ):Prop:=(n9 s).2=true/\(s≠Cd->fN (n9 s).1)
def FlE:Prop:=∀s t,FlO s->FlO t->s≠Cd->t≠Cd->zP (n9 s).1 (n9 t).1=0->s=t\/(s=nzS↔t≠nzS)
def Px (s:ζ):Int:=if s=Cd then 1 else 0
def Tp (s:ζ):Int:=if s=nzS then 0 else 1
noncomputable def aav (s t:ζ):Int:=if s=Cd then 0 else if zP (n9 s).1 (n9 t).1≠0 then zP (n9 s).1 (n9 t).1 else if Tp s<Tp t then -1 else if Tp t<Tp s then 1 else 0
noncomputable def aaw (s t:ζ):Int:=if (if Px s<Px t then (-1:Int) else if Px t<Px s then 1 else 0)≠0 then (if Px s<Px t then (-1:Int) else if Px t<Px s then 1 else 0) else aav s t
def O5:CM FlO aaw:=
 (CM.num.on (S:=λ_=>True) Px).sub (S':=FlO) (λ_ _=>trivial) |>.lex (c':=aav) λa ha=>by
  by_cases n:a=Cd
  .refine CM.zero.congr λs t hs ht=>?_;have:s=Cd:=by
    have:=hs.2;unfold Px at this
    grind
   unfold aav;rw[By this]
  .have ne:∀s,(FlO s/\(if Px a<Px s then (-1:Int) else if Px s<Px a then 1 else 0)=0)->s≠Cd:=λs hs=>by
    have:=hs.2;unfold Px at this
    grind
   refine CM.congr (c:=λs t=>if zP (n9 s).1 (n9 t).1≠0 then zP (n9 s).1 (n9 t).1 else if Tp s<Tp t then -1 else if Tp t<Tp s then 1 else 0) ?_ λs t hs ht=>by
    unfold aav;rw[AT (ne s hs)]
   exact ((aau.on λs=>(n9 s).1).sub λs hs=>hs.1.2 (ne s hs)).lex (c':=λs t=>if Tp s<Tp t then -1 else if Tp t<Tp s then 1 else 0) λ_ _=>(CM.num.on (S:=λ_=>True) Tp).sub λ_ _=>trivial
structure SK (k:Int) (s:ζ):Prop where
 i:k=2->lg s=true
 d:k=3->zr s=true
 f:k=4->FlO s
def BJ {a b:ζ}:mM a b=true↔a=b:=⟨iH,λe=>by grind [qC]⟩
def BK {k s}:vL k s s=0:=by
 unfold vL;rw[By (BJ.2 rfl)]
def aax (hF:FlE){s t}(hs:FlO s)(ht:FlO t):vL 4 s t=aaw s t:=by
 by_cases e:s=t
 .subst e;rw[BK,O5.rf hs]
 .unfold vL aaw aav Px;rw[AT (λq=>e (BJ.1 q)),AT (by omega),AT (by omega),By rfl];simp only[BJ];by_cases n:s=Cd
  .have m:t≠Cd:=λq=>e (n.trans q.symm);simp[n,m]
  .rw[AT n,AT n];by_cases m:t=Cd
   .rw[By m,By m];simp
   .rw[AT m,AT m];have c:(OQ s t).1=zP (n9 s).1 (n9 t).1:=by
     unfold OQ zP;rw[hs.1,ht.1,IJ.2 (hs.2 n),IJ.2 (ht.2 m)];simp only[Bool.true_eq_false,adW];split
     .rfl
     .split<;>rfl
    rw[c];simp only[Int.lt_irrefl,adW,ne_eq,af5];by_cases z:zP (n9 s).1 (n9 t).1=0
    .have:=(hF s t hs ht n m z).resolve_left e;unfold Tp
     grind
    .simp[n,z]
def Tq {k:Int}{s t}(h2:k≠2)(h3:k≠3)(h4:k≠4):vL k s t=Lw s t:=by
 by_cases e:s=t
 .subst e;rw[BK,To.rf trivial]
 .unfold vL;rw[AT (λq=>e (BJ.1 q)),AT h2,AT h3,AT h4]
def aec (hF:FlE)(k:Int):CM (SK k) (vL k):=by
 by_cases h2:k=2
 .refine (Tg.sub (S':=SK k) λs h=>h.i h2).congr λs t hs ht=>?_;by_cases e:s=t
  .subst e;rw[BK,Tg.rf (hs.i h2)]
  .unfold vL;rw[AT (λq=>e (BJ.1 q)),By h2]
 by_cases h3:k=3
 .refine (Kq.sub (S':=SK k) λs h=>h.d h3).congr λs t hs ht=>?_;by_cases e:s=t
  .subst e;rw[BK,Kq.rf (hs.d h3)]
  .unfold vL;rw[AT (λq=>e (BJ.1 q)),AT h2,By h3]
 by_cases h4:k=4
 .subst h4;exact (O5.sub λs h=>h.f rfl).congr λs t hs ht=>(aax hF (hs.f rfl) (ht.f rfl)).symm
 .exact (To.sub λ_ _=>trivial).congr λs t _ _=>(Tq h2 h3 h4).symm
def Wu {k:Int}{s t}(hs:SK k s)(ht:SK k t)(h:vL k s t=0):s=t:=by
 by_cases h2:k=2
 .unfold vL at h;split at h
  .rename_i e;exact iH e
  .exact Ws (hs.i h2) (ht.i h2) h
 by_cases h3:k=3
 .unfold vL at h;split at h
  .rename_i e;exact iH e
  .exact O1 (hs.d h3) (ht.d h3) h
 by_cases h4:k=4
 .unfold vL at h;split at h
  .rename_i e;exact iH e
  .grind
 .exact Wt ((Tq h2 h3 h4).symm.trans h)
end Go.Sh
