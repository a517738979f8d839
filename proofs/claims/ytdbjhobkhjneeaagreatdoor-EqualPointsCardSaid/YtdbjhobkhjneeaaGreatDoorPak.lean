
import Derived.Test.YtdbjhobkhjneeaaGreatDoorPaj
import Derived.Test.YtdbjhobkhjneeaaGreatDoorPai
set_option linter.all false
namespace Go.Sh
open Go Go.Ago Go.Proofs
section
variable {N:List al}{cv:Int->Int->Int}{x y:al}{S:Int->Prop}
def xS (x:al)(p:ε):ε:=p.flatMap λa=>if x.kind=10 then [nth x.keys a,nth x.items a] else [nth x.items a]
theorem rC {a p}:xS x (a::p)=(if x.kind=10 then [nth x.keys a,nth x.items a] else [nth x.items a])++xS x p:=rfl
def Po (hk:x.kind=y.kind):∀p q,(match Bn cv x y p q with
  |some c=>c
  |none=>if p.length<q.length then -1 else if q.length<p.length then 1 else 0)=qG cv (xS x p) (xS y q)
 |[],[]=>rfl
 |[],b::q=>by
  rw[rC];split<;>simp_all[Bn,qG,xS]<;>split<;>simp[qG]
 |a::p,[]=>by
  rw[rC];split<;>simp_all[Bn,qG,xS]<;>split<;>simp[qG]
 |a::p,b::q=>by
  have ih:=Po hk p q;rw[rC,rC,<-hk];unfold Bn;by_cases h:x.kind=10
  .simp only[h,aks,abE,abJ,akF,qG];by_cases h1:cv (nth x.keys a) (nth y.keys b)=0
   .by_cases h2:cv (nth x.items a) (nth y.items b)=0
    .simp only[h1,h2,ne_eq,agz,aed,<-ih,abv,anX]
    .simp[h1,h2]
   .simp[h1]
  .simp only[h,aed,abE,abJ,false_and,qG];by_cases h2:cv (nth x.items a) (nth y.items b)=0
   .simp only[h2,ne_eq,agz,aed,<-ih,abv,anX]
   .simp[h2]
noncomputable def rK (cv:Int->Int->Int)(x:al):ε:=xS x (j5 cv x)
def sg2 (a b:Int):Int:=if a<b then -1 else if b<a then 1 else 0
def rkO (x:al):Int:=if x.ord then 1 else 0
noncomputable def c3 (cv:Int->Int->Int)(x y:al):Int:=if vN x.kind x.text y.text≠0 then vN x.kind x.text y.text else qG cv (rK cv x) (rK cv y)
noncomputable def c2 (cv:Int->Int->Int)(x y:al):Int:=if sg2 (rkO x) (rkO y)≠0 then sg2 (rkO x) (rkO y) else c3 cv x y
noncomputable def c1 (cv:Int->Int->Int)(x y:al):Int:=if sg2 x.kind y.kind≠0 then sg2 x.kind y.kind else c2 cv x y
def G9:Ev cv x y=c1 cv x y:=by
 unfold Ev c1 sg2;by_cases h1:x.kind<y.kind
 .simp[h1]
 by_cases h2:y.kind<x.kind
 .simp[h1,h2]
 have hk:x.kind=y.kind:=by omega
 simp only[h1,h2,aed,ne_eq,agz];unfold c2 sg2 rkO;by_cases h3:x.ord=y.ord
 .simp only[h3,agz,aed,Int.lt_irrefl];unfold c3;by_cases h4:vN x.kind x.text y.text=0
  .simp only[h4,ne_eq,agz,aed];unfold rK;rw[<-Po hk,yB,yB];rfl
  .simp[h4]
 .cases hx:x.ord<;>cases hy:y.ord<;>simp_all
def SN (cv:Int->Int->Int)(S:Int->Prop)(x:al):Prop:=SK x.kind x.text/\∀v∈rK cv x,S v
theorem aaT {β:Type}{T:β->Prop}(f:β->Int):CM T (λa b=>sg2 (f a) (f b)):=(CM.num.on (S:=λ_=>True) f).sub λ_ _=>trivial
theorem EA {a b:Int}(h:sg2 a b=0):a=b:=by
 unfold sg2 at h
 grind
theorem aet (hF:FlE)(hc:CM S cv):CM (SN cv S) (Ev cv):=by
 refine CM.congr (c:=c1 cv) ?_ λa b _ _=>G9.symm;refine (aaT al.kind).lex (c':=c2 cv) λa _=>?_;refine (aaT rkO).lex (c':=c3 cv) λb _=>?_;refine CM.congr (c:=λx y=>if vN a.kind x.text y.text≠0 then vN a.kind x.text y.text else qG cv (rK cv x) (rK cv y)) ?_ λx y hx _=>by
  unfold c3;rw[show a.kind=x.kind from EA hx.1.2]
 refine CM.lex (c:=λx y:al=>vN a.kind x.text y.text) (((aer hF a.kind).on al.text).sub λx hx=>?_) (c':=λx y=>qG cv (rK cv x) (rK cv y)) λd _=>((hc.row.on (rK cv)).sub λx hx=>hx.1.1.1.2);show SK a.kind x.text;rw[show a.kind=x.kind from EA hx.1.2];exact hx.1.1.1
def aaU {l:ε}{n}(h:∀v∈l,IR n v)(hn:0<n) a:IR n (nth l a):=by
 unfold nth;cases e:gt l a with
 |none=>exact⟨agE _,by simpa using hn⟩
 |some v=>exact h v (aq e)
def aeu (hI:lF N N.length)(hx:x∈N){p}:∀v∈xS x p,IR N.length v:=λv hv=>by
 have hn:0<N.length:=List.length_pos_of_mem hx;unfold xS at hv;obtain⟨a,_,hv⟩:=List.mem_flatMap.1 hv;have h1:=aaU (hI x hx).1 hn a;have h2:=aaU (hI x hx).2 hn a;split at hv<;>simp at hv
 .rcases hv with rfl|rfl
  .exact h1
  .exact h2
 .rw[hv];exact h2
def SKs (N:List al):Prop:=∀x∈N,SK x.kind x.text
theorem TW (hF:FlE)(hN:SKs N)(hI:lF N N.length):∀f,CM (IR N.length) (kF N f)
 |0=>CM.zero
 |f+1=>by
  have ih:=TW hF hN hI f;have h:=aet hF ih;have nd:∀i,IR N.length i->∃x,gt N i=some x/\SN (kF N f) (IR N.length) x:=λi hi=>by
   obtain⟨x,hx⟩:=cI rfl hi;exact⟨x,hx,hN x (aq hx),aeu hI (aq hx)⟩
  refine⟨λa b ha hb=>?_,λa b d ha hb hd=>?_⟩
  .obtain⟨x,hx,sx⟩:=nd a ha;obtain⟨y,hy,sy⟩:=nd b hb;unfold kF O7;simp only[hx,hy];exact h.an x y sx sy
  .obtain⟨x,hx,sx⟩:=nd a ha;obtain⟨y,hy,sy⟩:=nd b hb;obtain⟨z,hz,sz⟩:=nd d hd;unfold kF O7;simp only[hx,hy,hz];exact h.tr x y z sx sy sz
end
section
variable {N:List al}{cv:Int->Int->Int}{x y:al}{S:Int->Prop}{root:Int}
def Pp {α:Type}{c:α->α->Int}:∀{l m:List α},qG c l m=0->l.length=m.length/\∀(i:Nat) a b,l[i]?=some a->m[i]?=some b->c a b=0
 |[],[],_=>⟨rfl,λi a b h=>by simp at h⟩
 |[],_::_,e=>by simp[qG] at e
 |_::_,[],e=>by simp[qG] at e
 |a::l,b::m,e=>by
  unfold qG at e;split at e
  .rename_i h;exact absurd e h
  .rename_i h;have ih:=Pp e;refine⟨by simp[ih.1],λi a' b' h1 h2=>?_⟩;cases i with
   |zero=>simp at h1 h2;subst h1 h2;omega
   |succ i=>exact ih.2 i a' b' (by simpa using h1) (by simpa using h2)
def I2:∀p,(xS x p).length=if x.kind=10 then 2*p.length else p.length
 |[]=>by simp[xS]
 |a::p=>by
  rw[rC,abO,I2 p];split<;>simp<;>omega
def I3:∀{p:ε} {i:Nat} {a},p[i]?=some a->if x.kind=10 then (xS x p)[2*i]?=some (nth x.keys a)/\(xS x p)[2*i+1]?=some (nth x.items a) else (xS x p)[i]?=some (nth x.items a)
 |[],i,a,h=>by simp at h
 |b::p,0,a,h=>by
  simp at h;subst h;rw[rC];split<;>simp
 |b::p,i+1,a,h=>by
  have ih:=I3 (p:=p) (i:=i) (a:=a) (by simpa using h);rw[rC];split
  .rename_i k;simp only[k,aks] at ih;refine⟨?_,?_⟩
   .rw[show 2*(i+1)=2*i+2 by omega,ai8 (by simp)];simpa using ih.1
   .rw[show 2*(i+1)+1=2*i+1+2 by omega,ai8 (by simp)];simpa using ih.2
  .rename_i k;simp only[k,aed] at ih;rw[ai8 (by simp)];simpa using ih
def WT (sx:SK x.kind x.text)(sy:SK y.kind y.text)(h:Ev cv x y=0):x.kind=y.kind/\x.text=y.text/\x.ord=y.ord/\x.items.length=y.items.length /\
  ∀(i:Nat) a b,(j5 cv x)[i]?=some a->(j5 cv y)[i]?=some b->(x.kind=10->cv (nth x.keys a) (nth y.keys b)=0)/\cv (nth x.items a) (nth y.items b)=0:=by
 rw[G9] at h;unfold c1 at h;split at h
 .rename_i q;exact absurd h q
 rename_i q1;have hk:x.kind=y.kind:=EA (by omega);unfold c2 at h;split at h
 .rename_i q;exact absurd h q
 rename_i q2;have ho:rkO x=rkO y:=EA (by omega);unfold c3 at h;split at h
 .rename_i q;exact absurd h q
 rename_i q3;have ht:x.text=y.text:=WS sx (by rw[hk];exact sy) (by omega);obtain⟨hl,hg⟩:=Pp h;have e:x.items.length=y.items.length:=by
  unfold rK at hl;rw[I2,I2,<-hk,yB,yB] at hl;split at hl<;>omega
 refine⟨hk,ht,?_,e,λi a b h1 h2=>?_⟩
 .unfold rkO at ho;cases hx:x.ord<;>cases hy:y.ord<;>simp_all
 .have g1:=I3 (x:=x) h1;have g2:=I3 (x:=y) h2;rw[<-hk] at g2;by_cases k:x.kind=10
  .simp only[k,aks] at g1 g2;exact⟨λ_=>hg _ _ _ g1.1 g2.1,hg _ _ _ g1.2 g2.2⟩
  .simp only[k,aed] at g1 g2;exact⟨λq=>absurd q k,hg _ _ _ g1 g2⟩
def MG {l:ε}{a:Int}{v}(h:gt l a=some v):nth l a=v:=by
 unfold nth;rw[h];rfl
def zG {l:ε}{a:Nat}{v}(h:l[a]?=some v):nth l (a:Int)=v:=MG (by unfold gt;rw[By (by omega)];simpa using h)
def MH {m a:Nat}(h:a<m):(iota m)[a]?=some (a:Int):=mO h
def rD (h:¬(x.kind=10/\x.ord=false)):j5 cv x=iota x.items.length:=by
 unfold j5;rw[AT h]
def WU {a:Nat}(ha:a<x.items.length):∃i:Nat,(j5 cv x)[i]?=some (a:Int):=by
 have:(a:Int)∈j5 cv x:=(uk cv x).mem_iff.2 (IN (MH ha));exact List.mem_iff_getElem?.1 this
def Bt {l:ε}{a:Int}(h0:0<=a)(h:a<l.length):l[a.toNat]?=some (nth l a):=by
 obtain⟨v,hv⟩:=jD h0 h;rw[MG hv];exact (aB hv).2
theorem EB (hN:SKs N)(hI:lF N N.length)(hM:∀x∈N,oi x){H:Int->Nat}(hH:∀u v,KN N u->Edge N u v->KN N v/\H v<H u):∀f i j,KN N i->KN N j->IR N.length i->IR N.length j->H i<f->H j<f->kF N f i j=0->xW N f i j
 |0,_,_,_,_,_,_,h,_,_=>by omega
 |f+1,i,j,ki,kj,ri,rj,hi,hj,e=>by
  obtain⟨x,hx⟩:=cI rfl ri;obtain⟨y,hy⟩:=cI rfl rj;unfold kF O7 at e;simp only[hx,hy] at e;obtain⟨h1,h2,h3,h4,h5⟩:=WT (hN x (aq hx)) (hN y (aq hy)) e;have low:∀{i x},KN N i->H i<f+1->gt N i=some x->∀v,(v∈x.keys\/v∈x.items)->KN N v/\H v<f/\IR N.length v:=λ{i x} ki hi hx v hv=>by
   obtain⟨a,b⟩:=hH i v ki ⟨x,hx,hv⟩;exact⟨a,by omega,KN.ir hI a⟩
  refine⟨x,y,hx,hy,h1,h2,h3,h4,?_⟩;have step:∀(n:Nat) a b,(j5 (kF N f) x)[n]?=some a->(j5 (kF N f) y)[n]?=some b->xW N f (nth x.items a) (nth y.items b)/\(x.kind=10->xW N f (nth x.keys a) (nth y.keys b)):=λn a b ha hb=>by
   have ma:=eQ (IN ha);have mb:=eQ (IN hb);obtain⟨q1,q2⟩:=h5 n a b ha hb;have ia:=bW ma.1 ma.2;have ib:=bW mb.1 mb.2;obtain⟨p1,p2,p3⟩:=low ki hi hx _ (.inr ia);obtain⟨p4,p5,p6⟩:=low kj hj hy _ (.inr ib);refine⟨EB hN hI hM hH f _ _ p1 p4 p3 p6 p2 p5 q2,λk=>?_⟩;have l1:=hM x (aq hx) k;have l2:=hM y (aq hy) (h1▸k);have ia:=bW (l:=x.keys) ma.1 (by rw[l1];exact ma.2);have ib:=bW (l:=y.keys) mb.1 (by rw[l2];exact mb.2);obtain⟨p1,p2,p3⟩:=low ki hi hx _ (.inl ia);obtain⟨p4,p5,p6⟩:=low kj hj hy _ (.inl ib);exact EB hN hI hM hH f _ _ p1 p4 p3 p6 p2 p5 (q1 k)
  split
  .rename_i c;intro a kx p hkx hp;have la:a<x.items.length:=(List.getElem?_eq_some_iff.1 hp).1;obtain⟨n,hn⟩:=WU (cv:=kF N f) la;have ln:n<(j5 (kF N f) y).length:=by
    have:=(List.getElem?_eq_some_iff.1 hn).1;rw[yB] at this⊢;omega
   obtain⟨b,hb⟩:∃b,(j5 (kF N f) y)[n]?=some b:=⟨_,abt ln⟩;have mb:=eQ (IN hb);obtain⟨s1,s2⟩:=step n a b hn hb;have l2:=hM y (aq hy) (h1▸c.1);rw[zG hp] at s1;have s2:=s2 c.1;rw[zG hkx] at s2;exact⟨b.toNat,_,_,Bt mb.1 (by rw[l2];exact mb.2),Bt mb.1 mb.2,s2,s1⟩
  .rename_i c;intro a p q hp hq;have la:a<x.items.length:=(List.getElem?_eq_some_iff.1 hp).1;obtain⟨s1,s2⟩:=step a a a (by rw[rD c];exact MH la) (by rw[rD (by rw[<-h1,<-h3];exact c)];exact MH (by omega));rw[zG hp,zG hq] at s1;refine⟨s1,λk kx ky q1 q2=>?_⟩;have s2:=s2 k
   rwa [zG q1,zG q2] at s2
end
section
variable {N N':List al}{cv cv':Int->Int->Int}{x y x':al}{S:Int->Prop}{root v:Int}{φ:Int->Int}
def I4 {m}(hm:m<50)(o:LO (Rt m cv) (iota m)):(Gb cv m).Pairwise λa b=>cv a b<0:=by
 have h:(Gb cv m).Pairwise λa b=>Rt m cv a b<0:=by
  unfold Gb Tu;rw[dif_pos hm];exact (Mq (Rt m cv) hm (iA m)).choose_spec.1.2 o
 have hr:∀a∈Gb cv m,0<=a/\a<m:=λa ha=>(iA m).2 a ((yA cv m).mem_iff.1 ha);refine h.imp_of_mem λ{a b} ha hb q=>?_;unfold Rt at q
 rwa [By ⟨(hr a ha).1,(hr a ha).2,(hr b hb).1,(hr b hb).2⟩] at q
def I5 m:(iota m).Nodup:=by
 unfold iota;exact anQ _ (λa b (h:a≠b) q=>h (Int.ofNat_inj.1 q)) (akA (n:=m))
structure StO (cv:Int->Int->Int) (m:Nat):Prop where
 tr:∀a b d:Int,0<=a/\a<m->0<=b/\b<m->0<=d/\d<m->cv a b<0->cv b d<0->cv a d<0
 ir:∀a:Int,0<=a/\a<m->¬cv a a<0
 tot:∀a b:Int,0<=a/\a<m->0<=b/\b<m->a≠b->cv a b<0\/cv b a<0
def StO.lo {m}(o:StO cv m):LO (Rt m cv) (iota m):=by
 have hr:∀a∈iota m,0<=a/\a<m:=λa ha=>(iA m).2 a ha;have e:∀a∈iota m,∀b∈iota m,Rt m cv a b=cv a b:=λa ha b hb=>by
  have:=hr a ha;have:=hr b hb;unfold Rt;rw[By ⟨by omega,by omega,by omega,by omega⟩]
 refine⟨λu hu w hw z hz=>?_,λu hu=>?_,λu hu w hw=>?_,I5 m⟩
 .rw[e u hu w hw,e w hw z hz,e u hu z hz];exact o.tr u w z (hr u hu) (hr w hw) (hr z hz)
 .rw[e u hu u hu];exact o.ir u (hr u hu)
 .rw[e u hu w hw,e w hw u hu];exact o.tot u w (hr u hu) (hr w hw)
def WV {α:Type}{R:α->α->Prop}{l l':List α}(hp:l.Perm l')(h:l.Pairwise R)(h':l'.Pairwise R)(asy:∀a∈l,∀b∈l,R a b->R b a->False):l=l':=
 List.Perm.eq_of_pairwise (λa b ha hb q q'=>(asy a ha b (hp.mem_iff.2 hb) q q').elim) h h' hp
def EC (x:al)(p:ε):List (Int×Int):=p.map λa=>(nth x.keys a,nth x.items a)
def zH (k:x.kind=10)(p:ε):xS x p=(EC x p).flatMap λq=>[q.1,q.2]:=by
 unfold xS EC;rw[anr];simp only[k,aks]
def I6 (k:x.kind≠10)(p:ε):xS x p=p.map (nth x.items):=by
 unfold xS;simp only[k,aed]
 induction p with
 |nil=>rfl
 |cons a p ih=>rw[adr,ih];rfl
def Ha {f:Int->Int}:∀{o:ε} {a:Int},0<=a->a<o.length->nth (o.map f) a=f (nth o a):=λ{o a} h0 h=>by
 obtain⟨w,hw⟩:=jD h0 h;have:gt (o.map f) a=some (f w):=by
  unfold gt at hw⊢;rw[By h0] at hw⊢;rw[abF,hw];rfl
 rw[MG this,MG hw]
def Pq {α:Type}{o:ε}{m:Nat}(h:o.length=m)(f:Int->α):(iota m).map (λa=>f (nth o a))=o.map f:=by
 refine al9 λi=>?_;simp only[abF];by_cases hi:i<m
 .rw[mO hi];obtain⟨w,hw⟩:∃w,o[i]?=some w:=⟨_,abt (by omega)⟩;rw[hw,aku,aku,zG hw]
 .rw[agW (by rw[lG];omega),agW (by omega)];rfl
end
section
variable {N N':List al}{cv cv':Int->Int->Int}{x y x':al}{root v:Int}{φ:Int->Int}{H:Int->Nat}{f:Nat}
structure KOr (N:List al) (H:Int->Nat):Prop where
 F:FlE
 sk:SKs N
 ix:lF N N.length
 mo:∀x∈N,oi x
 nk:∀x∈N,x.kind≠10->x.keys=[]
 rk:∀u v,KN N u->Edge N u v->KN N v/\H v<H u
 tw:∀x∈N,x.keys.Pairwise λy x=>∀f,¬xW N f x y
 sm:∀x∈N,x.kind=10->x.items.length<50
def KOr.kn (K:KOr N H)(hx:x∈N){k}(h:k∈x.keys):KN N k:=.key hx h
def KOr.so (K:KOr N H)(hx:x∈N)(k:x.kind=10)(hf:∀k∈x.keys,H k<f):StO (λa b=>kF N f (nth x.keys a) (nth x.keys b)) x.items.length:=by
 have hl:=K.mo x hx k;have C:=TW K.F K.sk K.ix f;have mem:∀a:Int,0<=a/\a<x.items.length->nth x.keys a∈x.keys:=λa h=>bW h.1 (by rw[hl];exact h.2);have ir:∀a:Int,0<=a/\a<x.items.length->IR N.length (nth x.keys a):=λa h=>(K.ix x hx).1 _ (mem a h);refine⟨λa b d ha hb hd p q=>C.lt (ir a ha) (ir b hb) (ir d hd) p (by omega),λa ha=>by rw[C.rf (ir a ha)];omega,λa b ha hb ne=>?_⟩;have an:=C.an _ _ (ir a ha) (ir b hb);have an':=C.an _ _ (ir b hb) (ir a ha);have nz:kF N f (nth x.keys a) (nth x.keys b)≠0:=λz=>by
  have z':=(C.z (ir a ha) (ir b hb)).1 z;have s1:=EB K.sk K.ix K.mo K.rk f _ _ (K.kn hx (mem a ha)) (K.kn hx (mem b hb)) (ir a ha) (ir b hb) (hf _ (mem a ha)) (hf _ (mem b hb)) z;have s2:=EB K.sk K.ix K.mo K.rk f _ _ (K.kn hx (mem b hb)) (K.kn hx (mem a ha)) (ir b hb) (ir a ha) (hf _ (mem b hb)) (hf _ (mem a ha)) z';have g:∀a:Int,0<=a/\a<x.items.length->x.keys[a.toNat]?=some (nth x.keys a):=λa h=>Bt h.1 (by rw[hl];exact h.2);obtain⟨l1,g1⟩:=List.getElem?_eq_some_iff.1 (g a ha);obtain⟨l2,g2⟩:=List.getElem?_eq_some_iff.1 (g b hb);have pw:=List.pairwise_iff_getElem.1 (K.tw x hx);rcases ang a.toNat b.toNat with h|h|h
  .have:=pw _ _ l1 l2 h f;rw[g1,g2] at this;exact this s2
  .exact ne (by omega)
  .have:=pw _ _ l2 l1 h f;rw[g1,g2] at this;exact this s1
 show kF N f (nth x.keys a) (nth x.keys b)<0\/kF N f (nth x.keys b) (nth x.keys a)<0;omega
def RE {m:Nat}{o ks is:ε}{g h:Int->Int}(ho:o.length=m)(hk:ks=o.map g)(hi:is=o.map h):(iota m).map (λa=>(nth ks a,nth is a))=o.map λa=>(g a,h a):=by
 rw[<-Pq ho λa=>(g a,h a)];refine alA λa ha=>?_;have r:=(iA m).2 a ha;rw[hk,hi,Ha r.1 (by rw[ho];exact r.2),Ha r.1 (by rw[ho];exact r.2)]
def TY (K:KOr N H)(E:vO φ x x')(hx:x∈N)(hf:∀k∈x.keys,H k<f)(ih:∀k∈x.keys,∀l∈x.keys,kF N' f (φ k) (φ l)=kF N f k l) :
  rK (kF N' f) x'=(rK (kF N f) x).map φ:=by
 obtain⟨o,ho,hoi,hi,hk⟩:=E.e;have il:=E.il;have ol:o.length=x.items.length:=by rw[ho.length_eq,lG]
 by_cases k:x.kind=10
 .rw[By k] at hk;have k':x'.kind=10:=by rw[E.k,k]
  have hl:=K.mo x hx k;unfold rK;rw[zH k',zH k,List.map_flatMap];have key:EC x' (j5 (kF N' f) x')=(j5 (kF N f) x).map λa=>(φ (nth x.keys a),φ (nth x.items a)):=by
   have base:(iota x.items.length).map (λa=>(nth x'.keys a,nth x'.items a))=o.map λa=>(φ (nth x.keys a),φ (nth x.items a)):=RE ol hk hi;by_cases c:x.kind=10/\x.ord=false
   .have c':x'.kind=10/\x'.ord=false:=⟨k',by rw[E.o];exact c.2⟩;have so:=K.so hx k hf;have nk:∀a:Int,0<=a/\a<x.items.length->nth x'.keys a=φ (nth x.keys (nth o a))/\nth x.keys (nth o a)∈x.keys/\(0<=nth o a/\nth o a<x.items.length):=λa h=>by
     have r:=(iA x.items.length).2 _ (ho.mem_iff.1 (bW h.1 (by rw[ol];exact h.2)));exact⟨by rw[hk,Ha h.1 (by rw[ol];exact h.2)],bW r.1 (by rw[hl];exact r.2),r⟩
    have ev:∀a b:Int,0<=a/\a<x.items.length->0<=b/\b<x.items.length->kF N' f (nth x'.keys a) (nth x'.keys b)=kF N f (nth x.keys (nth o a)) (nth x.keys (nth o b)):=λa b ha hb=>by
     obtain⟨e1,m1,_⟩:=nk a ha;obtain⟨e2,m2,_⟩:=nk b hb;rw[e1,e2,ih _ m1 _ m2]
    have nd:o.Nodup:=ho.symm.nodup (I5 _);have inj:∀a b:Int,0<=a/\a<x.items.length->0<=b/\b<x.items.length->nth o a=nth o b->a=b:=λa b ha hb e=>by
     have g1:=Bt (l:=o) ha.1 (by rw[ol];exact ha.2);have g2:=Bt (l:=o) hb.1 (by rw[ol];exact hb.2);rw[e,<-g2] at g1;obtain⟨l1,_⟩:=List.getElem?_eq_some_iff.1 g2;have:=(List.getElem?_inj (by have:=ha.2;omega) nd).1 g1;omega
    have so':StO (λa b=>kF N' f (nth x'.keys a) (nth x'.keys b)) x.items.length:=by
     refine⟨λa b d ha hb hd p q=>?_,λa ha p=>?_,λa b ha hb ne=>?_⟩
     .rw[ev a b ha hb] at p;rw[ev b d hb hd] at q;rw[ev a d ha hd];exact so.tr _ _ _ (nk a ha).2.2 (nk b hb).2.2 (nk d hd).2.2 p q
     .rw[ev a a ha ha] at p;exact so.ir _ (nk a ha).2.2 p
     .rw[ev a b ha hb,ev b a hb ha];exact so.tot _ _ (nk a ha).2.2 (nk b hb).2.2 λe=>ne (inj a b ha hb e)
    have sm:=K.sm x hx k;have e1:j5 (kF N f) x=Gb (λa b=>kF N f (nth x.keys a) (nth x.keys b)) x.items.length:=By c;have e2:j5 (kF N' f) x'=Gb (λa b=>kF N' f (nth x'.keys a) (nth x'.keys b)) x.items.length:=by
     unfold j5;rw[By c',il]
    have s1:=I4 sm so.lo;have s2:=I4 sm so'.lo;have r1:∀a∈Gb (λa b=>kF N f (nth x.keys a) (nth x.keys b)) x.items.length,0<=a/\a<x.items.length:=λa ha=>(iA _).2 a ((yA _ _).mem_iff.1 ha);have r2:∀a∈Gb (λa b=>kF N' f (nth x'.keys a) (nth x'.keys b)) x.items.length,0<=a/\a<x.items.length:=λa ha=>(iA _).2 a ((yA _ _).mem_iff.1 ha);rw[e1,e2];unfold EC;refine WV (R:=λp q=>kF N' f p.1 q.1<0) ?_ ?_ ?_ ?_
    .refine ((yA _ _).map _).trans ?_;rw[base];exact (ho.map _).trans ((yA _ _).map _).symm
    .exact anQ _ (λa b h=>h) s2
    .refine anQ _ (λa b h=>h) (s1.imp_of_mem λ{a b} ha hb h=>?_);show kF N' f (φ (nth x.keys a)) (φ (nth x.keys b))<0;rw[ih _ (bW (r1 a ha).1 (by rw[hl];exact (r1 a ha).2)) _ (bW (r1 b hb).1 (by rw[hl];exact (r1 b hb).2))];exact h
    .intro p hp q hq h1 h2;obtain⟨a,ha,rfl⟩:=List.mem_map.1 hp;obtain⟨b,hb,rfl⟩:=List.mem_map.1 hq;exact so'.ir a (r2 a ha) (so'.tr a b a (r2 a ha) (r2 b hb) (r2 a ha) h1 h2)
   .have c':¬(x'.kind=10/\x'.ord=false):=(by rw[E.k,E.o];exact c);rw[rD c,rD c',il];unfold EC;rw[base,hoi c]
  rw[key,anr];unfold EC;rw[anr];rfl
 .have k':x'.kind≠10:=by rw[E.k];exact k
  unfold rK;rw[I6 k',I6 k,rD (λq=>k q.1),rD (λq=>k' q.1),il,hi,Pq (by rw[aeI];exact ol) (λa=>a) |>.trans (List.map_id _),akr,hoi (λq=>k q.1)];rfl
end
section
variable {N N':List al}{cv cv':Int->Int->Int}{x y x' y':al}{root v:Int}{φ:Int->Int}{H:Int->Nat}
def Pr {α β:Type}{c:α->α->Int}{c':β->β->Int}{g:α->β}:∀{l m:List α},(∀a∈l,∀b∈m,c' (g a) (g b)=c a b)->qG c' (l.map g) (m.map g)=qG c l m
 |[],[],_=>rfl
 |[],_::_,_=>rfl
 |_::_,[],_=>rfl
 |a::l,b::m,h=>by
  simp only[ab4,qG];rw[h a (by simp) b (by simp),Pr λa ha b hb=>h a (BY _ ha) b (BY _ hb)]
def I7 (hm:oi x){w}(h:w∈rK cv x):w∈x.keys\/w∈x.items:=by
 unfold rK xS at h;obtain⟨a,ha,hw⟩:=List.mem_flatMap.1 h;have r:=eQ ha;split at hw
 .rename_i k;simp at hw;rcases hw with rfl|rfl
  .exact .inl (bW r.1 (by rw[hm k];exact r.2))
  .exact .inr (bW r.1 r.2)
 .simp at hw;rw[hw];exact .inr (bW r.1 r.2)
def aaV (ex:x'.kind=x.kind/\x'.text=x.text/\x'.ord=x.ord)(ey:y'.kind=y.kind/\y'.text=y.text/\y'.ord=y.ord)(hx:rK cv' x'=(rK cv x).map φ)(hy:rK cv' y'=(rK cv y).map φ)
  (h:∀a∈rK cv x,∀b∈rK cv y,cv' (φ a) (φ b)=cv a b):Ev cv' x' y'=Ev cv x y:=by
 rw[G9,G9];unfold c1 c2 c3 rkO;rw[ex.1,ex.2.1,ex.2.2,ey.1,ey.2.1,ey.2.2,hx,hy,Pr h]
theorem MI (K:KOr N H)(I:Bo N v N' φ):∀f a b,iC N v a->iC N v b->KN N a->KN N b->H a<f->H b<f->kF N' f (φ a) (φ b)=kF N f a b
 |0,_,_,_,_,_,_,h,_=>by omega
 |f+1,a,b,ra,rb,ka,kb,ha,hb=>by
  obtain⟨x,hx⟩:=cI rfl (KN.ir K.ix ka);obtain⟨y,hy⟩:=cI rfl (KN.ir K.ix kb);obtain⟨x',hx',ex⟩:=I.nd a x ra hx;obtain⟨y',hy',ey⟩:=I.nd b y rb hy;have low:∀{u z},iC N v u->KN N u->H u<f+1->gt N u=some z->∀w,(w∈z.keys\/w∈z.items)->iC N v w/\KN N w/\H w<f:=λ{u z} r k h hz w hw=>by
   have e:Edge N u w:=⟨z,hz,hw⟩;obtain⟨q1,q2⟩:=K.rk u w k e;exact⟨r.step e,q1,by omega⟩
  have ent:∀{u z z'},iC N v u->KN N u->H u<f+1->gt N u=some z->vO φ z z'->rK (kF N' f) z'=(rK (kF N f) z).map φ:=λ{u z z'} r k h hz e=>
   TY K e (aq hz) (λw hw=>(low r k h hz w (.inl hw)).2.2) λw hw l hl=>by
    obtain⟨p1,p2,p3⟩:=low r k h hz w (.inl hw);obtain⟨p4,p5,p6⟩:=low r k h hz l (.inl hl);exact MI K I f w l p1 p4 p2 p5 p3 p6
  unfold kF O7;simp only[hx,hy,hx',hy'];refine aaV ⟨ex.k,ex.t,ex.o⟩ ⟨ey.k,ey.t,ey.o⟩ (ent ra ka ha hx ex) (ent rb kb hb hy ey) λw hw l hl=>?_;obtain⟨p1,p2,p3⟩:=low ra ka ha hx w (I7 (K.mo x (aq hx)) hw);obtain⟨p4,p5,p6⟩:=low rb kb hb hy l (I7 (K.mo y (aq hy)) hl);exact MI K I f w l p1 p4 p2 p5 p3 p6
end
section
variable {N N':List al}{x x':al}{root v:Int}{φ:Int->Int}{H:Int->Nat}{F F':Int->List UInt8}
def Ps (K:KOr N H)(hb:∀u,H u<=N.length)(I:Bo N v N' φ)(d':Vd N' (φ v)){u}(r:iC N v u)(hx:gt N u=some x)(hx':gt N' (φ u)=some x')(E:vO φ x x') :
  rK (kG N') x'=(rK (kG N) x).map φ:=by
 have hm:=aq hx;have key:∀w∈x.keys,iC N v w/\KN N w/\H w<N.length+1:=λw hw=>⟨r.step ⟨x,hx,.inl hw⟩,K.kn hm hw,by have:=hb w;omega⟩;have e:=TY (f:=N.length+1) (N':=N') K E hm (λw hw=>(key w hw).2.2) λw hw l hl=>by
  obtain⟨p1,p2,p3⟩:=key w hw;obtain⟨p4,p5,p6⟩:=key l hl;exact MI K I _ w l p1 p4 p2 p5 p3 p6
 obtain⟨H',b',r'⟩:=d'.Mn;have hm':=aq hx';have s:j5 (kG N') x'=j5 (kF N' (N.length+1)) x':=Dz (d'.map hm') λw hw l hl=>by
  have:=I.len;exact Kq d' r' N'.length _ _ (by omega) (by omega) w l (.key hm' hw) (.key hm' hl) (b' w) (b' l)
 unfold rK at e⊢;rw[s];exact e
def GM (F:Int->List UInt8):Bool->Bool->ε->List UInt8
 |true,b,k::i::r=>(if b then [] else [44])++(F k++[61])++F i++GM F true false r
 |false,b,i::r=>(if b then [] else [44])++F i++GM F false false r
 |_,_,_=>[]
def RF:∀(o:ε) b,tq F x b o=GM F (decide (x.kind=10)) b (xS x o)
 |[],b=>by
  unfold xS tq;cases decide (x.kind=10)<;>simp[GM]
 |a::o,b=>by
  rw[rC];unfold tq;rw[RF o false];by_cases k:x.kind=10
  .simp[k,GM]
  .simp[k,GM]
def I8:∀(l:ε) (k b:Bool),(∀w∈l,F' (φ w)=F w)->GM F' k b (l.map φ)=GM F k b l
 |[],true,b,_=>rfl
 |[],false,b,_=>rfl
 |[_],true,b,_=>rfl
 |a::c::r,true,b,h=>by
  simp only[ab4,GM];rw[h a (by simp),h c (by simp),I8 r true false λw hw=>h w (by simp[hw])]
 |a::r,false,b,h=>by
  simp only[ab4,GM];rw[h a (by simp),I8 r false false λw hw=>h w (by simp[hw])]
def aaW (hk:x'.kind=x.kind)(ht:x'.text=x.text):om x'=om x:=by
 unfold om;rw[hk,ht]
theorem Hb (K:KOr N H)(hb:∀u,H u<=N.length)(ht:∀x∈N,x.kind=11->x.items.length=1)(I:Bo N v N' φ)(d':Vd N' (φ v)):∀f u,iC N v u->IR N.length u->eZ N' f (φ u)=eZ N f u
 |0,u,_,_=>rfl
 |f+1,u,r,hu=>by
  obtain⟨x,hx⟩:=cI rfl hu;obtain⟨x',hx',E⟩:=I.nd u x r hx;have hm:=aq hx;have ih:∀w,(w∈x.keys\/w∈x.items)->eZ N' f (φ w)=eZ N f w:=λw hw=>Hb K hb ht I d' f w (r.step ⟨x,hx,hw⟩) (by
   rcases hw with hw|hw
   .exact (K.ix x hm).1 w hw
   .exact (K.ix x hm).2 w hw)
  have e:=Ps K hb I d' r hx hx' E;unfold eZ;simp only[hx,hx'];have o1:cn N u=j5 (kG N) x:=by unfold cn;rw[hx]
  have o2:cn N' (φ u)=j5 (kG N') x':=by unfold cn;rw[hx']
  rw[o1,o2];unfold DC;rw[E.k,E.t];by_cases k11:x.kind=11
  .rw[By k11,By k11];have hl:=ht x hm k11;obtain⟨o,_,q1,q2,_⟩:=E.e;have q1:=q1 λq=>by omega
   have n0:nth x'.items 0=φ (nth x.items 0):=by
    rw[q2,q1,hl];exact Ha (f:=λa=>φ (nth x.items a)) (o:=iota 1) (a:=0) (by omega) (by rw[lG];omega)
   rw[n0,ih _ (.inr (bW (by omega) (by omega)))]
  .rw[AT k11,AT k11];by_cases k9:x.kind<9
   .rw[By k9,By k9,aaW E.k E.t]
   .rw[AT k9,AT k9];have b:br x'=br x:=(by unfold br;rw[E.k,E.o]);rw[b,RF,RF,E.k];show _++GM _ _ _ (rK (kG N') x')++_=_++GM _ _ _ (rK (kG N) x)++_;rw[e,I8 _ _ _ λw hw=>ih w (I7 (K.mo x hm) hw)]
end
end Go.Sh
