
import Derived.Test.YtpojbnjkkkiccaaGreatDoorPai
import Derived.Test.YtpojbnjkkkiccaaGreatDoorPah
set_option linter.all false
namespace Go.Sh
open Go Go.Ago Go.Proofs
section
variable {N:List aq}{cv:Int->Int->Int}{x y:aq}{S:Int->Prop}
def kX (x:aq)(p:ε):ε:=p.flatMap λa=>if x.kind=10 then [nth x.keys a,nth x.items a] else [nth x.items a]
theorem o6 {a p}:kX x (a::p)=(if x.kind=10 then [nth x.keys a,nth x.items a] else [nth x.items a])++kX x p:=rfl
def QG (hk:x.kind=y.kind):∀p q,(match qj cv x y p q with
  |some c=>c
  |none=>if p.length<q.length then -1 else if q.length<p.length then 1 else 0)=rv cv (kX x p) (kX y q)
 |[],[]=>rfl
 |[],b::q=>by
  rw[o6];split<;>simp_all[qj,rv,kX]<;>split<;>simp[rv]
 |a::p,[]=>by
  rw[o6];split<;>simp_all[qj,rv,kX]<;>split<;>simp[rv]
 |a::p,b::q=>by
  have ih:=QG hk p q;rw[o6,o6,<-hk];unfold qj;by_cases h:x.kind=10
  .simp only[h,amt,acV,afk,anX,rv];by_cases h1:cv (nth x.keys a) (nth y.keys b)=0
   .by_cases h2:cv (nth x.items a) (nth y.items b)=0
    .simp only[h1,h2,ne_eq,aio,afM,<-ih,abK,apH]
    .simp[h1,h2]
   .simp[h1]
  .simp only[h,afM,acV,afk,false_and,rv];by_cases h2:cv (nth x.items a) (nth y.items b)=0
   .simp only[h2,ne_eq,aio,afM,<-ih,abK,apH]
   .simp[h2]
noncomputable def wQ (cv:Int->Int->Int)(x:aq):ε:=kX x (jy cv x)
def sg2 (a b:Int):Int:=if a<b then -1 else if b<a then 1 else 0
def rkO (x:aq):Int:=if x.ord then 1 else 0
noncomputable def c3 (cv:Int->Int->Int)(x y:aq):Int:=if vc x.kind x.text y.text≠0 then vc x.kind x.text y.text else rv cv (wQ cv x) (wQ cv y)
noncomputable def c2 (cv:Int->Int->Int)(x y:aq):Int:=if sg2 (rkO x) (rkO y)≠0 then sg2 (rkO x) (rkO y) else c3 cv x y
noncomputable def c1 (cv:Int->Int->Int)(x y:aq):Int:=if sg2 x.kind y.kind≠0 then sg2 x.kind y.kind else c2 cv x y
def I6:Fa cv x y=c1 cv x y:=by
 unfold Fa c1 sg2;by_cases h1:x.kind<y.kind
 .simp[h1]
 by_cases h2:y.kind<x.kind
 .simp[h1,h2]
 have hk:x.kind=y.kind:=by omega
 simp only[h1,h2,afM,ne_eq,aio];unfold c2 sg2 rkO;by_cases h3:x.ord=y.ord
 .simp only[h3,aio,afM,Int.lt_irrefl];unfold c3;by_cases h4:vc x.kind x.text y.text=0
  .simp only[h4,ne_eq,aio,afM];unfold wQ;rw[<-QG hk,zG,zG];rfl
  .simp[h4]
 .cases hx:x.ord<;>cases hy:y.ord<;>simp_all
def SN (cv:Int->Int->Int)(S:Int->Prop)(x:aq):Prop:=SK x.kind x.text/\∀v∈wQ cv x,S v
theorem ab8 {β:Type}{T:β->Prop}(f:β->Int):CM T (λa b=>sg2 (f a) (f b)):=(CM.num.on (S:=λ_=>True) f).sub λ_ _=>trivial
theorem Gs {a b:Int}(h:sg2 a b=0):a=b:=by
 unfold sg2 at h
 grind
theorem afN (hF:FlE)(hc:CM S cv):CM (SN cv S) (Fa cv):=by
 refine CM.congr (c:=c1 cv) ?_ λa b _ _=>I6.symm;refine (ab8 aq.kind).lex (c':=c2 cv) λa _=>?_;refine (ab8 rkO).lex (c':=c3 cv) λb _=>?_;refine CM.congr (c:=λx y=>if vc a.kind x.text y.text≠0 then vc a.kind x.text y.text else rv cv (wQ cv x) (wQ cv y)) ?_ λx y hx _=>by
  unfold c3;rw[show a.kind=x.kind from Gs hx.1.2]
 refine CM.lex (c:=λx y:aq=>vc a.kind x.text y.text) (((afl hF a.kind).on aq.text).sub λx hx=>?_) (c':=λx y=>rv cv (wQ cv x) (wQ cv y)) λd _=>((hc.row.on (wQ cv)).sub λx hx=>hx.1.1.1.2);show SK a.kind x.text;rw[show a.kind=x.kind from Gs hx.1.2];exact hx.1.1.1
def ab9 {l:ε}{n}(h:∀v∈l,IR n v)(hn:0<n) a:IR n (nth l a):=by
 unfold nth;cases e:gt l a with
 |none=>exact⟨akz _,by simpa using hn⟩
 |some v=>exact h v (ax e)
def afO (hI:pC N N.length)(hx:x∈N){p}:∀v∈kX x p,IR N.length v:=λv hv=>by
 have hn:0<N.length:=List.length_pos_of_mem hx;unfold kX at hv;obtain⟨a,_,hv⟩:=List.mem_flatMap.1 hv;have h1:=ab9 (hI x hx).1 hn a;have h2:=ab9 (hI x hx).2 hn a;split at hv<;>simp at hv
 .rcases hv with rfl|rfl
  .exact h1
  .exact h2
 .rw[hv];exact h2
def SKs (N:List aq):Prop:=∀x∈N,SK x.kind x.text
theorem Vz (hF:FlE)(hN:SKs N)(hI:pC N N.length):∀f,CM (IR N.length) (kO N f)
 |0=>CM.zero
 |f+1=>by
  have ih:=Vz hF hN hI f;have h:=afN hF ih;have nd:∀i,IR N.length i->∃x,gt N i=some x/\SN (kO N f) (IR N.length) x:=λi hi=>by
   obtain⟨x,hx⟩:=fj rfl hi;exact⟨x,hx,hN x (ax hx),afO hI (ax hx)⟩
  refine⟨λa b ha hb=>?_,λa b d ha hb hd=>?_⟩
  .obtain⟨x,hx,sx⟩:=nd a ha;obtain⟨y,hy,sy⟩:=nd b hb;unfold kO QF;simp only[hx,hy];exact h.an x y sx sy
  .obtain⟨x,hx,sx⟩:=nd a ha;obtain⟨y,hy,sy⟩:=nd b hb;obtain⟨z,hz,sz⟩:=nd d hd;unfold kO QF;simp only[hx,hy,hz];exact h.tr x y z sx sy sz
end
section
variable {N:List aq}{cv:Int->Int->Int}{x y:aq}{S:Int->Prop}{root:Int}
def QH {α:Type}{c:α->α->Int}:∀{l m:List α},rv c l m=0->l.length=m.length/\∀(i:Nat) a b,l[i]?=some a->m[i]?=some b->c a b=0
 |[],[],_=>⟨rfl,λi a b h=>by simp at h⟩
 |[],_::_,e=>by simp[rv] at e
 |_::_,[],e=>by simp[rv] at e
 |a::l,b::m,e=>by
  unfold rv at e;split at e
  .rename_i h;exact absurd e h
  .rename_i h;have ih:=QH e;refine⟨by simp[ih.1],λi a' b' h1 h2=>?_⟩;cases i with
   |zero=>simp at h1 h2;subst h1 h2;omega
   |succ i=>exact ih.2 i a' b' (by simpa using h1) (by simpa using h2)
def KU:∀p,(kX x p).length=if x.kind=10 then 2*p.length else p.length
 |[]=>by simp[kX]
 |a::p=>by
  rw[o6,aby,KU p];split<;>simp<;>omega
def KV:∀{p:ε} {i:Nat} {a},p[i]?=some a->if x.kind=10 then (kX x p)[2*i]?=some (nth x.keys a)/\(kX x p)[2*i+1]?=some (nth x.items a) else (kX x p)[i]?=some (nth x.items a)
 |[],i,a,h=>by simp at h
 |b::p,0,a,h=>by
  simp at h;subst h;rw[o6];split<;>simp
 |b::p,i+1,a,h=>by
  have ih:=KV (p:=p) (i:=i) (a:=a) (by simpa using h);rw[o6];split
  .rename_i k;simp only[k,amt] at ih;refine⟨?_,?_⟩
   .rw[show 2*(i+1)=2*i+2 by omega,agj (by simp)];simpa using ih.1
   .rw[show 2*(i+1)+1=2*i+1+2 by omega,agj (by simp)];simpa using ih.2
  .rename_i k;simp only[k,afM] at ih;rw[agj (by simp)];simpa using ih
def Yb (sx:SK x.kind x.text)(sy:SK y.kind y.text)(h:Fa cv x y=0):x.kind=y.kind/\x.text=y.text/\x.ord=y.ord/\x.items.length=y.items.length /\
  ∀(i:Nat) a b,(jy cv x)[i]?=some a->(jy cv y)[i]?=some b->(x.kind=10->cv (nth x.keys a) (nth y.keys b)=0)/\cv (nth x.items a) (nth y.items b)=0:=by
 rw[I6] at h;unfold c1 at h;split at h
 .rename_i q;exact absurd h q
 rename_i q1;have hk:x.kind=y.kind:=Gs (by omega);unfold c2 at h;split at h
 .rename_i q;exact absurd h q
 rename_i q2;have ho:rkO x=rkO y:=Gs (by omega);unfold c3 at h;split at h
 .rename_i q;exact absurd h q
 rename_i q3;have ht:x.text=y.text:=XU sx (by rw[hk];exact sy) (by omega);obtain⟨hl,hg⟩:=QH h;have e:x.items.length=y.items.length:=by
  unfold wQ at hl;rw[KU,KU,<-hk,zG,zG] at hl;split at hl<;>omega
 refine⟨hk,ht,?_,e,λi a b h1 h2=>?_⟩
 .unfold rkO at ho;cases hx:x.ord<;>cases hy:y.ord<;>simp_all
 .have g1:=KV (x:=x) h1;have g2:=KV (x:=y) h2;rw[<-hk] at g2;by_cases k:x.kind=10
  .simp only[k,amt] at g1 g2;exact⟨λ_=>hg _ _ _ g1.1 g2.1,hg _ _ _ g1.2 g2.2⟩
  .simp only[k,afM] at g1 g2;exact⟨λq=>absurd q k,hg _ _ _ g1 g2⟩
def Oh {l:ε}{a:Int}{v}(h:gt l a=some v):nth l a=v:=by
 unfold nth;rw[h];rfl
def AF {l:ε}{a:Nat}{v}(h:l[a]?=some v):nth l (a:Int)=v:=Oh (by unfold gt;rw[By (by omega)];simpa using h)
def Oi {m a:Nat}(h:a<m):(iota m)[a]?=some (a:Int):=qi h
def sF (h:¬(x.kind=10/\x.ord=false)):jy cv x=iota x.items.length:=by
 unfold jy;rw[AT h]
def Yc {a:Nat}(ha:a<x.items.length):∃i:Nat,(jy cv x)[i]?=some (a:Int):=by
 have:(a:Int)∈jy cv x:=(w6 cv x).mem_iff.2 (IN (Oi ha));exact List.mem_iff_getElem?.1 this
def CA {l:ε}{a:Int}(h0:0<=a)(h:a<l.length):l[a.toNat]?=some (nth l a):=by
 obtain⟨v,hv⟩:=nf h0 h;rw[Oh hv];exact (aB hv).2
theorem Gt (hN:SKs N)(hI:pC N N.length)(hM:∀x∈N,qK x){H:Int->Nat}(hH:∀u v,KN N u->Edge N u v->KN N v/\H v<H u):∀f i j,KN N i->KN N j->IR N.length i->IR N.length j->H i<f->H j<f->kO N f i j=0->zI N f i j
 |0,_,_,_,_,_,_,h,_,_=>by omega
 |f+1,i,j,ki,kj,ri,rj,hi,hj,e=>by
  obtain⟨x,hx⟩:=fj rfl ri;obtain⟨y,hy⟩:=fj rfl rj;unfold kO QF at e;simp only[hx,hy] at e;obtain⟨h1,h2,h3,h4,h5⟩:=Yb (hN x (ax hx)) (hN y (ax hy)) e;have low:∀{i x},KN N i->H i<f+1->gt N i=some x->∀v,(v∈x.keys\/v∈x.items)->KN N v/\H v<f/\IR N.length v:=λ{i x} ki hi hx v hv=>by
   obtain⟨a,b⟩:=hH i v ki ⟨x,hx,hv⟩;exact⟨a,by omega,KN.ir hI a⟩
  refine⟨x,y,hx,hy,h1,h2,h3,h4,?_⟩;have step:∀(n:Nat) a b,(jy (kO N f) x)[n]?=some a->(jy (kO N f) y)[n]?=some b->zI N f (nth x.items a) (nth y.items b)/\(x.kind=10->zI N f (nth x.keys a) (nth y.keys b)):=λn a b ha hb=>by
   have ma:=iH (IN ha);have mb:=iH (IN hb);obtain⟨q1,q2⟩:=h5 n a b ha hb;have ia:=fG ma.1 ma.2;have ib:=fG mb.1 mb.2;obtain⟨p1,p2,p3⟩:=low ki hi hx _ (.inr ia);obtain⟨p4,p5,p6⟩:=low kj hj hy _ (.inr ib);refine⟨Gt hN hI hM hH f _ _ p1 p4 p3 p6 p2 p5 q2,λk=>?_⟩;have l1:=hM x (ax hx) k;have l2:=hM y (ax hy) (h1▸k);have ia:=fG (l:=x.keys) ma.1 (by rw[l1];exact ma.2);have ib:=fG (l:=y.keys) mb.1 (by rw[l2];exact mb.2);obtain⟨p1,p2,p3⟩:=low ki hi hx _ (.inl ia);obtain⟨p4,p5,p6⟩:=low kj hj hy _ (.inl ib);exact Gt hN hI hM hH f _ _ p1 p4 p3 p6 p2 p5 (q1 k)
  split
  .rename_i c;intro a kx p hkx hp;have la:a<x.items.length:=(List.getElem?_eq_some_iff.1 hp).1;obtain⟨n,hn⟩:=Yc (cv:=kO N f) la;have ln:n<(jy (kO N f) y).length:=by
    have:=(List.getElem?_eq_some_iff.1 hn).1;rw[zG] at this⊢;omega
   obtain⟨b,hb⟩:∃b,(jy (kO N f) y)[n]?=some b:=⟨_,aci ln⟩;have mb:=iH (IN hb);obtain⟨s1,s2⟩:=step n a b hn hb;have l2:=hM y (ax hy) (h1▸c.1);rw[AF hp] at s1;have s2:=s2 c.1;rw[AF hkx] at s2;exact⟨b.toNat,_,_,CA mb.1 (by rw[l2];exact mb.2),CA mb.1 mb.2,s2,s1⟩
  .rename_i c;intro a p q hp hq;have la:a<x.items.length:=(List.getElem?_eq_some_iff.1 hp).1;obtain⟨s1,s2⟩:=step a a a (by rw[sF c];exact Oi la) (by rw[sF (by rw[<-h1,<-h3];exact c)];exact Oi (by omega));rw[AF hp,AF hq] at s1;refine⟨s1,λk kx ky q1 q2=>?_⟩;have s2:=s2 k
   rwa [AF q1,AF q2] at s2
end
section
variable {N N':List aq}{cv cv':Int->Int->Int}{x y x':aq}{S:Int->Prop}{root v:Int}{φ:Int->Int}
def Fe {m}(hm:m<50)(o:LO (To m cv) (iota m)):(Gm cv m).Pairwise λa b=>cv a b<0:=by
 have h:(Gm cv m).Pairwise λa b=>To m cv a b<0:=by
  unfold Gm Vu;rw[dif_pos hm];exact (Oa (To m cv) hm (ic m)).choose_spec.1.2 o
 have hr:∀a∈Gm cv m,0<=a/\a<m:=λa ha=>(ic m).2 a ((xN cv m).mem_iff.1 ha);refine h.imp_of_mem λ{a b} ha hb q=>?_;unfold To at q
 rwa [By ⟨(hr a ha).1,(hr a ha).2,(hr b hb).1,(hr b hb).2⟩] at q
def oq m:(iota m).Nodup:=by
 unfold iota;exact apx _ (λa b (h:a≠b) q=>h (Int.ofNat_inj.1 q)) (ama (n:=m))
structure StO (cv:Int->Int->Int) (m:Nat):Prop where
 tr:∀a b d:Int,0<=a/\a<m->0<=b/\b<m->0<=d/\d<m->cv a b<0->cv b d<0->cv a d<0
 ir:∀a:Int,0<=a/\a<m->¬cv a a<0
 tot:∀a b:Int,0<=a/\a<m->0<=b/\b<m->a≠b->cv a b<0\/cv b a<0
def StO.lo {m}(o:StO cv m):LO (To m cv) (iota m):=by
 have hr:∀a∈iota m,0<=a/\a<m:=λa ha=>(ic m).2 a ha;have e:∀a∈iota m,∀b∈iota m,To m cv a b=cv a b:=λa ha b hb=>by
  have:=hr a ha;have:=hr b hb;unfold To;rw[By ⟨by omega,by omega,by omega,by omega⟩]
 refine⟨λu hu w hw z hz=>?_,λu hu=>?_,λu hu w hw=>?_,oq m⟩
 .rw[e u hu w hw,e w hw z hz,e u hu z hz];exact o.tr u w z (hr u hu) (hr w hw) (hr z hz)
 .rw[e u hu u hu];exact o.ir u (hr u hu)
 .rw[e u hu w hw,e w hw u hu];exact o.tot u w (hr u hu) (hr w hw)
def MP {α:Type}{R:α->α->Prop}{l l':List α}(hp:l.Perm l')(h:l.Pairwise R)(h':l'.Pairwise R)(asy:∀a∈l,∀b∈l,R a b->R b a->False):l=l':=
 List.Perm.eq_of_pairwise (λa b ha hb q q'=>(asy a ha b (hp.mem_iff.2 hb) q q').elim) h h' hp
def MQ (x:aq)(p:ε):List (Int×Int):=p.map λa=>(nth x.keys a,nth x.items a)
def KW (k:x.kind=10)(p:ε):kX x p=(MQ x p).flatMap λq=>[q.1,q.2]:=by
 unfold kX MQ;rw[apI];simp only[k,amt]
def KX (k:x.kind≠10)(p:ε):kX x p=p.map (nth x.items):=by
 unfold kX;simp only[k,afM]
 induction p with
 |nil=>rfl
 |cons a p ih=>rw[acD,ih];rfl
def I7 {f:Int->Int}:∀{o:ε} {a:Int},0<=a->a<o.length->nth (o.map f) a=f (nth o a):=λ{o a} h0 h=>by
 obtain⟨w,hw⟩:=nf h0 h;have:gt (o.map f) a=some (f w):=by
  unfold gt at hw⊢;rw[By h0] at hw⊢;rw[abh,hw];rfl
 rw[Oh this,Oh hw]
def QI {α:Type}{o:ε}{m:Nat}(h:o.length=m)(f:Int->α):(iota m).map (λa=>f (nth o a))=o.map f:=by
 refine amv λi=>?_;simp only[abh];by_cases hi:i<m
 .rw[qi hi];obtain⟨w,hw⟩:∃w,o[i]?=some w:=⟨_,aci (by omega)⟩;rw[hw,amS,amS,AF hw]
 .rw[ahW (by rw[gD];omega),ahW (by omega)];rfl
end
section
variable {N N':List aq}{cv cv':Int->Int->Int}{x y x':aq}{root v:Int}{φ:Int->Int}{H:Int->Nat}{f:Nat}
structure KOr (N:List aq) (H:Int->Nat):Prop where
 F:FlE
 sk:SKs N
 ix:pC N N.length
 mo:∀x∈N,qK x
 nk:∀x∈N,x.kind≠10->x.keys=[]
 rk:∀u v,KN N u->Edge N u v->KN N v/\H v<H u
 tw:∀x∈N,x.keys.Pairwise λy x=>∀f,¬zI N f x y
 sm:∀x∈N,x.kind=10->x.items.length<50
def KOr.kn (K:KOr N H)(hx:x∈N){k}(h:k∈x.keys):KN N k:=.key hx h
def KOr.so (K:KOr N H)(hx:x∈N)(k:x.kind=10)(hf:∀k∈x.keys,H k<f):StO (λa b=>kO N f (nth x.keys a) (nth x.keys b)) x.items.length:=by
 have hl:=K.mo x hx k;have C:=Vz K.F K.sk K.ix f;have mem:∀a:Int,0<=a/\a<x.items.length->nth x.keys a∈x.keys:=λa h=>fG h.1 (by rw[hl];exact h.2);have ir:∀a:Int,0<=a/\a<x.items.length->IR N.length (nth x.keys a):=λa h=>(K.ix x hx).1 _ (mem a h);refine⟨λa b d ha hb hd p q=>C.lt (ir a ha) (ir b hb) (ir d hd) p (by omega),λa ha=>by rw[C.rf (ir a ha)];omega,λa b ha hb ne=>?_⟩;have an:=C.an _ _ (ir a ha) (ir b hb);have an':=C.an _ _ (ir b hb) (ir a ha);have nz:kO N f (nth x.keys a) (nth x.keys b)≠0:=λz=>by
  have z':=(C.z (ir a ha) (ir b hb)).1 z;have s1:=Gt K.sk K.ix K.mo K.rk f _ _ (K.kn hx (mem a ha)) (K.kn hx (mem b hb)) (ir a ha) (ir b hb) (hf _ (mem a ha)) (hf _ (mem b hb)) z;have s2:=Gt K.sk K.ix K.mo K.rk f _ _ (K.kn hx (mem b hb)) (K.kn hx (mem a ha)) (ir b hb) (ir a ha) (hf _ (mem b hb)) (hf _ (mem a ha)) z';have g:∀a:Int,0<=a/\a<x.items.length->x.keys[a.toNat]?=some (nth x.keys a):=λa h=>CA h.1 (by rw[hl];exact h.2);obtain⟨l1,g1⟩:=List.getElem?_eq_some_iff.1 (g a ha);obtain⟨l2,g2⟩:=List.getElem?_eq_some_iff.1 (g b hb);have pw:=List.pairwise_iff_getElem.1 (K.tw x hx);rcases apv a.toNat b.toNat with h|h|h
  .have:=pw _ _ l1 l2 h f;rw[g1,g2] at this;exact this s2
  .exact ne (by omega)
  .have:=pw _ _ l2 l1 h f;rw[g1,g2] at this;exact this s1
 show kO N f (nth x.keys a) (nth x.keys b)<0\/kO N f (nth x.keys b) (nth x.keys a)<0;omega
def Ts {m:Nat}{o ks is:ε}{g h:Int->Int}(ho:o.length=m)(hk:ks=o.map g)(hi:is=o.map h):(iota m).map (λa=>(nth ks a,nth is a))=o.map λa=>(g a,h a):=by
 rw[<-QI ho λa=>(g a,h a)];refine apk λa ha=>?_;have r:=(ic m).2 a ha;rw[hk,hi,I7 r.1 (by rw[ho];exact r.2),I7 r.1 (by rw[ho];exact r.2)]
def afP (K:KOr N H)(E:xY φ x x')(hx:x∈N)(hf:∀k∈x.keys,H k<f)(ih:∀k∈x.keys,∀l∈x.keys,kO N' f (φ k) (φ l)=kO N f k l) :
  wQ (kO N' f) x'=(wQ (kO N f) x).map φ:=by
 obtain⟨o,ho,hoi,hi,hk⟩:=E.e;have il:=E.il;have ol:o.length=x.items.length:=by rw[ho.length_eq,gD]
 by_cases k:x.kind=10
 .rw[By k] at hk;have k':x'.kind=10:=by rw[E.k,k]
  have hl:=K.mo x hx k;unfold wQ;rw[KW k',KW k,List.map_flatMap];have key:MQ x' (jy (kO N' f) x')=(jy (kO N f) x).map λa=>(φ (nth x.keys a),φ (nth x.items a)):=by
   have base:(iota x.items.length).map (λa=>(nth x'.keys a,nth x'.items a))=o.map λa=>(φ (nth x.keys a),φ (nth x.items a)):=Ts ol hk hi;by_cases c:x.kind=10/\x.ord=false
   .have c':x'.kind=10/\x'.ord=false:=⟨k',by rw[E.o];exact c.2⟩;have so:=K.so hx k hf;have nk:∀a:Int,0<=a/\a<x.items.length->nth x'.keys a=φ (nth x.keys (nth o a))/\nth x.keys (nth o a)∈x.keys/\(0<=nth o a/\nth o a<x.items.length):=λa h=>by
     have r:=(ic x.items.length).2 _ (ho.mem_iff.1 (fG h.1 (by rw[ol];exact h.2)));exact⟨by rw[hk,I7 h.1 (by rw[ol];exact h.2)],fG r.1 (by rw[hl];exact r.2),r⟩
    have ev:∀a b:Int,0<=a/\a<x.items.length->0<=b/\b<x.items.length->kO N' f (nth x'.keys a) (nth x'.keys b)=kO N f (nth x.keys (nth o a)) (nth x.keys (nth o b)):=λa b ha hb=>by
     obtain⟨e1,m1,_⟩:=nk a ha;obtain⟨e2,m2,_⟩:=nk b hb;rw[e1,e2,ih _ m1 _ m2]
    have nd:o.Nodup:=ho.symm.nodup (oq _);have inj:∀a b:Int,0<=a/\a<x.items.length->0<=b/\b<x.items.length->nth o a=nth o b->a=b:=λa b ha hb e=>by
     have g1:=CA (l:=o) ha.1 (by rw[ol];exact ha.2);have g2:=CA (l:=o) hb.1 (by rw[ol];exact hb.2);rw[e,<-g2] at g1;obtain⟨l1,_⟩:=List.getElem?_eq_some_iff.1 g2;have:=(List.getElem?_inj (by have:=ha.2;omega) nd).1 g1;omega
    have so':StO (λa b=>kO N' f (nth x'.keys a) (nth x'.keys b)) x.items.length:=by
     refine⟨λa b d ha hb hd p q=>?_,λa ha p=>?_,λa b ha hb ne=>?_⟩
     .rw[ev a b ha hb] at p;rw[ev b d hb hd] at q;rw[ev a d ha hd];exact so.tr _ _ _ (nk a ha).2.2 (nk b hb).2.2 (nk d hd).2.2 p q
     .rw[ev a a ha ha] at p;exact so.ir _ (nk a ha).2.2 p
     .rw[ev a b ha hb,ev b a hb ha];exact so.tot _ _ (nk a ha).2.2 (nk b hb).2.2 λe=>ne (inj a b ha hb e)
    have sm:=K.sm x hx k;have e1:jy (kO N f) x=Gm (λa b=>kO N f (nth x.keys a) (nth x.keys b)) x.items.length:=By c;have e2:jy (kO N' f) x'=Gm (λa b=>kO N' f (nth x'.keys a) (nth x'.keys b)) x.items.length:=by
     unfold jy;rw[By c',il]
    have s1:=Fe sm so.lo;have s2:=Fe sm so'.lo;have r1:∀a∈Gm (λa b=>kO N f (nth x.keys a) (nth x.keys b)) x.items.length,0<=a/\a<x.items.length:=λa ha=>(ic _).2 a ((xN _ _).mem_iff.1 ha);have r2:∀a∈Gm (λa b=>kO N' f (nth x'.keys a) (nth x'.keys b)) x.items.length,0<=a/\a<x.items.length:=λa ha=>(ic _).2 a ((xN _ _).mem_iff.1 ha);rw[e1,e2];unfold MQ;refine MP (R:=λp q=>kO N' f p.1 q.1<0) ?_ ?_ ?_ ?_
    .refine ((xN _ _).map _).trans ?_;rw[base];exact (ho.map _).trans ((xN _ _).map _).symm
    .exact apx _ (λa b h=>h) s2
    .refine apx _ (λa b h=>h) (s1.imp_of_mem λ{a b} ha hb h=>?_);show kO N' f (φ (nth x.keys a)) (φ (nth x.keys b))<0;rw[ih _ (fG (r1 a ha).1 (by rw[hl];exact (r1 a ha).2)) _ (fG (r1 b hb).1 (by rw[hl];exact (r1 b hb).2))];exact h
    .intro p hp q hq h1 h2;obtain⟨a,ha,rfl⟩:=List.mem_map.1 hp;obtain⟨b,hb,rfl⟩:=List.mem_map.1 hq;exact so'.ir a (r2 a ha) (so'.tr a b a (r2 a ha) (r2 b hb) (r2 a ha) h1 h2)
   .have c':¬(x'.kind=10/\x'.ord=false):=(by rw[E.k,E.o];exact c);rw[sF c,sF c',il];unfold MQ;rw[base,hoi c]
  rw[key,apI];unfold MQ;rw[apI];rfl
 .have k':x'.kind≠10:=by rw[E.k];exact k
  unfold wQ;rw[KX k',KX k,sF (λq=>k q.1),sF (λq=>k' q.1),il,hi,QI (by rw[acL];exact ol) (λa=>a) |>.trans (aox _),ao8,hoi (λq=>k q.1)];rfl
end
section
variable {N N':List aq}{cv cv':Int->Int->Int}{x y x' y':aq}{root v:Int}{φ:Int->Int}{H:Int->Nat}
def QJ {α β:Type}{c:α->α->Int}{c':β->β->Int}{g:α->β}:∀{l m:List α},(∀a∈l,∀b∈m,c' (g a) (g b)=c a b)->rv c' (l.map g) (m.map g)=rv c l m
 |[],[],_=>rfl
 |[],_::_,_=>rfl
 |_::_,[],_=>rfl
 |a::l,b::m,h=>by
  simp only[acW,rv];rw[h a (by simp) b (by simp),QJ λa ha b hb=>h a (BY _ ha) b (BY _ hb)]
def QK (hm:qK x){w}(h:w∈wQ cv x):w∈x.keys\/w∈x.items:=by
 unfold wQ kX at h;obtain⟨a,ha,hw⟩:=List.mem_flatMap.1 h;have r:=iH ha;split at hw
 .rename_i k;simp at hw;rcases hw with rfl|rfl
  .exact .inl (fG r.1 (by rw[hm k];exact r.2))
  .exact .inr (fG r.1 r.2)
 .simp at hw;rw[hw];exact .inr (fG r.1 r.2)
def acb (ex:x'.kind=x.kind/\x'.text=x.text/\x'.ord=x.ord)(ey:y'.kind=y.kind/\y'.text=y.text/\y'.ord=y.ord)(hx:wQ cv' x'=(wQ cv x).map φ)(hy:wQ cv' y'=(wQ cv y).map φ)
  (h:∀a∈wQ cv x,∀b∈wQ cv y,cv' (φ a) (φ b)=cv a b):Fa cv' x' y'=Fa cv x y:=by
 rw[I6,I6];unfold c1 c2 c3 rkO;rw[ex.1,ex.2.1,ex.2.2,ey.1,ey.2.1,ey.2.2,hx,hy,QJ h]
theorem Oj (K:KOr N H)(I:HA N v N' φ):∀f a b,gf N v a->gf N v b->KN N a->KN N b->H a<f->H b<f->kO N' f (φ a) (φ b)=kO N f a b
 |0,_,_,_,_,_,_,h,_=>by omega
 |f+1,a,b,ra,rb,ka,kb,ha,hb=>by
  obtain⟨x,hx⟩:=fj rfl (KN.ir K.ix ka);obtain⟨y,hy⟩:=fj rfl (KN.ir K.ix kb);obtain⟨x',hx',ex⟩:=I.nd a x ra hx;obtain⟨y',hy',ey⟩:=I.nd b y rb hy;have low:∀{u z},gf N v u->KN N u->H u<f+1->gt N u=some z->∀w,(w∈z.keys\/w∈z.items)->gf N v w/\KN N w/\H w<f:=λ{u z} r k h hz w hw=>by
   have e:Edge N u w:=⟨z,hz,hw⟩;obtain⟨q1,q2⟩:=K.rk u w k e;exact⟨r.step e,q1,by omega⟩
  have ent:∀{u z z'},gf N v u->KN N u->H u<f+1->gt N u=some z->xY φ z z'->wQ (kO N' f) z'=(wQ (kO N f) z).map φ:=λ{u z z'} r k h hz e=>
   afP K e (ax hz) (λw hw=>(low r k h hz w (.inl hw)).2.2) λw hw l hl=>by
    obtain⟨p1,p2,p3⟩:=low r k h hz w (.inl hw);obtain⟨p4,p5,p6⟩:=low r k h hz l (.inl hl);exact Oj K I f w l p1 p4 p2 p5 p3 p6
  unfold kO QF;simp only[hx,hy,hx',hy'];refine acb ⟨ex.k,ex.t,ex.o⟩ ⟨ey.k,ey.t,ey.o⟩ (ent ra ka ha hx ex) (ent rb kb hb hy ey) λw hw l hl=>?_;obtain⟨p1,p2,p3⟩:=low ra ka ha hx w (QK (K.mo x (ax hx)) hw);obtain⟨p4,p5,p6⟩:=low rb kb hb hy l (QK (K.mo y (ax hy)) hl);exact Oj K I f w l p1 p4 p2 p5 p3 p6
end
end Go.Sh
