
import Derived.Test.YtajnpfnomgjlaaaGreatDoorPad
import Derived.Test.YtajnpfnomgjlaaaGreatDoorPae
import Derived.Test.YtajnpfnomgjlaaaGreatDoorPaf
set_option linter.all false
namespace Go.Sh
open Go Go.Ago Go.Proofs
variable {N:List av}{root:Int}{B:Nat}
def nth (l:ε)(a:Int):Int:=(gt l a).getD 0
def iota (m:Nat):ε:=(List.range m).map (λi:Nat=>(i:Int))
theorem kH m:(iota m).length=m:=by simp[iota]
theorem pR {m i}(hi:i<m):(iota m)[i]?=some (i:Int):=by simp[iota,hi]
theorem vy m:Good m (iota m):=⟨kH m,λv hv=>by
 grind [iota]⟩
def inM (m:Nat)(cv:Int->Int->Int)(a b:Int):Int:=if 0<=a/\a<m/\0<=b/\b<m then cv a b else 0
noncomputable def YM (cv:Int->Int->Int)(m:Nat):ε:=if h:m<50 then (LD cv h (vy m)).choose else iota m
noncomputable def LW (cv:Int->Int->Int)(m:Nat):ε:=YM (inM m cv) m
theorem YN cv m:(LW cv m).Perm (iota m):=by
 unfold LW YM
 grind
theorem af2 {cv}{c:Cx}{P h n}(hm:c.m<50)(ok:c.OK (inM c.m cv))(hn:c.k+600<=n)(st:c.St P h (iota c.m)):Wp ((cl n).cp (arr c.b c.m) c.x) h λ_ h'=>c.St P h' (LW cv c.m):=by
 unfold LW YM;rw[dif_pos hm];exact (LD (inM c.m cv) hm (vy c.m)).choose_spec.2 c P h n rfl ok hn st
theorem UF {cv cv'}{m:Nat}(h:∀a b:Int,0<=a->a<m->0<=b->b<m->cv a b=cv' a b):LW cv m=LW cv' m:=by
 have:inM m cv=inM m cv':=by
  funext a b;grind [inM]
 unfold LW;rw[this]
noncomputable def vm (cv:Int->Int->Int)(x:av):ε:=if x.kind=10/\x.ord=false then LW (λa b=>cv (nth x.keys a) (nth x.keys b)) x.items.length else iota x.items.length
theorem Ap cv x:(vm cv x).Perm (iota x.items.length):=by
 grind [vm,YN]
theorem YO cv x:(vm cv x).length=x.items.length:=by rw[(Ap cv x).length_eq,kH]
theorem nq {cv x a}(ha:a∈vm cv x):0<=a/\a<x.items.length:=(vy _).2 a ((Ap cv x).mem_iff.1 ha)
def D3 (cv:Int->Int->Int)(x y:av):ε->ε->Option Int
 |a::p,b::q=>if x.kind=10/\cv (nth x.keys a) (nth y.keys b)≠0 then some (cv (nth x.keys a) (nth y.keys b)) else if cv (nth x.items a) (nth y.items b)≠0 then some (cv (nth x.items a) (nth y.items b)) else D3 cv x y p q
 |_,_=>none
noncomputable def NU (cv:Int->Int->Int)(x y:av):Int:=
 if x.kind<y.kind then -1 else if y.kind<x.kind then 1 else if x.ord≠y.ord then (if y.ord then -1 else 1) else if YL x.kind x.text y.text≠0 then YL x.kind x.text y.text
 else match D3 cv x y (vm cv x) (vm cv y) with
  |some c=>c
  |none=>if x.items.length<y.items.length then -1 else if y.items.length<x.items.length then 1 else 0
noncomputable def abU (N:List av)(cv:Int->Int->Int)(i j:Int):Int:=match gt N i,gt N j with
 |some x,some y=>NU cv x y
 |_,_=>0
noncomputable def NV (N:List av):Nat->Int->Int->Int
 |0,_,_=>0
 |f+1,i,j=>abU N (NV N f) i j
theorem qL {l}{a:Int}(h0:0<=a)(h:a<l.length):nth l a∈l:=by
 obtain⟨v,hv⟩:=pF h0 h
 grind [nth,az]
theorem Hi {cv cv' x}(hl:x.kind=10->x.keys.length=x.items.length)(h:∀u∈x.keys,∀v∈x.keys,cv u v=cv' u v):vm cv x=vm cv' x:=by
 grind [vm,UF,qL]
theorem Hj {cv cv' x y}(h1:x.kind=10->∀u∈x.keys,∀v∈y.keys,cv u v=cv' u v)(h2:∀u∈x.items,∀v∈y.items,cv u v=cv' u v):∀{p q:ε},(∀a∈p,0<=a/\a<x.items.length/\(x.kind=10->a<x.keys.length))->(∀a∈q,0<=a/\a<y.items.length/\(x.kind=10->a<y.keys.length))->D3 cv x y p q=D3 cv' x y p q
 |[],q,_,_=>by cases q<;>rfl
 |a::p,[],_,_=>rfl
 |a::p,b::q,hp,hq=>by
  obtain⟨a1,a2,a3⟩:=hp a OF;obtain⟨b1,b2,b3⟩:=hq b OF;have e2:=h2 _ (qL a1 a2) _ (qL b1 b2);have ih:=Hj h1 h2 (λc hc=>hp c (IN _ hc)) λc hc=>hq c (IN _ hc);unfold D3;rw[e2,ih];by_cases hk:x.kind=10
  .grind [qL]
  grind
theorem BU {cv cv' x y}(hx:x.kind=10->x.keys.length=x.items.length)(hy:y.kind=10->y.keys.length=y.items.length)
  (h:∀u v,(u∈x.keys\/u∈x.items\/u∈y.keys\/u∈y.items)->(v∈x.keys\/v∈x.items\/v∈y.keys\/v∈y.items)->cv u v=cv' u v):NU cv x y=NU cv' x y:=by
 unfold NU;split
 .rfl
 split
 .rfl
 rename_i c1 c2;have hk:x.kind=y.kind:=by omega
 split
 .rfl
 split
 .rfl
 rw[Hi hx λu hu v hv=>h u v (.inl hu) (.inl hv),Hi hy λu hu v hv=>h u v (.inr (.inr (.inl hu))) (.inr (.inr (.inl hv)))];rw[Hj (λ_ u hu v hv=>h u v (.inl hu) (.inr (.inr (.inl hv)))) (λu hu v hv=>h u v (.inr (.inl hu)) (.inr (.inr (.inr hv))))
  (λa ha=>⟨(nq ha).1,(nq ha).2,λe=>by rw[hx e];exact (nq ha).2⟩) (λa ha=>⟨(nq ha).1,(nq ha).2,λe=>by rw[hy (hk▸e)];exact (nq ha).2⟩)]
theorem UG (d:Vd N root){H:Int->Nat}(hH:∀u v,KN N v->Edge N u v->H v<H u):∀t f f' ,t<f->t<f'->∀i j,KN N i->KN N j->H i<=t->H j<=t->NV N f i j=NV N f' i j:=by
 intro t
 induction t with
 |zero=>
  intro f f' h1 h2 i j hi hj hti htj;obtain⟨f,rfl⟩:∃g,f=g+1:=⟨f-1,by omega⟩;obtain⟨f',rfl⟩:∃g,f'=g+1:=⟨f' - 1,by omega⟩;unfold NV abU;cases ex:gt N i with
  |none=>rfl
  |some x=>
   cases ey:gt N j with
   |none=>rfl
   |some y=>
    refine BU (d.map (az ex)) (d.map (az ey)) λu v hu hv=>?_;exfalso;rcases hu with h|h|h|h
    .have:=hH i u (.step hi ⟨x,ex,.inl h⟩) ⟨x,ex,.inl h⟩;omega
    .have:=hH i u (.step hi ⟨x,ex,.inr h⟩) ⟨x,ex,.inr h⟩;omega
    .have:=hH j u (.step hj ⟨y,ey,.inl h⟩) ⟨y,ey,.inl h⟩;omega
    .have:=hH j u (.step hj ⟨y,ey,.inr h⟩) ⟨y,ey,.inr h⟩;omega
 |succ t ih=>
  intro f f' h1 h2 i j hi hj hti htj;obtain⟨f,rfl⟩:∃g,f=g+1:=⟨f-1,by omega⟩;obtain⟨f',rfl⟩:∃g,f'=g+1:=⟨f' - 1,by omega⟩;unfold NV abU;cases ex:gt N i with
  |none=>rfl
  |some x=>
   cases ey:gt N j with
   |none=>rfl
   |some y=>
    have low:∀u,(u∈x.keys\/u∈x.items\/u∈y.keys\/u∈y.items)->KN N u/\H u<=t:=λu hu=>by
     rcases hu with h|h|h|h
     .have e:Edge N i u:=⟨x,ex,.inl h⟩;have:=hH i u (.step hi e) e;exact⟨.step hi e,by omega⟩
     .have e:Edge N i u:=⟨x,ex,.inr h⟩;have:=hH i u (.step hi e) e;exact⟨.step hi e,by omega⟩
     .have e:Edge N j u:=⟨y,ey,.inl h⟩;have:=hH j u (.step hj e) e;exact⟨.step hj e,by omega⟩
     .have e:Edge N j u:=⟨y,ey,.inr h⟩;have:=hH j u (.step hj e) e;exact⟨.step hj e,by omega⟩
    exact BU (d.map (az ex)) (d.map (az ey)) λu v hu hv=>ih f f' (by omega) (by omega) u v (low u hu).1 (low v hv).1 (low u hu).2 (low v hv).2
noncomputable def pS (N:List av):Int->Int->Int:=NV N (N.length+1)
noncomputable def gF (N:List av)(i:Int):ε:=match gt N i with
 |some x=>vm (pS N) x
 |none=>[]
theorem sP {k x}(hx:gt N k=some x):(gF N k).length=x.items.length:=by
 grind [gF,YO]
theorem abV (d:Vd N root){i j x y}(hi:KN N i)(hj:KN N j)(ex:gt N i=some x)(ey:gt N j=some y):pS N i j=NU (pS N) x y:=by
 obtain⟨H,hH1,hH2⟩:=d.Ux;have e:pS N i j=NU (NV N N.length) x y:=by
  unfold pS NV abU;rw[ex,ey]
 rw[e];refine BU (d.map (az ex)) (d.map (az ey)) λu v hu hv=>?_;have low:∀u,(u∈x.keys\/u∈x.items\/u∈y.keys\/u∈y.items)->KN N u/\H u<N.length:=λu hu=>by
  have h1:=hH1 i;have h2:=hH1 j;rcases hu with h|h|h|h
  .have e:Edge N i u:=⟨x,ex,.inl h⟩;have:=hH2 i u (.step hi e) e;exact⟨.step hi e,by omega⟩
  .have e:Edge N i u:=⟨x,ex,.inr h⟩;have:=hH2 i u (.step hi e) e;exact⟨.step hi e,by omega⟩
  .have e:Edge N j u:=⟨y,ey,.inl h⟩;have:=hH2 j u (.step hj e) e;exact⟨.step hj e,by omega⟩
  .have e:Edge N j u:=⟨y,ey,.inr h⟩;have:=hH2 j u (.step hj e) e;exact⟨.step hj e,by omega⟩
 have h1:=(low u hu).2;exact UG d hH2 (N.length-1) _ _ (by omega) (by omega) u v (low u hu).1 (low v hv).1 (by grind) (by grind)
end Go.Sh
namespace Go.Sh
open Go Go.Ago Go.Proofs
variable {N N':List av}{root v:Int}{φ:Int->Int}
theorem YP {n}{R:Nat->Nat->Prop}(h:∀a,a<n->∃b,b<n/\R a b)(inj:∀a a' b,a<n->a'<n->R a b->R a' b->a=a'):∀b,b<n->∃a,a<n/\R a b:=by
 have ex:∀a,∃b,a<n->b<n/\R a b:=λa=>by
  by_cases ha:a<n
  .grind
  .exact⟨0,λq=>absurd q ha⟩
 obtain⟨G,hG⟩:=ai4 ex;intro b hb;refine afO λhn=>?_;have nd:((List.range n).map G).Nodup:=by
  refine List.pairwise_map.2 (aiZ ?_ aho)
  grind
 have nm:b∉(List.range n).map G:=λhm=>by
  obtain⟨a,ha,rfl⟩:=List.mem_map.1 hm
  grind
 have hs:b::(List.range n).map G ⊆ List.range n:=λc hc=>by
  rcases List.mem_cons.1 hc with rfl|hc
  .exact List.mem_range.2 hb
  .obtain⟨a,ha,rfl⟩:=List.mem_map.1 hc
   grind
 have:=(List.nodup_cons.2 ⟨nm,nd⟩).length_le_of_subset hs;simp at this;omega
theorem vz (hM:∀x∈N,rv x):∀{f} {a b c},yK N f a b->yK N f b c->yK N f a c
 |0,a,b,c,h,_=>h.elim
 |f+1,a,b,c,⟨x,y,hx,hy,h1,h2,h3,h4,h5⟩,⟨y',z,hy',hz,g1,g2,g3,g4,g5⟩=>by
  rw[hy] at hy';cases hy';refine⟨x,z,hx,hz,h1.trans g1,h2.trans g2,h3.trans g3,h4.trans g4,?_⟩;split at h5
  .rename_i q;rw[By q];rw[By ⟨h1▸q.1,h3▸q.2⟩] at g5;intro a kx p q1 q2;obtain⟨b,ky,r,q3,q4,q5,q6⟩:=h5 a kx p q1 q2;obtain⟨c,kz,s,q7,q8,q9,q10⟩:=g5 b ky r q3 q4;exact⟨c,kz,s,q7,q8,vz hM q5 q9,vz hM q6 q10⟩
  .rename_i q;rw[AT q];rw[AT (λe=>q ⟨h1▸e.1,h3▸e.2⟩)] at g5;intro a p r q1 q2;obtain⟨w,hw⟩:=eY (l:=y.items) (i:=a) (by have:=aL q1;omega);obtain⟨e1,e2⟩:=h5 a p w q1 hw;obtain⟨e3,e4⟩:=g5 a w r hw q2;refine⟨vz hM e1 e3,λhk kx kz r1 r2=>?_⟩;obtain⟨ky,hky⟩:=eY (by rw[hM y (az hy) (h1▸hk)];exact aL hw);exact vz hM (e2 hk kx ky r1 hky) (e4 (h1▸hk) ky kz hky r2)
theorem wj (hM:∀x∈N,rv x)(tw:∀x∈N,x.keys.Pairwise λy x=>¬SM N x y):∀{f} {a b},yK N f a b->yK N f b a
 |0,a,b,h=>h.elim
 |f+1,a,b,⟨x,y,hx,hy,h1,h2,h3,h4,h5⟩=>by
  refine⟨y,x,hy,hx,h1.symm,h2.symm,h3.symm,h4.symm,?_⟩;split at h5
  .rename_i q;rw[By ⟨h1▸q.1,h3▸q.2⟩];have lx:=hM x (az hx) q.1;have ly:=hM y (az hy) (h1▸q.1);have key:=YP (n:=x.items.length) (R:=λa b=>∃kx ky p r,x.keys[a]?=some kx/\y.keys[b]?=some ky/\x.items[a]?=some p/\y.items[b]?=some r/\yK N f kx ky/\yK N f p r) (λa ha=>by
    obtain⟨kx,hkx⟩:=eY (l:=x.keys) (i:=a) (by omega);obtain⟨p,hp⟩:=eY ha;obtain⟨b,ky,r,e1,e2,e3,e4⟩:=h5 a kx p hkx hp;exact⟨b,by have:=aL e2;omega,kx,ky,p,r,hkx,e1,hp,e2,e3,e4⟩) (λa a' b ha ha' ⟨kx,ky,p,r,e1,e2,e3,e4,e5,e6⟩ ⟨kx',ky',p',r',g1,g2,g3,g4,g5,g6⟩=>by
    rw[e2] at g2;cases g2;refine afO λhne=>?_;have s1:yK N f kx kx':=vz hM e5 (wj hM tw g5);have s2:yK N f kx' kx:=vz hM g5 (wj hM tw e5);have pw:=List.pairwise_iff_getElem.1 (tw x (az hx));obtain⟨l1,e1⟩:=List.getElem?_eq_some_iff.1 e1;obtain⟨l2,g1⟩:=List.getElem?_eq_some_iff.1 g1;rcases Nat.lt_or_gt_of_ne hne with h|h
    .have:=pw a a' l1 l2 h;rw[e1,g1] at this;exact this ⟨f,s2⟩
    .have:=pw a' a l2 l1 h;rw[e1,g1] at this;exact this ⟨f,s1⟩)
   intro b ky r q1 q2;obtain⟨a,ha,kx,ky',p,r',e1,e2,e3,e4,e5,e6⟩:=key b (by have:=aL q2;omega);rw[q1] at e2;rw[q2] at e4;cases e2;cases e4;exact⟨a,kx,p,e1,e3,wj hM tw e5,wj hM tw e6⟩
  .rename_i q;rw[AT (λe=>q ⟨h1▸e.1,h3▸e.2⟩)];intro a r p q1 q2;obtain⟨e1,e2⟩:=h5 a p r q2 q1;exact⟨wj hM tw e1,λhk ky kx r1 r2=>wj hM tw (e2 (h1▸hk) kx ky r2 r1)⟩
structure wA (φ:Int->Int) (x x':av):Prop where
 k:x'.kind=x.kind
 t:x'.text=x.text
 o:x'.ord=x.ord
 e:∃o:ε,o.Perm (iota x.items.length)/\(¬(x.kind=10/\x.ord=false)->o=iota x.items.length)/\x'.items=o.map (λa=>φ (nth x.items a))/\x'.keys=if x.kind=10 then o.map (λa=>φ (nth x.keys a)) else []
theorem vn {l}{i:Nat}{p}(h:l[i]?=some p):nth l (i:Int)=p:=by
 unfold nth gt
 grind
section
variable {x x':av}
theorem wA.il (E:wA φ x x'):x'.items.length=x.items.length:=by
 obtain⟨o,h1,_,h3,_⟩:=E.e;rw[h3,adQ,h1.length_eq,kH]
theorem wA.kl (E:wA φ x x')(hm:rv x)(hk:x.kind≠10->x.keys=[]):x'.keys.length=x.keys.length:=by
 obtain⟨o,h1,_,_,h4⟩:=E.e;rw[h4];by_cases h:x.kind=10
 .rw[By h,adQ,h1.length_eq,kH,hm h]
 .rw[AT h,hk h]
theorem wA.to (E:wA φ x x'){a p}(h:x.items[a]?=some p):∃a':Nat,x'.items[a']?=some (φ p)/\(x.kind=10->∀k,x.keys[a]?=some k->x'.keys[a']?=some (φ k))/\(¬(x.kind=10/\x.ord=false)->a'=a):=by
 obtain⟨o,h1,h2,h3,h4⟩:=E.e;have hlt:=aL h;have hm:(a:Int)∈o:=h1.mem_iff.2 (by unfold iota;grind);by_cases hu:x.kind=10/\x.ord=false
 .obtain⟨a',ha'⟩:=List.mem_iff_getElem?.1 hm;refine⟨a',by grind [vn],λhk k hkk=>by rw[h4,By hk,abE,ha'];simp[vn hkk],λq=>absurd hu q⟩
 .have:=h2 hu;subst this;refine⟨a,by grind [pR,vn],λhk k hkk=>by rw[h4,By hk,abE,pR hlt];simp[vn hkk],λ_=>rfl⟩
theorem wA.of (E:wA φ x x'){a' p'}(h:x'.items[a']?=some p'):∃(a:Nat) (p:Int),x.items[a]?=some p/\p'=φ p/\(x.kind=10->∀k,x.keys[a]?=some k->x'.keys[a']?=some (φ k))/\(¬(x.kind=10/\x.ord=false)->a'=a):=by
 obtain⟨o,h1,h2,h3,h4⟩:=E.e;rw[h3,abE] at h;cases ho:o[a']? with
 |none=>rw[ho] at h;cases h
 |some b=>
  rw[ho] at h;have hb:b∈iota x.items.length:=h1.mem_iff.1 (BY ho);unfold iota at hb;obtain⟨a,ha,rfl⟩:=List.mem_map.1 hb;obtain⟨p,hp⟩:=eY (List.mem_range.1 ha);refine⟨a,p,hp,?_,λhk k hkk=>by rw[h4,By hk,abE,ho];simp[vn hkk],λhu=>?_⟩
  .grind [nth,Option.some.inj,vn]
  grind [aL,kH,pR,Option.some.inj]
theorem wA.form (E:wA φ x x')(hm:rv x)(hk:x.kind≠10->x.keys=[]):ru x'=ru x:=by
 have h1:=E.il;have h2:=E.kl hm hk;have h3:=E.k;have h4:=E.t;have h5:=E.o
 grind [ru]
end
structure zb (N:List av) (v:Int) (N':List av) (φ:Int->Int):Prop where
 nd:∀u x,kS N v u->gt N u=some x->∃x',gt N' (φ u)=some x'/\wA φ x x'
 inj:∀u w,kS N v u->kS N v w->φ u=φ w->u=w
 sur:∀w,IR N'.length w->∃u,kS N v u/\φ u=w
 len:N'.length<=N.length
section
variable (I:zb N v N' φ)(g:GV N root)(hv:IR N.length v)
include I g hv
theorem zb.ir {u}(h:kS N v u):IR N.length u/\IR N'.length (φ u):=by
 have h1:=h.ir g.ix hv;obtain⟨x,hx⟩:=gZ rfl h1;obtain⟨x',hx',_⟩:=I.nd u x h hx;exact⟨h1,nG hx'⟩
theorem GV.map (g:GV N root){x}(hx:x∈N):rv x:=CH (g.fm x hx)
end
theorem GV.zW (g:GV N root){x}(hx:x∈N):rv x:=CH (g.fm x hx)
theorem vA {x}(h:ru x=some true)(hk:x.kind≠10):x.keys=[]:=by
 unfold ru at h
 grind
end Go.Sh
namespace Go.Sh
open Go Go.Ago Go.Proofs
variable {N N':List av}{root v:Int}{φ:Int->Int}{x x':av}
theorem wA.toK (E:wA φ x x')(hm:rv x)(hk:x.kind≠10->x.keys=[]){a:Nat}{k}(h:x.keys[a]?=some k):∃a':Nat,x'.keys[a']?=some (φ k):=by
 have h10:x.kind=10:=afO λq=>by rw[hk q] at h;simp at h
 obtain⟨p,hp⟩:=eY (by rw[<-hm h10];exact aL h);obtain⟨a',_,h2,_⟩:=E.to hp
 grind
theorem wA.ofK (E:wA φ x x')(hm:rv x)(hk:x.kind≠10->x.keys=[]){a':Nat}{k'}(h:x'.keys[a']?=some k'):∃(a:Nat) (k:Int),x.keys[a]?=some k/\k'=φ k:=by
 have hl:=E.kl hm hk;have h10:x.kind=10:=afO λq=>by grind
 obtain⟨p',hp'⟩:=eY (by rw[E.il,<-hm h10,<-hl];exact aL h);obtain⟨a,p,h1,_,h2,_⟩:=E.of hp';obtain⟨k,hk2⟩:=eY (by rw[hm h10];exact aL h1)
 grind
section
variable (I:zb N v N' φ)(g:GV N root)(hv:IR N.length v)
include I g
theorem zb.Hb {u w}(h:kS N v u)(e:Edge N u w):Edge N' (φ u) (φ w):=by
 obtain⟨x,hx,hm⟩:=e;obtain⟨x',hx',E⟩:=I.nd u x h hx;refine⟨x',hx',?_⟩;rcases hm with hm|hm
 .obtain⟨a,ha⟩:=List.mem_iff_getElem?.1 hm;obtain⟨a',h1⟩:=E.toK (g.zW (az hx)) (vA (g.fm x (az hx))) ha
  grind
 .obtain⟨a,ha⟩:=List.mem_iff_getElem?.1 hm;obtain⟨a',h1,_⟩:=E.to ha
  grind
theorem zb.RN {u w'}(h:kS N v u)(hu:IR N.length u)(e:Edge N' (φ u) w'):∃w,Edge N u w/\φ w=w':=by
 obtain⟨x,hx⟩:=gZ rfl hu;obtain⟨x',hx',E⟩:=I.nd u x h hx;obtain⟨y,hy,hm⟩:=e;rw[hx'] at hy;cases hy;rcases hm with hm|hm
 .obtain⟨a',ha⟩:=List.mem_iff_getElem?.1 hm;obtain⟨a,k,h1,rfl⟩:=E.ofK (g.zW (az hx)) (vA (g.fm x (az hx))) ha;exact⟨k,⟨x,hx,.inl (BY h1)⟩,rfl⟩
 .obtain⟨a',ha⟩:=List.mem_iff_getElem?.1 hm;obtain⟨a,p,h1,rfl,_⟩:=E.of ha;exact⟨p,⟨x,hx,.inr (BY h1)⟩,rfl⟩
theorem zb.LV {u w}(h:kS N v u)(r:kS N u w):kS N' (φ u) (φ w):=by
 induction r with
 |refl=>exact .refl
 |step r e ih=>exact ih.step (I.Hb g (h.trans r) e)
include hv
theorem zb.ahA {u w'}(h:kS N v u)(r:kS N' (φ u) w'):∃w,kS N u w/\φ w=w':=by
 induction r with
 |refl=>exact⟨u,.refl,rfl⟩
 |step r e ih=>
  obtain⟨w,h1,h2⟩:=ih;rw[<-h2] at e;obtain⟨z,h3,h4⟩:=I.RN g (h.trans h1) ((h.trans h1).ir g.ix hv) e;exact⟨z,h1.step h3,h4⟩
theorem zb.abW {u w}(hu:kS N v u)(hw:kS N v w):kS N' (φ u) (φ w)↔kS N u w:=by
 constructor
 .intro r;obtain⟨z,h1,h2⟩:=I.ahA g hv hu r;rw[<-I.inj z w (hu.trans h1) hw h2];exact h1
 .exact I.LV g hu
theorem RP {n n' P P'}(f:Nat->Nat)(h1:∀a,a<n->P a=true->f a<n'/\P' (f a)=true)(h2:∀a b,a<n->b<n->P a=true->P b=true->f a=f b->a=b):(List.range n).countP P<=(List.range n').countP P':=by
 rw[ajB,ajB];have nd:(((List.range n).filter P).map f).Nodup:=by
  grind [List.Pairwise.imp_of_mem,List.nodup_range]
 have:=nd.length_le_of_subset (l₂:=(List.range n').filter P') λc hc=>by
  grind
 simpa using this
theorem zb.back:∃ψ:Int->Int,(∀w,IR N'.length w->kS N v (ψ w)/\φ (ψ w)=w)/\∀u,kS N v u->ψ (φ u)=u:=by
 have ex:∀w,∃u,IR N'.length w->kS N v u/\φ u=w:=λw=>by
  by_cases h:IR N'.length w
  .obtain⟨u,hu⟩:=I.sur w h;grind
  simp_all
 obtain⟨ψ,h⟩:=ai4 ex;refine⟨ψ,h,λu hu=>?_⟩;obtain⟨h1,h2⟩:=h (φ u) (I.ir g hv hu).2;exact I.inj _ _ h1 hu h2
theorem zb.wt {u}(hu:kS N v u):wt N' (φ u)=wt N u:=by
 obtain⟨ψ,p1,p2⟩:=I.back g hv;have nn:∀{n:Nat} {w:Int},IR n w->w.toNat<n/\(w.toNat:Int)=w:=λh=>by unfold IR at h;omega
 unfold Sh.wt
 congr 1
 apply Nat.le_antisymm
 .refine RP I g hv (λw:Nat=>(ψ (w:Int)).toNat) (λw hw h=>?_) λa b ha hb _ _ e=>?_
  .obtain⟨q1,q2⟩:=p1 (w:Int) ⟨by omega,by omega⟩;have q3:=nn (I.ir g hv q1).1;refine⟨q3.1,?_⟩;simp only[acu] at h⊢;rw[q3.2];rw[<-q2] at h;exact⟨(I.abW g hv hu q1).1 h.1,(I.abW g hv q1 hu).1 h.2⟩
  .obtain⟨q1,q2⟩:=p1 (a:Int) ⟨by omega,by omega⟩;obtain⟨r1,r2⟩:=p1 (b:Int) ⟨by omega,by omega⟩;have q3:=nn (I.ir g hv q1).1;have r3:=nn (I.ir g hv r1).1
   grind
 .have rc:∀w:Nat,kS N u (w:Int)->kS N v (w:Int):=λw h=>hu.trans h;refine RP I g hv (λw:Nat=>(φ (w:Int)).toNat) (λw hw h=>?_) λa b ha hb h1 h2 e=>?_
  .simp only[acu] at h⊢;have q3:=nn (I.ir g hv (rc w h.1)).2;rw[q3.2];exact⟨q3.1,(I.abW g hv hu (rc w h.1)).2 h.1,(I.abW g hv (rc w h.1) hu).2 h.2⟩
  .simp at h1 h2;have q3:=nn (I.ir g hv (rc a h1.1)).2;have r3:=nn (I.ir g hv (rc b h2.1)).2
   grind
theorem zb.df {f}(hf:DF N f):∃f',DF N' f'/\f' (φ v)=f v:=by
 obtain⟨ψ,p1,p2⟩:=I.back g hv;refine⟨λw=>f (ψ w),λw hw=>?_,by simp;rw[p2 v .refl]⟩;obtain⟨q1,q2⟩:=p1 w hw;obtain⟨h1,h2⟩:=hf (ψ w) (I.ir g hv q1).1;have hwt:=I.wt g hv q1;rw[q2] at hwt;refine⟨by rw[hwt];exact h1,λz hz=>?_⟩;rw[<-q2] at hz;obtain⟨y,r1,rfl⟩:=I.ahA g hv q1 hz;have hy:=q1.trans r1;obtain⟨h3,h4⟩:=h2 y r1;simp;rw[p2 y hy,hwt];exact⟨h3,λhn=>h4 λr=>hn (by rw[<-q2];exact I.LV g hy r)⟩
theorem zb.node {x'}(h:x'∈N'):∃u x,kS N v u/\gt N u=some x/\gt N' (φ u)=some x'/\wA φ x x':=by
 obtain⟨j,hj⟩:=List.mem_iff_getElem?.1 h;have hlt:=aL hj;obtain⟨u,hu,e⟩:=I.sur (j:Int) ⟨by omega,by omega⟩;obtain⟨x,hx⟩:=gZ rfl (I.ir g hv hu).1;obtain⟨y,hy,E⟩:=I.nd u x hu hx
 grind [gt]
theorem zb.kn {w}(h:KN N' w):∃u,kS N v u/\φ u=w/\KN N u:=by
 induction h with
 |key hx hw=>
  obtain⟨u,x,hu,hgx,_,E⟩:=I.node g hv hx;obtain⟨a',ha⟩:=List.mem_iff_getElem?.1 hw;obtain⟨a,k,h1,h2⟩:=E.ofK (g.zW (az hgx)) (vA (g.fm x (az hgx))) ha;have hk:=BY h1;exact⟨k,hu.step ⟨x,hgx,.inl hk⟩,h2.symm,.key (az hgx) hk⟩
 |step _ e ih=>
  obtain⟨u,hu,rfl,hk⟩:=ih;obtain⟨w,h1,h2⟩:=I.RN g hu (I.ir g hv hu).1 e;exact⟨w,hu.step h1,h2,hk.step h1⟩
theorem zb.sm:∀f a b ,kS N v a->kS N v b->(yK N' f (φ a) (φ b)↔yK N f a b)
 |0,a,b,_,_=>Iff.rfl
 |f+1,a,b,ha,hb=>by
  obtain⟨x,hx⟩:=gZ rfl (I.ir g hv ha).1;obtain⟨y,hy⟩:=gZ rfl (I.ir g hv hb).1;obtain⟨x',hx',E⟩:=I.nd a x ha hx;obtain⟨y',hy',G⟩:=I.nd b y hb hy;have mx:=g.zW (az hx);have my:=g.zW (az hy);have ed:∀{u:Int} {z:av} {l:ε} {i:Nat} {p:Int},kS N v u->gt N u=some z->(l=z.keys\/l=z.items)->l[i]?=some p->kS N v p:=λhu hz hl hp=>hu.step ⟨_,hz,by
   grind⟩
  have kz:∀{z:av} {i:Nat} {p:Int},rv z->z.kind=10->z.items[i]?=some p->∃k,z.keys[i]?=some k:=λhm hk hp=>eY (by rw[hm hk];exact aL hp);constructor
  .rintro⟨x2,y2,e1,e2,h1,h2,h3,h4,h5⟩;rw[hx'] at e1;rw[hy'] at e2;cases e1;cases e2;rw[E.k,G.k] at h1;rw[E.t,G.t] at h2;rw[E.o,G.o] at h3;rw[E.il,G.il] at h4;refine⟨x,y,hx,hy,h1,h2,h3,h4,?_⟩;rw[E.k,E.o] at h5;split at h5
   .rename_i q;rw[By q];intro i kx p q1 q2;obtain⟨i',r1,r2,_⟩:=E.to q2;obtain⟨j',ky',p',s1,s2,s3,s4⟩:=h5 i' _ _ (r2 q.1 kx q1) r1;obtain⟨j,pj,t1,rfl,t2,_⟩:=G.of s2;obtain⟨ky,hky⟩:=kz my (h1▸q.1) t1;have:=t2 (h1▸q.1) ky hky;rw[s1] at this;cases this;exact⟨j,ky,pj,hky,t1,(zb.sm f kx ky (ed ha hx (.inl rfl) q1) (ed hb hy (.inl rfl) hky)).1 s3,(zb.sm f p pj (ed ha hx (.inr rfl) q2) (ed hb hy (.inr rfl) t1)).1 s4⟩
   .rename_i q;rw[AT q];intro i p r q1 q2;obtain⟨i',r1,r2,r3⟩:=E.to q1;obtain⟨j',s1,s2,s3⟩:=G.to q2;have:=r3 q;subst this;have:=s3 (λe=>q ⟨h1▸e.1,h3▸e.2⟩);subst this;obtain⟨u1,u2⟩:=h5 _ _ _ r1 s1;exact⟨(zb.sm f p r (ed ha hx (.inr rfl) q1) (ed hb hy (.inr rfl) q2)).1 u1,λhk kx ky v1 v2=>(zb.sm f kx ky (ed ha hx (.inl rfl) v1) (ed hb hy (.inl rfl) v2)).1 (u2 hk _ _ (r2 hk kx v1) (s2 (h1▸hk) ky v2))⟩
  .rintro⟨x2,y2,e1,e2,h1,h2,h3,h4,h5⟩;rw[hx] at e1;rw[hy] at e2;cases e1;cases e2;refine⟨x',y',hx',hy',by rw[E.k,G.k,h1],by rw[E.t,G.t,h2],by rw[E.o,G.o,h3],by rw[E.il,G.il,h4],?_⟩;rw[E.k,E.o];split at h5
   .rename_i q;rw[By q];intro i' kx' p' q1 q2;obtain⟨i,p,r1,rfl,r2,_⟩:=E.of q2;obtain⟨kx,hkx⟩:=kz mx q.1 r1;have:=r2 q.1 kx hkx;rw[q1] at this;cases this;obtain⟨j,ky,r,s1,s2,s3,s4⟩:=h5 i kx p hkx r1;obtain⟨j',t1,t2,_⟩:=G.to s2;exact⟨j',_,_,t2 (h1▸q.1) ky s1,t1,(zb.sm f kx ky (ed ha hx (.inl rfl) hkx) (ed hb hy (.inl rfl) s1)).2 s3,(zb.sm f p r (ed ha hx (.inr rfl) r1) (ed hb hy (.inr rfl) s2)).2 s4⟩
   .rename_i q;rw[AT q];intro i p' r' q1 q2;obtain⟨i',p,r1,rfl,r2,r3⟩:=E.of q1;obtain⟨j',r,s1,rfl,s2,s3⟩:=G.of q2;have:=r3 q;subst this;have:=s3 (λe=>q ⟨h1▸e.1,h3▸e.2⟩);subst this;obtain⟨u1,u2⟩:=h5 _ _ _ r1 s1;refine⟨(zb.sm f p r (ed ha hx (.inr rfl) r1) (ed hb hy (.inr rfl) s1)).2 u1,λhk kx' ky' v1 v2=>?_⟩;obtain⟨kx,hkx⟩:=kz mx hk r1;obtain⟨ky,hky⟩:=kz my (h1▸hk) s1;have:=r2 hk kx hkx;rw[v1] at this;cases this;have:=s2 (h1▸hk) ky hky;rw[v2] at this;cases this;exact (zb.sm f kx ky (ed ha hx (.inl rfl) hkx) (ed hb hy (.inl rfl) hky)).2 (u2 hk kx ky hkx hky)
end
end Go.Sh
namespace Go.Sh
open Go Go.Ago Go.Proofs
variable {N N':List av}{root v:Int}{φ:Int->Int}{x x':av}
theorem FG {γ:Type}{ψ:Int->γ}:∀l ,(iota l.length).map (λa=>ψ (nth l a))=l.map ψ:=λl=>by
 refine aie λi=>?_
 grind [eY,pR,vn,List.getElem?_eq_none,kH]
theorem wA.items (E:wA φ x x'):x'.items.Perm (x.items.map φ):=by
 obtain⟨o,h1,_,h3,_⟩:=E.e
 grind [nth,FG]
theorem wA.keys (E:wA φ x x')(hm:rv x)(hk:x.kind≠10->x.keys=[]):∃l:ε,l.Perm x.keys/\x'.keys=l.map φ:=by
 obtain⟨o,h1,_,_,h4⟩:=E.e;by_cases h:x.kind=10
 .refine⟨o.map (λa=>nth x.keys a),?_,by simp_all⟩;have:=h1.map (λa=>nth x.keys a);rw[<-hm h,FG (ψ:=λa=>a),List.map_id'] at this;exact this
 simp_all
theorem CK {u}:∀{l:ε},(∀w∈l,φ w=φ u->w=u)->(l.map φ).count (φ u)=l.count u
 |[],_=>rfl
 |a::l,h=>by
  rw[adR,agC,agC,CK λw hw=>h w (IN _ hw)]
  grind
theorem IH {u}:∀{X:List av} {i:Nat} {x},X[i]?=some x->(refs x).count u=1->(∀j y,X[j]?=some y->u∈refs y->j=i)->(X.flatMap refs).count u=1
 |[],i,x,h,_,_=>by simp at h
 |y::X,0,x,h,h1,h2=>by
  simp at h;subst h;rw[adX,ahB,h1];have:(X.flatMap refs).count u=0:=List.count_eq_zero.2 λhm=>by
   obtain⟨z,hz,hu⟩:=List.mem_flatMap.1 hm;obtain⟨j,hj⟩:=List.mem_iff_getElem?.1 hz;have:=h2 (j+1) z (by simpa using hj) hu;omega
  omega
 |y::X,i+1,x,h,h1,h2=>by
  rw[adX,ahB,IH (by simpa using h) h1 λj z hj hu=>by
   have:=h2 (j+1) z (by simpa using hj) hu;omega]
  have:(refs y).count u=0:=List.count_eq_zero.2 λhm=>by
   have:=h2 0 y rfl hm;omega
  omega
theorem xb {u}:∀{X:List av} {x},x∈X->(refs x).count u<=(X.flatMap refs).count u
 |y::X,x,h=>by
  rw[adX,ahB];rcases List.mem_cons.1 h with rfl|h
  .omega
  .have:=xb (u:=u) h;omega
section
variable (I:zb N v N' φ)(g:GV N root)(d:Vd N root)(hv:IR N.length v)
include I g d hv
theorem zb.one {u}(hu:kS N v u)(kn:KN N u):(φ v::N'.flatMap refs).count (φ u)=1:=by
 have c1:=g.one u kn;obtain⟨H,_,hH⟩:=d.Ux;rw[agC];have who:∀(j:Nat) y,N'[j]?=some y->φ u∈refs y->∃p,kS N v p/\φ p=(j:Int)/\Edge N p u:=λj y hj hm=>by
  obtain⟨p,hp,e⟩:=I.sur (j:Int) ⟨by omega,by grind⟩;have hgj:gt N' (φ p)=some y:=by rw[e];unfold gt;grind
  have hed:Edge N' (φ p) (φ u):=⟨y,hgj,by grind [refs]⟩;obtain⟨w,h1,h2⟩:=I.RN g hp (I.ir g hv hp).1 hed;rw[I.inj w u (hp.step h1) hu h2] at h1;exact⟨p,hp,e,h1⟩
 by_cases e:u=v
 .subst e;have:(N'.flatMap refs).count (φ u)=0:=List.count_eq_zero.2 λhm=>by
   obtain⟨y,hy,hu'⟩:=List.mem_flatMap.1 hm;obtain⟨j,hj⟩:=List.mem_iff_getElem?.1 hy;obtain⟨p,h1,_,h3⟩:=who j y hj hu';have mono:∀w,kS N u w->KN N w/\H w<=H u:=λw r=>by
    induction r with
    |refl=>grind
    |step _ e ih=>exact⟨ih.1.step e,by have:=hH _ _ (ih.1.step e) e;omega⟩
   grind
  rw[this];simp
 .have hne:φ v≠φ u:=λq=>e (I.inj v u .refl hu q).symm;rw[AT (by simpa using hne)];obtain⟨p,hp,hpu⟩:∃p,kS N v p/\Edge N p u:=by
   cases hu with
   |refl=>exact absurd rfl e
   |step r ed=>exact⟨_,r,ed⟩
  obtain⟨x,hx,hm⟩:=id hpu;obtain⟨x',hx',E⟩:=I.nd p x hp hx;obtain⟨l,hl1,hl2⟩:=E.keys (g.zW (az hx)) (vA (g.fm x (az hx)));have pr:(refs x').Perm ((refs x).map φ):=by
   unfold refs;rw[hl2,ag3];exact (hl1.map φ).append E.items
  have cx:(refs x).count u=1:=by
   have h1:=xb (u:=u) (az hx)
   grind [refs,List.count_pos_iff]
  have h1:(refs x').count (φ u)=1:=by
   rw[pr.count_eq,CK λw hw q=>I.inj w u (hp.step ⟨x,hx,by grind [refs]⟩) hu q,cx]
  obtain⟨_,g2⟩:=aC hx'
  grind [IH,LA,Int.toNat_natCast]
theorem zb.gv:GV N' (φ v):=by
 have hroot:=g.LV v hv;refine⟨adr I.len g.le,(I.ir g hv .refl).2,λx' hx'=>?_,λx' hx'=>?_,λw hw=>?_,λw kw=>?_,λx' hx'=>?_,?_⟩
 .obtain⟨u,x,hu,hx,hg,E⟩:=I.node g hv hx';have ok:∀w',Edge N' (φ u) w'->IR N'.length w':=λw' e=>by
   obtain⟨w,h1,rfl⟩:=I.RN g hu (I.ir g hv hu).1 e;exact (I.ir g hv (hu.step h1)).2
  exact⟨λw hw=>ok w ⟨x',hg,.inl hw⟩,λw hw=>ok w ⟨x',hg,.inr hw⟩⟩
 .obtain⟨u,x,hu,hx,hg,E⟩:=I.node g hv hx';rw[E.form (g.zW (az hx)) (vA (g.fm x (az hx)))];exact g.fm x (az hx)
 .obtain⟨u,hu,rfl⟩:=I.sur w hw;exact I.LV g .refl hu
 .obtain⟨u,hu,rfl,k⟩:=I.kn g hv kw;exact I.one g d hv hu k
 .obtain⟨u,x,hu,hx,hg,E⟩:=I.node g hv hx';obtain⟨l,hl1,hl2⟩:=E.keys (g.zW (az hx)) (vA (g.fm x (az hx)));have hM:∀x∈N,rv x:=λx hx=>g.zW hx;have pw:l.Pairwise λy x=>¬SM N x y:=(hl1.pairwise_iff λ{a b} h q=>h (by
   obtain⟨f,q⟩:=q;exact⟨f,wj hM g.tw q⟩)).2 (g.tw x (az hx))
  rw[hl2,ajI];refine pw.imp_of_mem λ{a b} ha hb h q=>h ?_;obtain⟨f,q⟩:=q;have ra:∀w∈l,kS N v w:=λw hw=>hu.step ⟨x,hx,.inl (hl1.mem_iff.1 hw)⟩;exact⟨f,(I.sm g hv f b a (ra b hb) (ra a ha)).1 q⟩
 .obtain⟨f,hf,hr⟩:=g.dp;obtain⟨f',h1,h2⟩:=I.df g hv hf;have:=((hf root g.rt).2 v hroot).1
  grind
end
end Go.Sh
namespace Go.Sh
open Go Go.Ago Go.Proofs
variable {α β:Type}{h h' h0:ai}{L R:List bG}{N:List av}{root:Int}{B:Nat}{Q:β->ai->Prop}
theorem _root_.Go.Ago.Z.CQ (z:Z h0 h L){b o:Nat}{cs:δ}{e:κ}{l:wu}{v:ξ}{x:l.den}{f:l.den->M β}(hm:bG.au b cs e∈L)(hv:cs[o]?=some v)(hx:Ae l v=some x)(q:Wp (f x) h Q):Wp (sh (aq l ⟨b,o,none⟩) f) h Q:=by
 obtain⟨i,hi⟩:=List.mem_iff_getElem?.1 hm;exact z.ld i q hi hv hx
theorem _root_.Go.Ago.Z.stM (z:Z h0 h (R++L)){b o:Nat}{cs vs cs':δ}{e:κ}{f:Unit->M β}(hm:bG.au b cs e∈L)(hc:aU cs o vs=cs')(ho:o+vs.length<=cs.length)(hs:vs.all eS=true)
  (q:∀(i:Nat) h',L[i]?=some (.au b cs e)->Z h0 h' (R++L.set i (.au b cs' e))->Wp (f ()) h' Q):Wp (sh (bh ⟨b,o,none⟩ vs) f) h Q:=by
 obtain⟨i,hi⟩:=List.mem_iff_getElem?.1 hm;have hi2:(R++L)[R.length+i]?=some (.au b cs e):=by grind
 refine z.st (R.length+i) (λh1 z1=>q i h1 hi ?_) hi2 hc ho hs
 grind
theorem aS {a f}(q:Wp (f a) h Q):Wp (sh (nn (some a)) f) h Q:=by
 rw[ah];exact⟨a,h,rfl,q⟩
theorem _root_.Go.Ago.Z.rdM (z:Z h0 h L){b m:Nat}{e:κ}{c:ε}{a v:Int}{f:Int->M β}(hm:bG.au b (c.map vi) e∈L)(hg:gt c a=some v)(hl:c.length=m)(q:Wp (f v) h Q):Wp (sh (ar (arr b m) a 1) λp=>sh (aq li p) f) h Q:=by
 obtain⟨i,hi⟩:=List.mem_iff_getElem?.1 hm;exact z.Og i hg hl q hi
structure UH where
 tb:Nat
 sb:Nat
 s:Sl
 root:Int
abbrev cs:Option (Nat×ε)->ξ
 |none=>aO
 |some (b,l)=>aI (arr b l.length)
structure Tab (t:UH) (N:List av) (C:List (Option (Nat×ε))) (L:List bG):Prop where
 len:C.length=N.length
 IK:bG.au t.tb [aI t.s,vi t.root,aI (arr t.sb N.length)] dJ∈L
 LW:bG.au t.sb (C.map cs) aR∈L
 ok:∀k b l,gt C k=some (some (b,l))->l=gF N k/\bG.au b (l.map vi) an∈L
def nI (t:UH)(N:List av)(L:List bG):Prop:=∃C,Tab t N C L
def Ext (L L':List bG):Prop:=∀b (l:ε),bG.au b (l.map vi) an∈L->bG.au b (l.map vi) an∈L'
theorem Ext.refl {L}:Ext L L:=λ_ _ h=>h
theorem Ext.trans {L1 L2 L3}(a:Ext L1 L2)(b:Ext L2 L3):Ext L1 L3:=λx l h=>b x l (a x l h)
theorem Qe {γ:Type}{l:List γ}{i x y o}(hi:l[i]?=some x)(ho:o∈l)(hne:o≠x):o∈l.set i y:=by
 obtain⟨j,hj⟩:=List.mem_iff_getElem?.1 ho;have hij:i≠j:=λe=>by grind
 exact List.mem_iff_getElem?.2 ⟨j,by grind⟩
theorem LF {γ:Type}{l:List γ}{i x y}(hi:l[i]?=some x):y∈l.set i y:=by
 have hlt:=(List.getElem?_eq_some_iff.1 hi).1;exact List.mem_iff_getElem?.2 ⟨i,by simp[hlt]⟩
theorem Tab.put {t C}(T:Tab t N C L){i b}(hi:L[i]?=some (.au t.sb (C.map cs) aR)){k}(hk:IR N.length k) :
  Tab t N (C.set k.toNat (some (b,gF N k))) (.au b ((gF N k).map vi) an::L.set i (.au t.sb ((C.set k.toNat (some (b,gF N k))).map cs) aR)) /\
  Ext L (.au b ((gF N k).map vi) an::L.set i (.au t.sb ((C.set k.toNat (some (b,gF N k))).map cs) aR)):=by
 have ne1:∀(b:Nat) (c:δ),bG.au b c an≠.au t.sb (C.map cs) aR:=λb c e=>by grind
 have ne2:∀(b:Nat) (c:δ),bG.au b c dJ≠.au t.sb (C.map cs) aR:=λb c e=>by grind
 have ext:∀{o:bG},o∈L->o≠.au t.sb (C.map cs) aR->o∈bG.au b ((gF N k).map vi) an::L.set i (.au t.sb ((C.set k.toNat (some (b,gF N k))).map cs) aR):=
  λh1 h2=>IN _ (Qe hi h1 h2)
 refine⟨⟨by rw[ag8];exact T.len,ext T.IK (ne2 _ _),IN _ (LF hi),λk' b' l hg=>?_⟩,λb' l hm=>ext hm (ne1 _ _)⟩;rw[hY (by rw[T.len];exact hk)] at hg;split at hg
 .grind
 .obtain⟨h1,h2⟩:=T.ok k' b' l hg
  grind
theorem af3 {m b}(hm:m<1073741824) a0 a1 a2 :
  ∀n i h L ,m-i<n->i<=m->Z h0 h (.au b (((iota m).take i++List.replicate (m-i) 0).map vi) an::L) ->
   Wp ((cl n).fS a0 a1 a2 (arr b m) (m:Int) (i:Int)) h λ_ h'=>Z h0 h' (.au b ((iota m).map vi) an::L):=by
 intro n
 induction n with
 |zero=>intro i h L h1;omega
 |succ n ih=>
  intro i h L h1 h2 z;show Wp (nC (cl n) n a0 a1 a2 (arr b m) (m:Int) (i:Int)) h _;unfold nC;have hl:=kH m;by_cases hi:i<m
  .rw[By (by simp;omega)];refine Ek (by omega) (by omega) ?_;rw[aa1,ae1];refine z.A3 0 (xs:=(iota m).take i++List.replicate (m-i) 0) (by grind) (λh3 z=>?_);have hf:=fill (pR hi);rw[hl] at hf;rw[hf] at z;rw[vk h2 (by omega)];exact ih (i+1) h3 L (by omega) (by omega) z
  .rw[AT (by simp;omega),ag]
   grind
def UI (h0:ai)(t:UH)(N:List av)(fc:Nat)(i j:Int):Prop:=∀(n:Nat) (h:ai) (R L:List bG),fc<=n->nI t N L->Z h0 h (R++L) ->
 Wp ((cl n).ij (some (al t.tb)) i (some (al t.tb)) j none) h λr h'=>r=pS N i j/\∃L',nI t N L'/\Ext L L'/\Z h0 h' (R++L')
def D4 (h0:ai)(t:UH)(N:List av)(fe:Nat)(k:Int)(m:Nat):Prop:=∀(n:Nat) (h:ai) (R L:List bG),fe<=n->nI t N L->Z h0 h (R++L) ->
 Wp ((cl n).ea (some (al t.tb)) k) h λr h'=>∃b L',r=arr b m/\bG.au b ((gF N k).map vi) an∈L'/\nI t N L'/\Ext L L'/\Z h0 h' (R++L')
theorem YQ {C k c}(hc:gt C k=some c):(C.map cs)[k.toNat*1]?=some (cs c):=by
 rw[ae1,abE,(aC hc).2];rfl
theorem zX {γ:Type}{a:γ}{R L}:(a::(R++L)).Perm (R++a::L):=List.perm_middle.symm
theorem YS {t}(G:oI h0 t.s N)(d:Vd N root)(hB:Bd N B){fc k x}(hx:gt N k=some x)(hsm:x.kind=10->x.items.length<50)(hc:∀u∈x.keys,∀v∈x.keys,UI h0 t N fc u v) :
  D4 h0 t N (fc+700+B) k x.items.length:=by
 intro n h R L hn ⟨C,T⟩ z;have hNB:=hB.2.1;obtain⟨_,hBi⟩:=hB.2.2 x (az hx);have hkr:IR N.length k:=nG hx;obtain⟨n,rfl⟩:∃n',n=n'+1:=⟨n-1,by omega⟩;show Wp (pC (cl n) n (some (al t.tb)) k) h _;unfold pC;refine z.new λx0 h1 z _=>?_;refine z.ld 0 (aS ?_);refine z.CQ (x:=t.s) (IN _ (abI _ T.IK)) rfl rfl ?_;obtain⟨g1,g2⟩:=aC hx;refine G.ZD z g1 g2 λa ks is nd=>?_;refine z.new λx5 h2 z _=>?_;refine z.st 0 (cs':=[Value.pointer (some a)]) λh3 z=>?_;have z:Z h0 h3 (.au x5 [Value.pointer (some a)] fM::.au x0 [Value.pointer (some (al t.tb))] bF::(R++L)):=z;have memL:∀{o:bG},o∈L->o∈bG.au x5 [Value.pointer (some a)] fM::.au x0 [Value.pointer (some (al t.tb))] bF::(R++L):=λh=>IN _ (IN _ (abI _ h));refine z.ld 1 (aS ?_);refine z.CQ (x:=arr t.sb N.length) (memL T.IK) rfl rfl ?_;obtain⟨c,hcC⟩:=gZ T.len hkr;refine Ek g1 hkr.2 ?_;cases c with
 |some e=>
  obtain⟨b,l⟩:=e;obtain⟨hl,hm⟩:=T.ok k b l hcC;refine z.CQ (x:=arr b l.length) (memL T.LW) (YQ hcC) rfl ?_;rw[By (by rfl)];refine z.ld 1 (aS ?_);refine z.CQ (x:=arr t.sb N.length) (memL T.IK) rfl rfl ?_;refine Ek g1 hkr.2 ?_;refine z.CQ (x:=arr b l.length) (memL T.LW) (YQ hcC) rfl (ag.2 ?_);subst hl;exact⟨b,L,by rw[sP hx],hm,⟨C,T⟩,.refl,z.drop.drop⟩
 |none=>
  refine z.CQ (x:=qQ) (memL T.LW) (YQ hcC) rfl ?_;rw[AT (by simp)];refine z.ld 0 (aS ?_);refine (nd.fr z.fr).HJ ?_;have hlen:is.len=x.items.length:=nd.items.len;rw[hlen];refine z.EC (by omega) (by unfold cF;omega) λb h4 z _=>?_;rw[aa1] at z⊢;rw[oP] at z;have z0:Z h0 h4 (.au b (((iota x.items.length).take 0++List.replicate (x.items.length-0) 0).map vi) an::.au x5 [Value.pointer (some a)] fM::.au x0 [Value.pointer (some (al t.tb))] bF::(R++L)):=by simpa using z
  rw[ah];refine (af3 (by omega) k (al x0) (al x5) n 0 h4 _ (by omega) (by omega) z0).mono λ_ h5 z=>?_;refine z.ld 1 (aS ?_);refine (nd.fr z.fr).Nl ?_;have store:∀(h:ai) (L:List bG) (C:List (Option (Nat×ε))) (l:ε),l=gF N k->Tab t N C L->Z h0 h (.au b (l.map vi) an::.au x5 [Value.pointer (some a)] fM::.au x0 [Value.pointer (some (al t.tb))] bF::(R++L)) ->
    Wp (sh (aq .ptr (al x0)) λ(x20:θ)=>sh (nn x20) λx21=>sh (aq .sl (x21.plus 2)) λ(x22:Sl)=>sh (ar x22 k 1) λx23=>sh (bh x23 [aI (arr b x.items.length)]) λx24=>AI (arr b x.items.length)) h λr h'=>
     ∃b L',r=arr b x.items.length/\bG.au b ((gF N k).map vi) an∈L'/\nI t N L'/\Ext L L'/\Z h0 h' (R++L'):=by
   intro h L C l hl T z;subst hl;refine z.ld 2 (aS ?_);refine z.CQ (x:=arr t.sb N.length) (IN _ (IN _ (IN _ (abI _ T.IK)))) rfl rfl ?_;refine Ek g1 hkr.2 ?_;have hsp:aU (C.map cs) (k.toNat*1) [aI (arr b x.items.length)]=(C.set k.toNat (some (b,gF N k))).map cs:=by
    rw[ae1,<-xZ (by rw[T.len];grind)];simp[cs,sP hx]
   refine Z.stM (R:=.au b ((gF N k).map vi) an::.au x5 [Value.pointer (some a)] fM::.au x0 [Value.pointer (some (al t.tb))] bF::R) z T.LW hsp (by rw[adQ,T.len,ae1];grind) rfl λi h' hi z=>ag.2 ?_;obtain⟨T',E'⟩:=T.put (b:=b) hi hkr;refine⟨b,_,rfl,OF,⟨_,T'⟩,E',Z.perm (Z.sub z ?_) zX⟩
   simp_all
  by_cases hk:x.kind=10
  .rw[By (by simpa using hk)];refine z.ld 1 (aS ?_);refine (nd.fr z.fr).ldO ?_;have hkl:=d.map (az hx) hk;cases ho:x.ord with
   |true=>
    rw[He];have e:iota x.items.length=gF N k:=by
     unfold gF vm;grind
    exact store h5 L C _ e T z
   |false=>
    rw[Hd];unfold nD
    let cx:Cx:=⟨h0,b,x.items.length,Value.func (Fn.func jX) #[] #[Value.pointer (some (al x0)),Value.pointer (some (al x5))],fc+1,λLx=>∃L1,Lx=.au x5 [Value.pointer (some a)] fM::.au x0 [Value.pointer (some (al t.tb))] bF::L1/\nI t N L1/\Ext L L1⟩
    have okc:cx.OK (inM cx.m λu v=>pS N (nth x.keys u) (nth x.keys v)):=by
     intro n u v h R2 Lx hn hu hu2 hv hv2 ⟨L1,e,T1,E1⟩ z;subst e;have hu2:u<(x.items.length:Int):=hu2;have hv2:v<(x.items.length:Int):=hv2;obtain⟨n,rfl⟩:∃n',n=n'+1:=⟨n-1,by grind⟩;have hn:fc+1<=n+1:=hn;show Wp (ax (cl (n+1)) (n+1) (Value.func (Fn.func jX) #[] #[Value.pointer (some (al x0)),Value.pointer (some (al x5))]) u v) h _;unfold ax;rw[AT (by exact Bool.false_ne_true),By (by rfl),ah];refine jn (c:=((al x0,al x5):Addr×Addr)) rfl ?_;show Wp (oq (cl n) n u v (al x0) (al x5)) h _;unfold oq;have m5:bG.au x5 [Value.pointer (some a)] fM∈R2++(.au x5 [Value.pointer (some a)] fM::.au x0 [Value.pointer (some (al t.tb))] bF::L1):=abI _ OF;have m0:bG.au x0 [Value.pointer (some (al t.tb))] bF∈R2++(.au x5 [Value.pointer (some a)] fM::.au x0 [Value.pointer (some (al t.tb))] bF::L1):=abI _ (IN _ OF);obtain⟨ku,hku⟩:=pF (l:=x.keys) hu (by omega);obtain⟨kv,hkv⟩:=pF (l:=x.keys) hv (by omega);have ndz:=nd.fr z.fr;refine z.CQ m0 rfl rfl ?_;refine z.CQ m5 rfl rfl (aS ?_);refine ndz.HI (ndz.keys.ix hu (aC hku).2 λ_ _ c1=>c1.rD (l:=li) rfl rfl ?_);refine z.CQ m0 rfl rfl ?_;refine z.CQ m5 rfl rfl (aS ?_);refine ndz.HI (ndz.keys.ix hv (aC hkv).2 λ_ _ c1=>c1.rD (l:=li) rfl rfl ?_);rw[ah];have z2:Z h0 h ((R2++[.au x5 [Value.pointer (some a)] fM,.au x0 [Value.pointer (some (al t.tb))] bF])++L1):=(by simpa using z);refine (hc ku (az hku) kv (az hkv) n h _ L1 (by omega) T1 z2).mono λr h' hr=>ag.2 ?_;obtain⟨rfl,L2,T2,E2,z3⟩:=hr;refine⟨?_,_,⟨L2,rfl,T2,E1.trans E2⟩,by simpa using z3⟩
     grind [inM,nth]
    have st:cx.St R h5 (iota cx.m):=by
     refine⟨_,⟨L,rfl,⟨C,T⟩,.refl⟩,?_⟩;refine Z.perm z (List.Perm.cons _ ?_);exact (List.Perm.cons _ zX).trans zX
    rw[ah];refine (af2 (cv:=λu v=>pS N (nth x.keys u) (nth x.keys v)) (c:=cx) (hsm hk) okc (by grind) st).mono λ_ h6 hs=>?_;obtain⟨Lx,⟨L1,rfl,⟨C1,T1⟩,E1⟩,z6⟩:=hs;have z6:Z h0 h6 (.au b ((LW (λu v=>pS N (nth x.keys u) (nth x.keys v)) x.items.length).map vi) an::.au x5 [Value.pointer (some a)] fM::.au x0 [Value.pointer (some (al t.tb))] bF::(R++L1)):=by
     refine Z.perm z6 (List.Perm.cons _ ?_);exact ((List.Perm.cons _ zX).trans zX).symm
    have e:LW (λu v=>pS N (nth x.keys u) (nth x.keys v)) x.items.length=gF N k:=by
     unfold gF vm;grind
    exact (store h6 L1 C1 _ e T1 z6).mono λr h7 hr=>by
     obtain⟨b',L',q1,q2,q3,q4,q5⟩:=hr;exact⟨b',L',q1,q2,q3,E1.trans q4,q5⟩
  .rw[AT (by simpa using hk)];have e:iota x.items.length=gF N k:=by
    unfold gF vm;grind
   exact store h5 L C _ e T z
end Go.Sh
namespace Go.Sh
open Go Go.Ago Go.Proofs
variable {α β:Type}{h h' h0:ai}{L R:List bG}{N:List av}{root:Int}{B:Nat}{Q:β->ai->Prop}
theorem zY {c a v}(hg:gt c a=some v):(c.map vi)[a.toNat*1]?=some (vi v):=by
 rw[ae1,abE,(aC hg).2];rfl
theorem LG {c:ε}{i:Nat}{v}(hg:gt c (i:Int)=some v):c.drop i=v::c.drop (i+1):=by
 have:=(aC hg).2
 grind [Int.toNat_natCast,drop_cons]
theorem af4 {t fc x y a a' ks is ks' is'}(nd:EF h0 a x ks is)(nd':EF h0 a' y ks' is'){bp bq}{p q:ε}
  (hp:∀u∈p,0<=u/\u<x.items.length/\(x.kind=10->u<x.keys.length))(hq:∀u∈q,0<=u/\u<y.items.length/\(x.kind=10->u<y.keys.length))(hbig:p.length<1073741824)
  (hc:∀u,u∈x.keys\/u∈x.items->∀v,v∈y.keys\/v∈y.items->UI h0 t N fc u v):∀n i h R L ,fc+(min p.length q.length-i)+1<=n->i<=min p.length q.length->bG.au bp (p.map vi) an∈L->bG.au bq (q.map vi) an∈L->nI t N L->Z h0 h (R++L) ->
  Wp ((cl n).iZ (some (al t.tb)) (some (al t.tb)) none (some a) (some a') (arr bp p.length) (arr bq q.length) ((min p.length q.length:Nat):Int) (i:Int)) h λr h'=>
   r=(match D3 (pS N) x y (p.drop i) (q.drop i) with|some c=>.inr c|none=>.inl ())/\∃L',nI t N L'/\Ext L L'/\Z h0 h' (R++L'):=by
 intro n
 induction n with
 |zero=>intro i h R L h1;omega
 |succ n ih=>
  intro i h R L h1 h2 mp mq T z;show Wp (np (cl n) n (some (al t.tb)) (some (al t.tb)) none (some a) (some a') (arr bp p.length) (arr bq q.length) ((min p.length q.length:Nat):Int) (i:Int)) h _;unfold np;by_cases hi:i<min p.length q.length
  .rw[By (by simpa using hi)];obtain⟨u,hu⟩:=pF (l:=p) (v:=(i:Int)) (by omega) (by omega);obtain⟨v,hv⟩:=pF (l:=q) (v:=(i:Int)) (by omega) (by omega);obtain⟨u1,u2,u3⟩:=hp u (az hu);obtain⟨v1,v2,v3⟩:=hq v (az hv);rw[LG hu,LG hv];obtain⟨iu,hiu⟩:=pF u1 u2;obtain⟨iv,hiv⟩:=pF v1 v2;have next:∀(h:ai) (L:List bG),pS N iu iv=0->bG.au bp (p.map vi) an∈L->bG.au bq (q.map vi) an∈L->nI t N L->Z h0 h (R++L) ->
     Wp ((cl n).iZ (some (al t.tb)) (some (al t.tb)) none (some a) (some a') (arr bp p.length) (arr bq q.length) ((min p.length q.length:Nat):Int) (IntKind.i64.wrap ((i:Int)+1))) h λr h'=>
      r=(match D3 (pS N) x y (p.drop (i+1)) (q.drop (i+1)) with|some c=>.inr c|none=>.inl ())/\∃L',nI t N L'/\Ext L L'/\Z h0 h' (R++L'):=by
    intro h L _ mp mq T z;rw[vk (by omega) hbig];exact ih (i+1) h R L (by omega) (by omega) mp mq T z
   have J0:∀(h:ai) (L:List bG),(x.kind=10->pS N (nth x.keys u) (nth y.keys v)=0)->bG.au bp (p.map vi) an∈L->bG.au bq (q.map vi) an∈L->nI t N L->Z h0 h (R++L) ->
     Wp (fJ (cl n) n (some (al t.tb)) (some (al t.tb)) none (some a) (some a') (arr bp p.length) (arr bq q.length) (i:Int) ((min p.length q.length:Nat):Int) (i:Int)) h λr h'=>
      r=(match D3 (pS N) x y (u::p.drop (i+1)) (v::q.drop (i+1)) with|some c=>.inr c|none=>.inl ())/\∃L',nI t N L'/\Ext L L'/\Z h0 h' (R++L'):=by
    intro h L hk mp mq T z;unfold fJ;refine aS (Ek (by omega) (by omega) (aS (Ek (by omega) (by omega) ?_)));have ndz:=nd.fr z.fr;have ndz':=nd'.fr z.fr;refine ndz.HJ ?_;refine z.CQ (abI _ mp) (zY hu) rfl ?_;refine ndz.items.ix u1 (aC hiu).2 λ_ _ c1=>c1.rD (l:=li) rfl rfl ?_;refine ndz'.HJ ?_;refine z.CQ (abI _ mq) (zY hv) rfl ?_;refine ndz'.items.ix v1 (aC hiv).2 λ_ _ c1=>c1.rD (l:=li) rfl rfl ?_;rw[ah];refine (hc iu (.inr (az hiu)) iv (.inr (az hiv)) n h R L (by omega) T z).mono λr h' hr=>?_;obtain⟨rfl,L',T',E',z'⟩:=hr;have e1:nth x.items u=iu:=(by unfold nth;rw[hiu];rfl);have e2:nth y.items v=iv:=(by unfold nth;rw[hiv];rfl);have eq:D3 (pS N) x y (u::p.drop (i+1)) (v::q.drop (i+1))=if pS N iu iv≠0 then some (pS N iu iv) else D3 (pS N) x y (p.drop (i+1)) (q.drop (i+1)):=by
     conv=>lhs;unfold D3
     grind
    rw[eq];by_cases h0':pS N iu iv=0
    .rw[AT (by simpa using h0'),AT (show ¬(pS N iu iv≠0) from λe=>e h0')];exact (next h' L' h0' (E' _ _ mp) (E' _ _ mq) T' z').mono λr h2 hr=>⟨hr.1,by obtain⟨L2,t2,e2,z2⟩:=hr.2;exact⟨L2,t2,E'.trans e2,z2⟩⟩
    .rw[By (by simpa using h0'),By h0'];exact ag.2 ⟨rfl,L',T',E',z'⟩
   refine aS ?_;refine (nd.fr z.fr).Nl ?_;by_cases hk:x.kind=10
   .rw[By (by simpa using hk)];refine aS (Ek (by omega) (by omega) (aS (Ek (by omega) (by omega) ?_)));have ndz:=nd.fr z.fr;have ndz':=nd'.fr z.fr;obtain⟨ku,hku⟩:=pF u1 (u3 hk);obtain⟨kv,hkv⟩:=pF v1 (v3 hk);refine ndz.HI ?_;refine z.CQ (abI _ mp) (zY hu) rfl ?_;refine ndz.keys.ix u1 (aC hku).2 λ_ _ c1=>c1.rD (l:=li) rfl rfl ?_;refine ndz'.HI ?_;refine z.CQ (abI _ mq) (zY hv) rfl ?_;refine ndz'.keys.ix v1 (aC hkv).2 λ_ _ c1=>c1.rD (l:=li) rfl rfl ?_;rw[ah];refine (hc ku (.inl (az hku)) kv (.inl (az hkv)) n h R L (by omega) T z).mono λr h' hr=>?_;obtain⟨rfl,L',T',E',z'⟩:=hr;have e1:nth x.keys u=ku:=(by unfold nth;rw[hku];rfl);have e2:nth y.keys v=kv:=(by unfold nth;rw[hkv];rfl);by_cases h0':pS N ku kv=0
    .rw[AT (by simpa using h0')];exact (J0 h' L' (λ_=>by rw[e1,e2];exact h0') (E' _ _ mp) (E' _ _ mq) T' z').mono λr h2 hr=>⟨hr.1,by obtain⟨L2,t2,e2,z2⟩:=hr.2;exact⟨L2,t2,E'.trans e2,z2⟩⟩
    .rw[By (by simpa using h0')];unfold D3;rw[e1,e2,By ⟨hk,h0'⟩];exact ag.2 ⟨rfl,L',T',E',z'⟩
   .rw[AT (by simpa using hk)];exact J0 h L (λe=>absurd e hk) mp mq T z
  .rw[AT (by simpa using hi)];refine ag.2 ⟨?_,L,T,.refl,z⟩;have:p.drop i=[]\/q.drop i=[]:=by
    grind
   rcases this with e|e
   .rw[e];cases q.drop i<;>rfl
   .rw[e];cases p.drop i<;>rfl
theorem af5 {t}(G:oI h0 t.s N)(d:Vd N root)(hB:Bd N B)(ht:∀x∈N,x.text.size<=65536){fc fe i j x y}(hx:gt N i=some x)(hy:gt N j=some y)(hi:KN N i)(hj:KN N j)
  (hfe:65600<=fe)(hfc:fc+B<=fe)(ei:D4 h0 t N fe i x.items.length)(ej:D4 h0 t N fe j y.items.length)(hc:∀u,u∈x.keys\/u∈x.items->∀v,v∈y.keys\/v∈y.items->UI h0 t N fc u v):UI h0 t N (fe+10) i j:=by
 intro n h R L hn T z;have hBB:=hB.2.1;obtain⟨n,rfl⟩:∃n',n=n'+2:=⟨n-2,by omega⟩;show Wp (o8 (cl (n+1)) (n+1) (some (al t.tb)) i (some (al t.tb)) j none) h _;unfold o8;rw[ah];refine⟨((false,0):Bool×Int),h,rfl,?_⟩;show Wp (sh ((cl (n+1)).oW (some (al t.tb)) i (some (al t.tb)) j none) _) h _;rw[ah];rw[abV d hi hj hx hy];have main:Wp (pO (cl n) n (some (al t.tb)) i (some (al t.tb)) j none) h λr h'=>r=NU (pS N) x y/\∃L',nI t N L'/\Ext L L'/\Z h0 h' (R++L'):=by
  unfold pO NU;obtain⟨C,TC⟩:=T;have tabm:=abI R TC.IK;refine aS (aS ?_);refine z.CQ (x:=t.s) tabm rfl rfl ?_;refine G.ZD z (aC hx).1 (aC hx).2 λa ks is nd=>?_;refine z.CQ (x:=t.s) tabm rfl rfl ?_;refine G.ZD z (aC hy).1 (aC hy).2 λa' ks' is' nd'=>?_;have ndz:=nd.fr z.fr;have ndz':=nd'.fr z.fr;refine aS (aS (ndz.Nl (ndz'.Nl ?_)));by_cases c1:x.kind<y.kind
  .rw[By (by simpa using c1),By c1];exact ag.2 ⟨rfl,L,⟨C,TC⟩,.refl,z⟩
  rw[AT (by simpa using c1),AT c1];refine aS (aS (ndz.Nl (ndz'.Nl ?_)));by_cases c2:y.kind<x.kind
  .rw[By (by simpa using c2),By c2];exact ag.2 ⟨rfl,L,⟨C,TC⟩,.refl,z⟩
  rw[AT (by simpa using c2),AT c2];have hk:x.kind=y.kind:=by omega
  refine aS (aS (ndz.ldO (ndz'.ldO ?_)));by_cases c3:x.ord=y.ord
  .rw[AT (by grind),AT (by simpa using c3)];refine aS (aS (aS (ndz.Nl (ndz.LR (ndz'.LR ?_)))));have hsx:=ht x (az hx);have hsy:=ht y (az hy);refine z.call (NT hsx hsy (by omega) z.wf) λr h1 hr f1 z1=>?_;subst hr;by_cases c4:YL x.kind x.text y.text=0
   .rw[AT (by simpa using c4),AT (by simpa using c4)];rw[ah];refine (ei n h1 R L (by omega) ⟨C,TC⟩ z1).mono λr h2 hr=>?_;obtain⟨bp,L1,rfl,mp,T1,E1,z2⟩:=hr;rw[ah];refine (ej n h2 R L1 (by omega) T1 z2).mono λr h3 hr=>?_;obtain⟨bq,L2,rfl,mq,T2,E2,z3⟩:=hr;have lp:=sP hx;have lq:=sP hy;have hbx:=(hB.2.2 x (az hx)).2;have hby:=(hB.2.2 y (az hy)).2;have em:(if ((arr bq y.items.length).len:Int)<((arr bp x.items.length).len:Int) then ((arr bq y.items.length).len:Int) else ((arr bp x.items.length).len:Int))=((min (gF N i).length (gF N j).length:Nat):Int):=by
     rw[lp,lq];show (if (y.items.length:Int)<(x.items.length:Int) then (y.items.length:Int) else (x.items.length:Int))=_;split<;>omega
    rw[em];rw[ah];have ox:gF N i=vm (pS N) x:=(by unfold gF;rw[hx]);have oy:gF N j=vm (pS N) y:=(by unfold gF;rw[hy]);have key:=af4 nd nd' (λu hu=>by
      rw[ox] at hu;have:=nq hu;exact⟨this.1,this.2,λe=>by rw[d.map (az hx) e];exact this.2⟩) (λu hu=>by
      rw[oy] at hu;have:=nq hu;exact⟨this.1,this.2,λe=>by rw[d.map (az hy) (hk▸e)];exact this.2⟩) (by omega) hc n 0 h3 R L2 (by omega) (by omega) (E2 _ _ mp) mq T2 z3
    rw[lp,lq] at key;rw[lp,lq];refine key.mono λr h4 hr=>?_;obtain⟨hr,L3,T3,E3,z4⟩:=hr;rw[ahx,ahx,ox,oy] at hr;have fin:∃L',nI t N L'/\Ext L L'/\Z h0 h4 (R++L'):=⟨L3,T3,(E1.trans E2).trans E3,z4⟩;cases hd:D3 (pS N) x y (vm (pS N) x) (vm (pS N) y) with
    |some c=>rw[hd] at hr;subst hr;exact ag.2 ⟨rfl,fin⟩
    |none=>
     rw[hd] at hr;subst hr;show Wp (if decide ((x.items.length:Int)<(y.items.length:Int))=true then AI (-1) else if decide ((y.items.length:Int)<(x.items.length:Int))=true then AI 1 else AI 0) h4 _;by_cases l1:x.items.length<y.items.length
     .rw[By (by simpa using l1)];simp[By l1];exact ag.2 ⟨rfl,fin⟩
     .rw[AT (by simpa using l1)];simp only[AT l1];by_cases l2:y.items.length<x.items.length
      .rw[By (by simpa using l2)];simp[By l2];exact ag.2 ⟨rfl,fin⟩
      .rw[AT (by simpa using l2)];simp[AT l2];exact ag.2 ⟨rfl,fin⟩
   .rw[By (by simpa using c4),By c4];exact ag.2 ⟨rfl,L,⟨C,TC⟩,.refl,z1⟩
  .rw[By (by grind),By c3];refine aS (ndz'.ldO ?_);cases y.ord
   .exact ag.2 ⟨rfl,L,⟨C,TC⟩,.refl,z⟩
   .exact ag.2 ⟨rfl,L,⟨C,TC⟩,.refl,z⟩
 refine main.mono λr h1 hr=>?_;rw[AT (by simp)];exact ag.2 hr
def YT (B d:Nat):Nat:=66000+d*(2*B+800)
theorem abX {t}(G:oI h0 t.s N)(d:Vd N root)(hB:Bd N B)(ht:∀x∈N,x.text.size<=65536)(hsm:∀x∈N,x.kind=10->x.items.length<50){H:Int->Nat}(hH:∀u v,KN N v->Edge N u v->H v<H u) :
  ∀e ,(∀i j,KN N i->KN N j->H i<e->H j<e->UI h0 t N (YT B e) i j)/\∀k x,gt N k=some x->H k<=e->D4 h0 t N (YT B e+700+B) k x.items.length:=by
 intro e
 induction e with
 |zero=>
  refine⟨λi j _ _ h1=>absurd h1 (by omega),λk x hx hk=>YS G d hB hx (hsm x (az hx)) λu hu v hv=>?_⟩;have:=hH k u (.key (az hx) hu) ⟨x,hx,.inl hu⟩;omega
 |succ e ih=>
  have cmp:∀i j,KN N i->KN N j->H i<e+1->H j<e+1->UI h0 t N (YT B (e+1)) i j:=λi j hi hj h1 h2=>by
   obtain⟨x,hx⟩:=gZ rfl (hi.ir d.ix);obtain⟨y,hy⟩:=gZ rfl (hj.ir d.ix);have:=af5 G d hB ht hx hy hi hj (fc:=YT B e) (by unfold YT;omega) (by omega) (ih.2 i x hx (by omega)) (ih.2 j y hy (by omega)) λu hu v hv=>by
    have eu:Edge N i u:=⟨x,hx,hu⟩;have ev:Edge N j v:=⟨y,hy,hv⟩;have q1:=hH i u (.step hi eu) eu;have q2:=hH j v (.step hj ev) ev;exact ih.1 u v (.step hi eu) (.step hj ev) (by omega) (by omega)
   intro n h R L hn T z;refine this n h R L ?_ T z;unfold YT at hn⊢
   grind
  refine⟨cmp,λk x hx hk=>?_⟩;refine YS G d hB hx (hsm x (az hx)) λu hu v hv=>?_;have q1:=hH k u (.key (az hx) hu) ⟨x,hx,.inl hu⟩;have q2:=hH k v (.key (az hx) hv) ⟨x,hx,.inl hv⟩;exact cmp u v (.key (az hx) hu) (.key (az hx) hv) (by omega) (by omega)
def fuE (B:Nat):Nat:=YT B B+700+B
theorem BV {t}(G:oI h0 t.s N)(d:Vd N root)(hB:Bd N B)(ht:∀x∈N,x.text.size<=65536)(hsm:∀x∈N,x.kind=10->x.items.length<50){k x}(hx:gt N k=some x):D4 h0 t N (fuE B) k x.items.length:=by
 obtain⟨H,hH1,hH2⟩:=d.Ux;have h1:=(abX G d hB ht hsm hH2 N.length).2 k x hx (hH1 k);intro n h R L hn T z;refine h1 n h R L ?_ T z;have h2:YT B N.length<=YT B B:=aiS (aev _ hB.1) _;unfold fuE at hn;omega
end Go.Sh
namespace Go.Ago
open Go
variable {α β:Type}{h h' h0:ai}{L:List bG}
theorem Z.NY (z:Z h0 h L) i {st s sz n e cs new g}{f:Sl->M β}{Q}(hi:L[i]?=some (.sl s sz e cs g))(hn:n≠0)(hl:new.length=n*sz)(hb:s.len+n<=cF)
  (q:∀s' h' g',s'.len=s.len+n->Z h0 h' (L.set i (.sl s' sz e (cs++new) g'))->Fr (·=g) h h'->Wp (f s') h' Q):Wp (sh (Ago.app st s sz e n new) f) h Q:=by
 rw[ah];have o:ue h s sz e cs g:=z.get i hi;refine o.app z.wf hn hl hb λs' h' g' h1 hcap h2 h3 h4=>q s' h' g' h1 ?_ h4;by_cases hg:g=0
 .have h3:=h3.resolve_left (λx=>x.2 hg);have f0:Fr (λ_=>False) h h':=⟨h4.wf,h4.next,λj c g2 b e2 hj _=>h4.cells j c g2 b e2 hj λe3=>by rw[e3,hg],λg2 h5 _=>h4.lN g2 h5 λe3=>by rw[e3,hg],h4.used,h4.none,λj x hj _=>h4.maps j x hj (by omega)⟩
  have z1:=z.add f0 (o:=.sl s' sz e (cs++new) g') h2 (.inr (by simp[bG.eI];omega));refine⟨z1.Nf,z1.fr,λx hx=>z1.own x ?_,Bn pX (List.pairwise_cons.1 z1.uw).2 λj y hj hne e2=>(List.pairwise_cons.1 z1.uw).1 y (BY hj) e2⟩
  grind
 .refine z.qf hi hg h4 h2 ?_
  grind [bG.eI]
theorem Z.mE (z:Z h0 h L) i {m kt fn n k v}{f:Unit->M β}{Q}(hi:L[i]?=some (.map m kt fn n))
  (q:∀h' n',Z h0 h' (L.set i (.map m kt (Bm fn k v) n'))->Wp (f ()) h' Q):Wp (sh (FN kt (some m) k v) f) h Q:=by
 rw[ah];exact MB.aiv (z.get i hi) z.wf λh' l fr=>q h' _ (z.qf hi (by simp[bG.eI]) fr l (.inl rfl))
end Go.Ago
namespace Go.Sh
open Go Go.Ago Go.Proofs
variable {N:List av}{root:Int}{B:Nat}
structure NS where
 at':ε
 lP:Nat
 out:List av
def pG (F:Int->NS->Option (Int×NS))(x:av):ε->NS->Option ((ε×ε)×NS)
 |[],S=>some (([],[]),S)
 |k::r,S=>if x.kind=10 then (match F (nth x.keys k) S with
   |none=>none
   |some (a,S1)=>match F (nth x.items k) S1 with
    |none=>none
    |some (b,S2)=>match pG F x r S2 with
     |none=>none
     |some ((ks,is),S3)=>some ((a::ks,b::is),S3))
  else match F (nth x.items k) S with
   |none=>none
   |some (b,S2)=>match pG F x r S2 with
    |none=>none
    |some ((ks,is),S3)=>some ((ks,b::is),S3)
noncomputable def nv (N:List av):Nat->Int->NS->Option (Int×NS)
 |0,_,_=>none
 |f+1,k,S=>match gt S.at' k,gt N k with
  |some v,some x=>if 0<=v then some (v,S) else match pG (nv N f) x (gF N k) ⟨S.at'.set k.toNat S.lP,S.lP+1,S.out⟩ with
   |none=>none
   |some ((ks,is),S2)=>some ((S.lP:Int),⟨S2.at',S2.lP,S2.out.set S.lP ⟨x.kind,x.text,x.ord,ks,is⟩⟩)
  |_,_=>none
def nd0:av:=⟨0,ofBytes [],false,[],[]⟩
def UJ (m:Nat):NS:=⟨List.replicate m (-1),0,List.replicate m nd0⟩
noncomputable def wm (N:List av)(root:Int):List av:=match nv N (N.length+1) root (UJ N.length) with
 |some (_,S)=>S.out
 |none=>[]
def neg (l:ε):Nat:=l.countP (λv=>decide (v<0))
theorem LH:∀{l} {i} {v w},l[i]?=some v->v<0->0<=w->neg (l.set i w)+1=neg l
 |[],i,v,w,h,_,_=>by simp at h
 |a::l,0,v,w,h,h1,h2=>by
  grind [neg]
 |a::l,i+1,v,w,h,h1,h2=>by
  grind [neg]
theorem neg_pos {l}{i:Nat}{v}(h:l[i]?=some v)(hv:v<0):0<neg l:=by
 grind [neg,List.countP_pos_iff,List.mem_of_getElem?]
def ahC (N:List av)(m:Nat)(y:av):Prop:=y=nd0\/∃x∈N,y.kind=x.kind/\y.text=x.text/\y.ord=x.ord/\y.items.length=x.items.length/\y.keys.length=x.keys.length/\(∀v∈y.keys,IR m v)/\∀v∈y.items,IR m v
structure D5 (N:List av) (S:NS):Prop where
 la:S.at'.length=N.length
 lo:S.out.length=N.length
 le:∀v∈S.at',v<(S.lP:Int)
 sum:neg S.at'+S.lP=N.length
 fr:∀y∈S.out,ahC N N.length y
theorem D5.cle {S}(o:D5 N S):S.lP<=N.length:=by have:=o.sum;omega
theorem yC {F x n}(hF:∀k S,D5 N S->neg S.at'<=n->IR N.length k->∃v S',F k S=some (v,S')/\D5 N S'/\neg S'.at'<=neg S.at'/\IR N.length v)
  (hk:x.kind=10->x.keys.length=x.items.length)(hI:(∀v∈x.keys,IR N.length v)/\∀v∈x.items,IR N.length v):∀(l:ε) S ,(∀a∈l,0<=a/\a<x.items.length)->D5 N S->neg S.at'<=n ->
   ∃ks is S',pG F x l S=some ((ks,is),S')/\D5 N S'/\neg S'.at'<=neg S.at'/\is.length=l.length/\ks.length=(if x.kind=10 then l.length else 0)/\(∀v∈ks,IR N.length v)/\∀v∈is,IR N.length v
 |[],S,_,o,hn=>⟨[],[],S,rfl,o,abi _,rfl,by simp,by simp,by simp⟩
 |a::l,S,ha,o,hn=>by
  obtain⟨a1,a2⟩:=ha a OF;unfold pG;by_cases hx:x.kind=10
  .rw[By hx];obtain⟨v,S1,e1,o1,n1,r1⟩:=hF (nth x.keys a) S o hn (hI.1 _ (qL a1 (by rw[hk hx];exact a2)));rw[e1];obtain⟨w,S2,e2,o2,n2,r2⟩:=hF (nth x.items a) S1 o1 (by omega) (hI.2 _ (qL a1 a2));simp only[e2];obtain⟨ks,is,S3,e3,o3,n3,l1,l2,q1,q2⟩:=yC hF hk hI l S2 (λb hb=>ha b (IN _ hb)) o2 (by omega);simp only[e3];refine⟨v::ks,w::is,S3,rfl,o3,by omega,by simp[l1],by grind,λu hu=>?_,λu hu=>?_⟩
   .grind
   grind
  .rw[AT hx];obtain⟨w,S2,e2,o2,n2,r2⟩:=hF (nth x.items a) S o hn (hI.2 _ (qL a1 a2));simp only[e2];obtain⟨ks,is,S3,e3,o3,n3,l1,l2,q1,q2⟩:=yC hF hk hI l S2 (λb hb=>ha b (IN _ hb)) o2 (by omega);simp only[e3];refine⟨ks,w::is,S3,rfl,o3,by omega,by simp[l1],by grind,q1,λu hu=>?_⟩
   grind
theorem CL {γ:Type}{l:List γ}{i x y}(h:y∈l.set i x):y∈l\/y=x:=by
 grind
theorem Hk (d:Vd N root):∀f k S ,D5 N S->neg S.at'<f->IR N.length k->∃v S',nv N f k S=some (v,S')/\D5 N S'/\neg S'.at'<=neg S.at'/\IR N.length v:=by
 intro f
 induction f with
 |zero=>intro k S _ h;omega
 |succ f ih=>
  intro k S o hf hk;obtain⟨v,hv⟩:=gZ o.la hk;obtain⟨x,hx⟩:=gZ rfl hk;unfold nv;rw[hv,hx];simp;have hlt:=o.le v (az hv);have hcl:=o.cle;by_cases h0:0<=v
  .rw[By h0];exact⟨v,S,rfl,o,abi _,h0,by omega⟩
  .rw[AT h0];have hn:=LH (aC hv).2 (w:=(S.lP:Int)) (by omega) (by omega);have hp:=neg_pos (aC hv).2 (by omega);have hsum:=o.sum;have o1:D5 N ⟨S.at'.set k.toNat S.lP,S.lP+1,S.out⟩:=⟨by rw[ag8];exact o.la,o.lo,λw hw=>by
    rcases CL hw with hw|rfl
    .have:=o.le w hw
     grind
    grind,by simp;omega,o.fr⟩
   have hord:gF N k=vm (pS N) x:=by unfold gF;rw[hx]
   obtain⟨ks,is,S2,e2,o2,n2,l1,l2,q1,q2⟩:=yC (n:=f-1) (λk S o hn hk=>ih k S o (by omega) hk) (d.map (az hx)) (d.ix x (az hx)) (gF N k) _ (λa ha=>by rw[hord] at ha;exact nq ha) o1 (by simp;omega);rw[e2];simp only at n2⊢;refine⟨_,_,rfl,⟨o2.la,by rw[ag8];exact o2.lo,o2.le,o2.sum,λy hy=>?_⟩,by simp;omega,by omega,by omega⟩;rcases CL hy with hy|rfl
   .exact o2.fr y hy
   .refine .inr ⟨x,az hx,rfl,rfl,rfl,by grind [sP],?_,q1,q2⟩;show ks.length=_;rw[l2,sP hx];by_cases h10:x.kind=10
    .rw[By h10,d.map (az hx) h10]
    .rw[AT h10,d.keys (az hx) h10];rfl
theorem FH m:neg (List.replicate m (-1))=m:=by
 grind [neg,List.countP_replicate]
theorem Qf:D5 N (UJ N.length):=⟨by simp[UJ],by simp[UJ],λv hv=>by
 have:=ag1 hv
 grind,by show neg (List.replicate _ _)+0=_;rw[FH];rfl,λy hy=>.inl (ag1 hy)⟩
theorem FI (d:Vd N root):∃v S,nv N (N.length+1) root (UJ N.length)=some (v,S)/\wm N root=S.out/\D5 N S/\IR N.length v:=by
 obtain⟨v,S,e,o,_,r⟩:=Hk d (N.length+1) root (UJ N.length) Qf (by show neg (List.replicate _ _)<_;rw[FH];omega) d.rt
 grind [wm]
theorem CM (d:Vd N root):(wm N root).length=N.length:=by
 obtain⟨v,S,_,e,o,_⟩:=FI d;rw[e];exact o.lo
theorem II (d:Vd N root){y}(hy:y∈wm N root):ahC N N.length y:=by
 obtain⟨v,S,_,e,o,_⟩:=FI d;rw[e] at hy;exact o.fr y hy
theorem abY (d:Vd N root)(hB:Bd N B):Bd (wm N root) B:=⟨by rw[CM d];exact hB.1,hB.2.1,λy hy=>by
 rcases II d hy with rfl|⟨x,hx,_,_,_,h4,h5,_⟩
 .exact⟨agD _,agD _⟩
 .rw[h4,h5];exact hB.2.2 x hx⟩
end Go.Sh
namespace Go.Sh
open Go Go.Ago Go.Proofs
variable {N:List av}{root:Int}{S S1 S2 S':NS}
def Aq (S:NS)(u:Int):Int:=(gt S.at' u).getD 0
def H8 (S:NS)(u:Int):Prop:=∃a,gt S.at' u=some a/\0<=a
theorem H8.gt {u}(h:H8 S u):gt S.at' u=some (Aq S u)/\0<=Aq S u:=by
 obtain⟨a,h1,h2⟩:=h;unfold Aq;grind
def NZ (N:List av)(S:NS)(u:Int):Prop:=∃x,Sh.gt N u=some x/\H8 S u/\(∀c,Edge N u c->H8 S c) /\
 Sh.gt S.out (Aq S u)=some ⟨x.kind,x.text,x.ord,if x.kind=10 then (gF N u).map (λa=>Aq S (nth x.keys a)) else [],(gF N u).map (λa=>Aq S (nth x.items a))⟩
def UK (S:NS):Prop:=∀u w a,Sh.gt S.at' u=some a->Sh.gt S.at' w=some a->0<=a->u=w
structure NX (N:List av) (S S':NS):Prop where
 ok:D5 N S'
 ng:neg S'.at'<=neg S.at'
 inj:UK S'
 ext:∀u a,Sh.gt S.at' u=some a->0<=a->Sh.gt S'.at' u=some a
 Aw:∀j,j<S.lP->S'.out[j]?=S.out[j]?
 lP:S.lP<=S'.lP
 new:∀u,H8 S' u->H8 S u\/NZ N S' u
theorem NX.num (h:NX N S S'){u}(hu:H8 S u):H8 S' u/\Aq S' u=Aq S u:=by
 obtain⟨h1,h2⟩:=hu.gt;have:=h.ext u _ h1 h2;exact⟨⟨_,this,h2⟩,by grind [Aq]⟩
theorem IJ {u x}(hx:gt N u=some x)(hm:rv x){a}(ha:a∈gF N u):nth x.items a∈x.items/\(x.kind=10->nth x.keys a∈x.keys):=by
 have ho:gF N u=vm (pS N) x:=by unfold gF;rw[hx]
 rw[ho] at ha;obtain⟨h1,h2⟩:=nq ha;exact⟨qL h1 h2,λhk=>qL h1 (by rw[hm hk];exact h2)⟩
theorem NZ.mono (d:Vd N root)(ok:D5 N S)(h:NX N S S'){u}(o:NZ N S u):NZ N S' u:=by
 obtain⟨x,hx,hu,hc,hy⟩:=o;obtain⟨n1,n2⟩:=h.num hu;obtain⟨g1,g2⟩:=hu.gt;have ce:∀c,Edge N u c->Aq S' c=Aq S c:=λc e=>(h.num (hc c e)).2;refine⟨x,hx,n1,λc e=>(h.num (hc c e)).1,?_⟩;have e1:(gF N u).map (λa=>Aq S' (nth x.items a))=(gF N u).map (λa=>Aq S (nth x.items a)):=ajx λa ha=>ce _ ⟨x,hx,.inr (IJ hx (d.map (az hx)) ha).1⟩;rw[n2,e1];have e2:(if x.kind=10 then (gF N u).map (λa=>Aq S' (nth x.keys a)) else [])=if x.kind=10 then (gF N u).map (λa=>Aq S (nth x.keys a)) else []:=by
  by_cases hk:x.kind=10
  .rw[By hk,By hk];exact ajx λa ha=>ce _ ⟨x,hx,.inl ((IJ hx (d.map (az hx)) ha).2 hk)⟩
  grind
 rw[e2,<-hy];have hlt:=ok.le _ (az g1);unfold Sh.gt;rw[By g2,By g2];exact h.Aw _ (by omega)
theorem NX.refl (ok:D5 N S)(inj:UK S):NX N S S:=⟨ok,abi _,inj,λ_ _ h _=>h,λ_ _=>rfl,abi _,λ_ h=>.inl h⟩
theorem NX.trans (d:Vd N root)(h:NX N S S1)(h':NX N S1 S2):NX N S S2:=
 ⟨h'.ok,adr h'.ng h.ng,h'.inj,λu a h1 h2=>h'.ext u a (h.ext u a h1 h2) h2,λj hj=>(h'.Aw j (ahb hj h.lP)).trans (h.Aw j hj),adr h.lP h'.lP,λu hu=>by
  rcases h'.new u hu with q|q
  .rcases h.new u q with q|q
   .exact .inl q
   .exact .inr (q.mono d h.ok h')
  .exact .inr q⟩
theorem Hl (d:Vd N root){f x}(hx:x∈N)(hF:∀k S v S',D5 N S->UK S->neg S.at'<f->IR N.length k->nv N f k S=some (v,S')->NX N S S'/\gt S'.at' k=some v/\0<=v) :
  ∀(l:ε) S ks is S' ,(∀a∈l,0<=a/\a<x.items.length)->D5 N S->UK S->neg S.at'<f->pG (nv N f) x l S=some ((ks,is),S') ->
   NX N S S'/\is=l.map (λa=>Aq S' (nth x.items a))/\(ks=if x.kind=10 then l.map (λa=>Aq S' (nth x.keys a)) else [])/\∀a∈l,H8 S' (nth x.items a)/\(x.kind=10->H8 S' (nth x.keys a))
 |[],S,ks,is,S',_,ok,inj,_,h=>by
  cases h;exact⟨.refl ok inj,rfl,by simp,λa ha=>(by cases ha)⟩
 |a::l,S,ks,is,S',hl,ok,inj,hn,h=>by
  obtain⟨a1,a2⟩:=hl a OF;have hI:=d.ix x hx;have one:∀{k v:Int} {T T':NS},gt T.at' k=some v->0<=v->NX N T T'->H8 T' k/\v=Aq T' k:=λh1 h2 h3=>by
   have:=h3.ext _ _ h1 h2;exact⟨⟨_,this,h2⟩,by grind [Aq]⟩
  unfold pG at h;by_cases hk:x.kind=10
  .rw[By hk] at h;cases e1:nv N f (nth x.keys a) S with
   |none=>rw[e1] at h;cases h
   |some q1=>
   obtain⟨v1,S1⟩:=q1;rw[e1] at h;simp at h;cases e2:nv N f (nth x.items a) S1 with
   |none=>rw[e2] at h;cases h
   |some q2=>
   obtain⟨v2,S2⟩:=q2;rw[e2] at h;simp at h;cases e3:pG (nv N f) x l S2 with
   |none=>rw[e3] at h;cases h
   |some q3=>
   obtain⟨⟨ks2,is2⟩,S3⟩:=q3;rw[e3] at h;cases h;obtain⟨x1,g1,p1⟩:=hF _ S v1 S1 ok inj hn (hI.1 _ (qL a1 (by rw[d.map hx hk];exact a2))) e1;obtain⟨x2,g2,p2⟩:=hF _ S1 v2 S2 x1.ok x1.inj (ait x1.ng hn) (hI.2 _ (qL a1 a2)) e2;obtain⟨x3,h1,h2,h3⟩:=Hl d hx hF l S2 ks2 is2 _ (λb hb=>hl b (IN _ hb)) x2.ok x2.inj (ait (adr x2.ng x1.ng) hn) e3;obtain⟨r1,r2⟩:=one g1 p1 (x2.trans d x3);obtain⟨r3,r4⟩:=one g2 p2 x3;rw[By hk] at h2;refine⟨(x1.trans d x2).trans d x3,by grind,by grind,λb hb=>?_⟩;rcases List.mem_cons.1 hb with rfl|hb
   .grind
   .exact h3 b hb
  .rw[AT hk] at h;cases e2:nv N f (nth x.items a) S with
   |none=>rw[e2] at h;cases h
   |some q2=>
   obtain⟨v2,S2⟩:=q2;rw[e2] at h;simp at h;cases e3:pG (nv N f) x l S2 with
   |none=>rw[e3] at h;cases h
   |some q3=>
   obtain⟨⟨ks2,is2⟩,S3⟩:=q3;rw[e3] at h;cases h;obtain⟨x2,g2,p2⟩:=hF _ S v2 S2 ok inj hn (hI.2 _ (qL a1 a2)) e2;obtain⟨x3,h1,h2,h3⟩:=Hl d hx hF l S2 _ is2 _ (λb hb=>hl b (IN _ hb)) x2.ok x2.inj (ait x2.ng hn) e3;obtain⟨r3,r4⟩:=one g2 p2 x3;rw[AT hk] at h2;refine⟨x2.trans d x3,by grind,by rw[AT hk];exact h2,λb hb=>?_⟩
   grind
theorem ahD (d:Vd N root):∀f k S v S' ,D5 N S->UK S->neg S.at'<f->IR N.length k->nv N f k S=some (v,S')->NX N S S'/\gt S'.at' k=some v/\0<=v
 |0,k,S,v,S',_,_,h,_,_=>by omega
 |f+1,k,S,v,S',ok,inj,hf,hk,h=>by
  obtain⟨v0,T,e0,ok',ng',_⟩:=Hk d (f+1) k S ok hf hk;rw[h] at e0;cases e0;obtain⟨w,hw⟩:=gZ ok.la hk;obtain⟨x,hx⟩:=gZ rfl hk;unfold nv at h;rw[hw,hx] at h;simp at h;have hlt:=ok.le w (az hw);have hcl:=ok.cle;by_cases h0:0<=w
  .rw[By h0] at h;cases h;exact⟨.refl ok inj,hw,h0⟩
  .rw[AT h0] at h;have hn:=LH (aC hw).2 (w:=(S.lP:Int)) (by omega) (by omega);have hp:=neg_pos (aC hw).2 (by omega);have hsum:=ok.sum;have o1:D5 N ⟨S.at'.set k.toNat S.lP,S.lP+1,S.out⟩:=⟨by rw[ag8];exact ok.la,ok.lo,λw hw=>by
    rcases CL hw with hw|rfl
    .have:=ok.le w hw
     grind
    grind,by simp;omega,ok.fr⟩
   have gs:∀u,gt (S.at'.set k.toNat (S.lP:Int)) u=if u=k then some (S.lP:Int) else gt S.at' u:=λu=>hY (nG hw);have i1:UK ⟨S.at'.set k.toNat S.lP,S.lP+1,S.out⟩:=λu w a h1 h2 h3=>by
    simp at h1 h2;rw[gs] at h1 h2;split at h1<;>split at h2
    .grind
    .cases h1;have:=ok.le _ (az h2);omega
    .cases h2;have:=ok.le _ (az h1);omega
    .exact inj u w a h1 h2 h3
   cases hlp:pG (nv N f) x (gF N k) ⟨S.at'.set k.toNat S.lP,S.lP+1,S.out⟩ with
   |none=>rw[hlp] at h;cases h
   |some q=>
   obtain⟨⟨ks,is⟩,S2⟩:=q;rw[hlp] at h;cases h;have hord:gF N k=vm (pS N) x:=by unfold gF;rw[hx]
   obtain⟨X,hi,hks,hnum⟩:=Hl d (az hx) (λk S v S' a b c e=>ahD d f k S v S' a b c e) (gF N k) _ ks is S2 (λa ha=>by rw[hord] at ha;exact nq ha) o1 i1 (by simp;omega) hlp;have gk:gt S2.at' k=some (S.lP:Int):=X.ext k _ (by simp;rw[gs,By rfl]) (by omega);have nk:Aq S2 k=(S.lP:Int):=by unfold Aq;rw[gk];rfl
   have hc2:=X.lP;simp at hc2;have lo2:=X.ok.lo;have nmbe:∀u,Aq ⟨S2.at',S2.lP,S2.out.set S.lP ⟨x.kind,x.text,x.ord,ks,is⟩⟩ u=Aq S2 u:=λ_=>rfl;have nume:∀u,H8 S2 u->H8 ⟨S2.at',S2.lP,S2.out.set S.lP ⟨x.kind,x.text,x.ord,ks,is⟩⟩ u:=λ_ h=>h;have chld:∀c,Edge N k c->H8 S2 c:=λc ⟨y,hy,hm⟩=>by
    rw[hx] at hy;cases hy;have pos:∀{i:Nat},i<x.items.length->(i:Int)∈gF N k:=λ{i} hi=>by
     rw[hord];exact (Ap (pS N) x).mem_iff.2 (BY (pR hi))
    rcases hm with hm|hm
    .obtain⟨i,hi'⟩:=List.mem_iff_getElem?.1 hm;have hk10:x.kind=10:=afO λq=>(by rw[d.keys (az hx) q] at hi';simp at hi');have:=(hnum i (pos (by rw[<-d.map (az hx) hk10];exact aL hi'))).2 hk10
     grind [vn]
    .obtain⟨i,hi'⟩:=List.mem_iff_getElem?.1 hm
     grind [aL,vn]
   refine⟨⟨ok',ng',X.inj,λu a h1 h2=>?_,λj hj=>?_,by simp;omega,λu hu=>?_⟩,gk,by omega⟩
   .have hne:u≠k:=λe=>(by grind);exact X.ext u a (by grind) h2
   .simp;rw[aj7 (by omega)];exact X.Aw j (by simp;omega)
   .by_cases e:u=k
    .subst e;refine .inr ⟨x,hx,⟨_,gk,by omega⟩,chld,?_⟩;rw[nmbe,nk];unfold Sh.gt
     grind
    .rcases X.new u hu with q|⟨y,hy,q1,q2,q3⟩
     .obtain⟨a,r1,r2⟩:=q;simp at r1;rw[gs,AT e] at r1;exact .inl ⟨a,r1,r2⟩
     .refine .inr ⟨y,hy,q1,q2,?_⟩;obtain⟨r1,r2⟩:=q1.gt;have hne:Aq S2 u≠(S.lP:Int):=λe2=>e (X.inj u k _ (by rw[<-e2];exact r1) gk (by omega));rw[nmbe];unfold Sh.gt at q3⊢
      grind
theorem YU (g:GV N root)(d:Vd N root):∃φ,zb N root (wm N root) φ/\φ root=0/\∀u x,gt N u=some x->∃x',gt (wm N root) (φ u)=some x'/\x'.items=(gF N u).map (λa=>φ (nth x.items a))/\(x.kind=10->x'.keys=(gF N u).map (λa=>φ (nth x.keys a))):=by
 obtain⟨v,S,e,e2,ok,hv⟩:=FI d;have n0:∀u,¬H8 (UJ N.length) u:=λu ⟨a,h1,h2⟩=>by
  have:=ag1 (az h1);omega
 obtain⟨X,gr,_⟩:=ahD d (N.length+1) root (UJ N.length) v S Qf (λu w a h1 _ h2=>absurd ⟨a,h1,h2⟩ (n0 u)) (by show neg (List.replicate _ _)<_;rw[FH];omega) d.rt e;have v0:v=0:=by
  obtain⟨w,hw⟩:=gZ (l:=(UJ N.length).at') (by simp[UJ]) d.rt;obtain⟨x,hx⟩:=gZ rfl d.rt;have hw1:=ag1 (az hw);unfold nv at e;rw[hw,hx] at e;simp at e;rw[AT (by omega)] at e;split at e
  .cases e
  .cases e;rfl
 subst v0;have oo:∀u,H8 S u->NZ N S u:=λu h=>(X.new u h).resolve_left (n0 u);have all:∀u,kS N root u->H8 S u:=λu r=>by
  induction r with
  |refl=>exact⟨0,gr,agu _⟩
  |step _ e ih=>obtain⟨_,_,_,h,_⟩:=oo _ ih;exact h _ e
 have nir:∀u,IR N.length u->H8 S u:=λu hu=>all u (g.LV u hu);have hlt:∀u,H8 S u->Aq S u<(N.length:Int):=λu h=>by
  have:=ok.le _ (az h.gt.1);have:=ok.cle;omega
 have inj:∀u w,H8 S u->H8 S w->Aq S u=Aq S w->u=w:=λu w h1 h2 e=>X.inj u w _ h1.gt.1 (by rw[e];exact h2.gt.1) h1.gt.2;have out:∀u x,gt N u=some x->gt (wm N root) (Aq S u)=some ⟨x.kind,x.text,x.ord,if x.kind=10 then (gF N u).map (λa=>Aq S (nth x.keys a)) else [],(gF N u).map (λa=>Aq S (nth x.items a))⟩:=λu x hx=>by
  obtain⟨y,hy,_,_,h⟩:=oo u (nir u (nG hx))
  grind
 refine⟨Aq S,⟨λu x _ hx=>⟨_,out u x hx,rfl,rfl,rfl,gF N u,?_,?_,rfl,rfl⟩,λu w h1 h2=>inj u w (all u h1) (all w h2),λw hw=>?_,by rw[CM d];exact abi _⟩,by unfold Aq;rw[gr];rfl,λu x hx=>⟨_,out u x hx,rfl,λhk=>by simp only;rw[By hk]⟩⟩
 .grind [gF,Ap]
 .intro hn;unfold gF;rw[hx];simp;unfold vm;rw[AT hn]
 .rw[CM d] at hw;obtain⟨a,ha,e3⟩:=YP (n:=N.length) (R:=λa b=>Aq S (a:Int)=(b:Int)) (λa ha=>by
   have h1:=nir (a:Int) ⟨by omega,by omega⟩;have h2:=hlt _ h1;have h3:=h1.gt.2;exact⟨(Aq S (a:Int)).toNat,by omega,by omega⟩) (λa a' b ha ha' h1 h2=>by
   have:=inj _ _ (nir (a:Int) ⟨by omega,by omega⟩) (nir (a':Int) ⟨by omega,by omega⟩) (h1.trans h2.symm);omega) w.toNat (by have:=hw.1;have:=hw.2;omega)
  exact⟨(a:Int),g.LV _ ⟨by omega,by omega⟩,by rw[e3];have:=hw.1;omega⟩
end Go.Sh
namespace Go.Sh
open Go Go.Ago Go.Proofs
variable {α β:Type}{h h' h0:ai}{L R J:List bG}{N:List av}{root:Int}{B:Nat}{Q:β->ai->Prop}
structure NC where
 ab:Nat
 x8:Nat
 rz:Nat
 x0:Nat
 x4:Nat
 vB:Nat
 nb:Nat
 jj:Nat
 m:Nat
 t:UH
 B:Nat
abbrev NC.fn (c:NC):ξ:=Value.func (Fn.func pY) #[] #[Value.pointer (some (al c.x8)),Value.pointer (some (al c.rz)),Value.pointer (some (al c.x0)),Value.pointer (some (al c.x4)),Value.pointer (some (al c.vB)),Value.pointer (some (al c.jj))]
def ML (c:NC)(S:NS)(O:List bC):List bG:=[.au c.rz [vi S.lP] an,.au c.ab (S.at'.map vi) an,.au c.nb (O.flatMap bC.enc) aA,.au c.x8 [aI (arr c.ab c.m)] aR,.au c.x0 [aI c.t.s,vi c.t.root] aj,
 .au c.x4 [Value.pointer (some (al c.t.tb))] bF,.au c.vB [c.fn] kV,.au c.jj [aI (arr c.nb c.m),vi 0] aj]
def RO (r:bC)(J:List bG):Prop:=((r.ks.len=0/\r.kl=[])\/bG.sl r.ks 1 an (r.kl.map vi) r.kg∈J)/\((r.is.len=0/\r.il=[])\/bG.sl r.is 1 an (r.il.map vi) r.ig∈J)
theorem RO.mono {r J J'}(hr:RO r J)(hs:∀o∈J,o∈J'):RO r J':=⟨hr.1.imp id (hs _),hr.2.imp id (hs _)⟩
def RQ (h0:ai)(c:NC)(S:NS)(h:ai)(R J L:List bG):Prop:=∃O:List bC,O.map bC.v=S.out/\(∀r∈O,RO r J)/\Z h0 h (ML c S O++(R++(J++L)))
def fuV (B f:Nat):Nat:=fuE B+f*(B+5)+5
def ahE (h0:ai)(c:NC)(N:List av)(f:Nat):Prop:=∀(n:Nat) (h:ai) (k:Int) (S:NS) (v:Int) (S':NS) (R J L:List bG),fuV c.B f<=n->nv N f k S=some (v,S')->D5 N S->neg S.at'<f->nI c.t N L->RQ h0 c S h R J L ->
 Wp ((bg.at n).iI k (al c.x8) (al c.rz) (al c.x0) (al c.x4) (al c.vB) (al c.jj)) h λr h'=>r=v/\∃J' L',nI c.t N L'/\Ext L L'/\RQ h0 c S' h' R J' L'
def FR (mb:Nat)(x:av)(ksl isl:Sl)(kl il:ε)(gk gi:Nat):List bG:=[.au mb [vi x.kind,.string x.text,.bool x.ord,aI ksl,aI isl] aA,.sl ksl 1 an (kl.map vi) gk,.sl isl 1 an (il.map vi) gi]
theorem Ar {M F R X:List bG}:(M++((F++R)++X)).Perm (F++(M++(R++X))):=by
 grind [List.append_assoc,List.perm_append_comm_assoc]
theorem ahF {s}{kl:ε}{g}{o:ue h s 1 an (kl.map vi) g}:s.len=kl.length:=by have:=o.1;simp at this;omega
theorem ahG {f k S v S'}(h:nv N f k S=some (v,S')):∃w x,gt S.at' k=some w/\gt N k=some x:=by
 cases f with
 |zero=>cases h
 |succ f=>
  grind [nv]
theorem UL (d:Vd N root){f x}(hx:x∈N){l:ε}(hl:∀a∈l,0<=a/\a<x.items.length){S S' ks is}(o:D5 N S)(hn:neg S.at'<f)(h:pG (nv N f) x l S=some ((ks,is),S')):D5 N S'/\neg S'.at'<=neg S.at'/\is.length=l.length/\ks.length<=l.length:=by
 obtain⟨ks',is',S2,e,o2,n2,l1,l2,_⟩:=yC (n:=f-1) (F:=nv N f) (x:=x) (λk S o hn hk=>Hk d f k S o (by omega) hk) (d.map hx) (d.ix x hx) l S hl o (by omega)
 grind
theorem af6 (d:Vd N root){c}(hm:c.B<1073741824){f}(V:ahE h0 c N f){x}(hx:x∈N){a ks0 is0}(nd:EF h0 a x ks0 is0){mb be}{l:ε}(hl:∀a∈l,0<=a/\a<x.items.length)(hll:l.length<=c.B) me :
  ∀n i S S' ks is kl il ksl isl gk gi h J L ,fuV c.B f+(l.length-i)+1<=n->i<=l.length->pG (nv N f) x (l.drop i) S=some ((ks,is),S')->D5 N S->neg S.at'<f->kl.length<=i->il.length<=i->bG.au be (l.map vi) an∈L->nI c.t N L ->
   RQ h0 c S h (FR mb x ksl isl kl il gk gi++R) J L ->
   Wp ((bg.at n).j9 (al c.vB) (al c.jj) me (some a) (al mb) (arr be l.length) (l.length:Int) (i:Int)) h λ_ h'=>∃ksl isl gk gi J' L',nI c.t N L'/\Ext L L'/\RQ h0 c S' h' (FR mb x ksl isl (kl++ks) (il++is) gk gi++R) J' L':=by
 intro n
 induction n with
 |zero=>intro i S S' ks is kl il ksl isl gk gi h J L h1;omega
 |succ n ih=>
  intro i S S' ks is kl il ksl isl gk gi h J L h1 h2 hv ok hneg hkl hil hbe T ⟨O,hO,hRO,z⟩;show Wp (qk (bg.at n) n (al c.vB) (al c.jj) me (some a) (al mb) (arr be l.length) (l.length:Int) (i:Int)) h _;unfold qk;by_cases hi:i<l.length
  .rw[By (by simpa using hi)];obtain⟨u,hu⟩:=pF (l:=l) (v:=(i:Int)) (by omega) (by omega);obtain⟨u1,u2⟩:=hl u (az hu);rw[LG hu] at hv;obtain⟨iu,hiu⟩:=pF u1 u2;have ei:nth x.items u=iu:=by unfold nth;rw[hiu];rfl
   refine z.rdM (abI _ (abI _ (abI _ hbe))) hu rfl ?_;refine aS ((nd.fr z.fr).Nl ?_);have call:∀(h:ai) (k:Int) (S1:NS) (v:Int) (S2:NS) (ksl isl:Sl) (kl il:ε) (gk gi:Nat) (J L:List bG) (ads:Addr) (fv:ξ) (Q:Int->ai->Prop) (γ:Type) (K:Int->M γ) (Q2:γ->ai->Prop),ads.block=mb->fv=c.fn->nv N f k S1=some (v,S2)->D5 N S1->neg S1.at'<f->nI c.t N L ->
     RQ h0 c S1 h (FR mb x ksl isl kl il gk gi++R) J L->(∀h' J' L',nI c.t N L'->Ext L L'->RQ h0 c S2 h' (FR mb x ksl isl kl il gk gi++R) J' L'->Wp (K v) h' Q2) ->
     Wp (sh (Ago.k8 [some ads] (jP (bg.at n) n fv k)) K) h Q2:=by
    intro h k S1 v S2 ksl isl kl il gk gi J L ads fv Q γ K Q2 ha hf hv ok hng T st q;subst hf;have lb:∀{S:NS} {h:ai} {J L:List bG},RQ h0 c S h (FR mb x ksl isl kl il gk gi++R) J L->LB h mb [vi x.kind,.string x.text,.bool x.ord,aI ksl,aI isl] aA:=λ⟨O,_,_,z⟩=>by
     have:=(z.own (.au mb [vi x.kind,.string x.text,.bool x.ord,aI ksl,aI isl] aA) (abI _ (adz _ (adz _ OF)))).1;exact this
    refine wh (P:=λr h'=>r=v/\∃J' L',nI c.t N L'/\Ext L L'/\RQ h0 c S2 h' (FR mb x ksl isl kl il gk gi++R) J' L') (λb hb=>?_) ?_ λr h' hr=>?_
    .grind
    .unfold jP;rw[By (by rfl),ah];refine jn (c:=((al c.x8,al c.rz,al c.x0,al c.x4,al c.vB,al c.jj):Addr×Addr×Addr×Addr×Addr×Addr)) rfl ?_;exact V n h k S1 v S2 _ J L (by omega) hv ok hng T st
    .obtain⟨rfl,J',L',T',E',st'⟩:=hr;exact q h' J' L' T' E' st'
   have J0:∀(h:ai) (S1:NS) (kl:ε) (ksl:Sl) (gk:Nat) (J L:List bG) (b:Int) (S2:NS) (ks is:ε),nv N f iu S1=some (b,S2)->pG (nv N f) x (l.drop (i+1)) S2=some ((ks,is),S')->D5 N S1->neg S1.at'<f->kl.length<=i+1->bG.au be (l.map vi) an∈L->nI c.t N L ->
     RQ h0 c S1 h (FR mb x ksl isl kl il gk gi++R) J L->Wp (iH (bg.at n) n (al c.vB) (al c.jj) me (some a) (al mb) u (arr be l.length) (l.length:Int) (i:Int)) h λ_ h'=>∃ksl isl gk gi J' L',nI c.t N L'/\Ext L L'/\RQ h0 c S' h' (FR mb x ksl isl (kl++ks) (il++(b::is)) gk gi++R) J' L':=by
    intro h S1 kl ksl gk J L b S2 ks is hv1 hv2 ok hneg hkl hbe T st;unfold iH;obtain⟨O,hO,hRO,z⟩:=st;refine aS ?_;refine z.CQ (x:=isl) (abI _ (adz _ (adz _ OF))) rfl rfl ?_;refine z.CQ (cs:=[c.fn]) (e:=kV) (adz _ (by simp[ML])) rfl rfl ?_;refine (nd.fr z.fr).HJ ((nd.fr z.fr).items.ix u1 (aC hiu).2 λ_ _ c1=>c1.rD (l:=li) rfl rfl ?_);refine call h iu S1 b S2 ksl isl kl il gk gi J L _ _ (λ_ _=>True) _ _ _ rfl rfl hv1 ok hneg T ⟨O,hO,hRO,z⟩ λh' J' L' T' E' st'=>?_;obtain⟨O',hO',hRO',z'⟩:=st';have zf:=Z.perm z' Ar;have ilen:isl.len=il.length:=by
     have o:ue h' isl 1 an (il.map vi) gi:=zf.get 2 rfl;have:=o.1;simp at this;omega
    refine Z.NY zf 2 rfl (by omega) rfl (by rw[ilen];unfold cF;omega) λs' h2 g' hs' z2 _=>?_;have z2:Z h0 h2 ([.au mb [vi x.kind,.string x.text,.bool x.ord,aI ksl,aI isl] aA,.sl ksl 1 an (kl.map vi) gk,.sl s' 1 an (il.map vi++[vi b]) g']++(ML c S2 O'++(R++(J'++L')))):=z2;refine z2.st 0 (cs':=[vi x.kind,.string x.text,.bool x.ord,aI ksl,aI s']) λh3 z3=>?_;have z3:Z h0 h3 (FR mb x ksl s' kl (il++[b]) gk g'++(ML c S2 O'++(R++(J'++L')))):=by
     show Z h0 h3 (_::_::.sl s' 1 an ((il++[b]).map vi) g'::_);rw[ag3];exact z3
    have hok:D5 N S2/\neg S2.at'<=neg S1.at':=by
     obtain⟨v',S'',e,o,n',_⟩:=Hk d f iu S1 ok hneg ((d.ix x hx).2 iu (az hiu));rw[hv1] at e;cases e;exact⟨o,n'⟩
    rw[vk (by omega) hm];have st3:RQ h0 c S2 h3 (FR mb x ksl s' kl (il++[b]) gk g'++R) J' L':=⟨O',hO',hRO',Z.perm z3 Ar.symm⟩;refine (ih (i+1) S2 S' ks is kl (il++[b]) ksl s' gk g' h3 J' L' (by omega) (by omega) hv2 hok.1 (by omega) hkl (by simp;omega) (E' _ _ hbe) T' st3).mono λ_ h4 hr=>?_;obtain⟨ksl,isl,gk,gi,J2,L2,T2,E2,st4⟩:=hr;refine⟨ksl,isl,gk,gi,J2,L2,T2,E'.trans E2,?_⟩;rw[agm] at st4;exact st4
   unfold pG at hv;by_cases hk:x.kind=10
   .rw[By hk] at hv;rw[By (by simpa using hk)];obtain⟨ku,hku⟩:=pF u1 (by rw[d.map hx hk];exact u2);have ek:nth x.keys u=ku:=(by unfold nth;rw[hku];rfl);rw[ek,ei] at hv;cases e1:nv N f ku S with
    |none=>rw[e1] at hv;cases hv
    |some q1=>
    obtain⟨a1,S1⟩:=q1;rw[e1] at hv;simp at hv;cases e2:nv N f iu S1 with
    |none=>rw[e2] at hv;cases hv
    |some q2=>
    obtain⟨b1,S2⟩:=q2;rw[e2] at hv;simp at hv;cases e3:pG (nv N f) x (l.drop (i+1)) S2 with
    |none=>rw[e3] at hv;cases hv
    |some q3=>
    obtain⟨⟨ks2,is2⟩,S3⟩:=q3;rw[e3] at hv;cases hv;have hok:D5 N S1/\neg S1.at'<=neg S.at':=by
     obtain⟨v',S'',e,o,n',_⟩:=Hk d f ku S ok hneg ((d.ix x hx).1 ku (az hku));rw[e1] at e;cases e;exact⟨o,n'⟩
    refine aS ?_;refine z.CQ (x:=ksl) (abI _ (adz _ (adz _ OF))) rfl rfl ?_;refine z.CQ (cs:=[c.fn]) (e:=kV) (adz _ (by simp[ML])) rfl rfl ?_;refine (nd.fr z.fr).HI ((nd.fr z.fr).keys.ix u1 (aC hku).2 λ_ _ c1=>c1.rD (l:=li) rfl rfl ?_);refine call h ku S a1 S1 ksl isl kl il gk gi J L _ _ (λ_ _=>True) _ _ _ rfl rfl e1 ok hneg T ⟨O,hO,hRO,z⟩ λh' J' L' T' E' st'=>?_;obtain⟨O',hO',hRO',z'⟩:=st';have zf:=Z.perm z' Ar;have klen:ksl.len=kl.length:=by
     have o:ue h' ksl 1 an (kl.map vi) gk:=zf.get 1 rfl;have:=o.1;simp at this;omega
    refine Z.NY zf 1 rfl (by omega) rfl (by rw[klen];unfold cF;omega) λs' h2 g' hs' z2 _=>?_;have z2:Z h0 h2 ([.au mb [vi x.kind,.string x.text,.bool x.ord,aI ksl,aI isl] aA,.sl s' 1 an (kl.map vi++[vi a1]) g',.sl isl 1 an (il.map vi) gi]++(ML c S1 O'++(R++(J'++L')))):=z2;refine z2.st 0 (cs':=[vi x.kind,.string x.text,.bool x.ord,aI s',aI isl]) λh3 z3=>?_;have z3:Z h0 h3 (FR mb x s' isl (kl++[a1]) il g' gi++(ML c S1 O'++(R++(J'++L')))):=by
     show Z h0 h3 (_::.sl s' 1 an ((kl++[a1]).map vi) g'::_);rw[ag3];exact z3
    refine (J0 h3 S1 (kl++[a1]) s' g' J' L' b1 S2 ks2 is2 e2 e3 hok.1 (by omega) (by simp;omega) (E' _ _ hbe) T' ⟨O',hO',hRO',Z.perm z3 Ar.symm⟩).mono λ_ h4 hr=>?_;obtain⟨ksl,isl,gk,gi,J2,L2,T2,E2,st4⟩:=hr;refine⟨ksl,isl,gk,gi,J2,L2,T2,E'.trans E2,?_⟩;rw[agm] at st4;exact st4
   .rw[AT hk] at hv;rw[AT (by simpa using hk)];rw[ei] at hv;cases e2:nv N f iu S with
    |none=>rw[e2] at hv;cases hv
    |some q2=>
    obtain⟨b1,S2⟩:=q2;rw[e2] at hv;simp at hv;cases e3:pG (nv N f) x (l.drop (i+1)) S2 with
    |none=>rw[e3] at hv;cases hv
    |some q3=>
    obtain⟨⟨ks2,is2⟩,S3⟩:=q3;rw[e3] at hv;cases hv;exact J0 h S kl ksl gk J L b1 S2 ks is2 e2 e3 ok hneg (by omega) hbe T ⟨O,hO,hRO,z⟩
  .rw[AT (by simpa using hi)];rw[abZ (by omega)] at hv;unfold pG at hv;cases hv;refine ag.2 ⟨ksl,isl,gk,gi,J,L,T,.refl,?_⟩;rw[agA,agA];exact⟨O,hO,hRO,z⟩
end Go.Sh
namespace Go.Sh
open Go Go.Ago Go.Proofs
variable {α β:Type}{h h' h0:ai}{L R J:List bG}{N:List av}{root:Int}{B:Nat}{Q:β->ai->Prop}
theorem YV B f:fuV B (f+1)=fuV B f+(B+5):=by unfold fuV;rw[agz];omega
theorem Qg {O:List bC}{i r}:(O.set i r).map bC.v=(O.map bC.v).set i r.v:=by rw[ajs]
theorem YW (d:Vd N root)(hB:Bd N B)(ht:∀x∈N,x.text.size<=65536)(hsm:∀x∈N,x.kind=10->x.items.length<50){c}(G:oI h0 c.t.s N)(hm:c.m=N.length)(hBm:∀x∈N,x.items.length<=c.B)(hBc:Bd N c.B):∀f,f<=N.length+1->ahE h0 c N f:=by
 intro f
 induction f with
 |zero=>intro _ n h k S v S' R J L _ hv;cases hv
 |succ f ih=>
  intro hf n h k S v S' R J L hn hv ok hng T st;have V:=ih (by omega);rw[YV] at hn;obtain⟨w,x,hw,hx⟩:=ahG hv;have hkr:IR N.length k:=nG hx;have hBB:=hBc.2.1;obtain⟨n,rfl⟩:∃n',n=n'+1:=⟨n-1,by omega⟩;show Wp (tO (bg.at n) n k (al c.x8) (al c.rz) (al c.x0) (al c.x4) (al c.vB) (al c.jj)) h _;unfold tO;obtain⟨O,hO,hRO,z⟩:=st;have lo:O.length=N.length:=by have:=ah7 List.length hO;rw[adQ,ok.lo] at this;exact this
  have mML:∀{o:bG} {S:NS} {O:List bC},o∈ML c S O->o∈ML c S O++(R++(J++L)):=λh=>adz _ h;refine z.ld 3 (x:=arr c.ab c.m) ?_;refine z.Og 1 hw (by rw[ok.la,hm]) ?_;unfold nv at hv;rw[hw,hx] at hv;simp at hv;by_cases h0':0<=w
  .rw[By h0'] at hv;cases hv;rw[By (by simpa using h0')];refine z.ld 3 (x:=arr c.ab c.m) ?_;refine z.Og 1 hw (by rw[ok.la,hm]) (ag.2 ⟨rfl,J,L,T,.refl,O,hO,hRO,z⟩)
  .rw[AT h0'] at hv;rw[AT (by simpa using h0')];cases hlp:pG (nv N f) x (gF N k) ⟨S.at'.set k.toNat S.lP,S.lP+1,S.out⟩ with
   |none=>rw[hlp] at hv;cases hv
   |some q=>
   obtain⟨⟨ks,is⟩,S2⟩:=q;rw[hlp] at hv;cases hv;have hlt:=ok.le w (az hw);have hcl:=ok.cle;have hn':=LH (aC hw).2 (w:=(S.lP:Int)) (by omega) (by omega);have hp:=neg_pos (aC hw).2 (by omega);have hsum:=ok.sum;refine z.ld 0 ?_;refine z.ld 3 (x:=arr c.ab c.m) ?_;refine Ek hkr.1 (by rw[hm];exact hkr.2) ?_;rw[ae1];refine z.A3 1 (by rw[ok.la];have:=hkr.1;have:=hkr.2;omega) λh1 z=>?_;refine z.ld 0 ?_;rw[vk (by have:=hBc.1;omega) hBB];refine z.st 0 (cs':=[vi ((S.lP+1:Nat):Int)]) λh2 z=>?_;have z:Z h0 h2 (ML c ⟨S.at'.set k.toNat S.lP,S.lP+1,S.out⟩ O++(R++(J++L))):=z;refine z.ld 4 (x:=c.t.s) ?_;refine G.ZD z (aC hx).1 (aC hx).2 λa ks0 is0 nd=>?_;refine z.dz [13] (by decide) (by simp) λkb h3 z=>?_;refine aS (aS (aS ?_));have ndz:=nd.fr z.fr;refine ndz.Nl (ndz.LR (ndz.ldO ?_));refine z.newAt 0 λh4 z=>?_;refine z.st 0 (cs':=[vi x.kind,.string x.text,.bool x.ord,aO,aO]) λh5 z=>?_;have z:Z h0 h5 (.au (kb+13) [vi x.kind,.string x.text,.bool x.ord,aO,aO] aA::(ML c ⟨S.at'.set k.toNat S.lP,S.lP+1,S.out⟩ O++(R++(J++L)))):=z;refine z.ld 6 ?_;have z1:Z h0 h5 ((.au (kb+13) [vi x.kind,.string x.text,.bool x.ord,aO,aO] aA::(ML c ⟨S.at'.set k.toNat S.lP,S.lP+1,S.out⟩ O++(R++J)))++L):=by simpa using z
   rw[ah];refine (BV G d hBc ht hsm hx n h5 _ L (by unfold fuV at hn;omega) T z1).mono λr h6 hr=>?_;obtain⟨be,L1,rfl,hbe,T1,E1,z2⟩:=hr;have z2:Z h0 h6 (.au (kb+13) [vi x.kind,.string x.text,.bool x.ord,aO,aO] aA::(ML c ⟨S.at'.set k.toNat S.lP,S.lP+1,S.out⟩ O++(R++(J++L1)))):=by simpa using z2
   have zn:Z h0 h6 (FR (kb+13) x qQ qQ [] [] 0 0++(ML c ⟨S.at'.set k.toNat S.lP,S.lP+1,S.out⟩ O++(R++(J++L1)))):=by
    have q1:=Z.add z2.drop (Fr.refl z2.wf) (o:=.sl qQ 1 an [] 0) ue.nil (.inl rfl);have q2:=Z.add z2 (Fr.refl z2.wf) (o:=.sl qQ 1 an [] 0) ue.nil (.inl rfl);have q3:=Z.add q2 (Fr.refl z2.wf) (o:=.sl qQ 1 an [] 0) ue.nil (.inl rfl);exact Z.lX (pre:=[_,_,_]) q3 [2,0,1] (by simp only[acp,adT];decide)
   have o1:D5 N ⟨S.at'.set k.toNat S.lP,S.lP+1,S.out⟩:=⟨by rw[ag8];exact ok.la,ok.lo,λw hw=>by
    rcases CL hw with hw|rfl
    .have:=ok.le w hw;show w<((S.lP+1:Nat):Int);omega
    grind,by simp;omega,ok.fr⟩
   have hord:gF N k=vm (pS N) x:=by unfold gF;rw[hx]
   have hol:∀a∈gF N k,0<=a/\a<x.items.length:=λa ha=>by rw[hord] at ha;exact nq ha
   have hlen:=sP hx;have st0:RQ h0 c ⟨S.at'.set k.toNat S.lP,S.lP+1,S.out⟩ h6 (FR (kb+13) x qQ qQ [] [] 0 0++R) J L1:=⟨O,hO,hRO,Z.perm zn Ar.symm⟩;have hfn:neg (S.at'.set k.toNat S.lP)<f:=by omega
   .rw[<-hlen,ah];refine (af6 (R:=R) d (by omega) V (az hx) nd hol (by rw[hlen];exact hBm x (az hx)) (S.lP:Int) n 0 _ S2 ks is [] [] qQ qQ 0 0 h6 J L1 (by rw[hlen];have:=hBm x (az hx);omega) (by omega) (by rw[ahx];exact hlp) o1 hfn (by simp) (by simp) hbe T1 st0).mono λ_ h7 hr=>?_;obtain⟨ksl,isl,gk,gi,J2,L2,T2,E2,O2,hO2,hRO2,z7⟩:=hr;rw[ahI,ahI] at z7;obtain⟨o2,n2,l1,_⟩:=UL d (az hx) hol o1 hfn hlp;have lo2:O2.length=N.length:=(by have:=ah7 List.length hO2;rw[adQ,o2.lo] at this;exact this);have zf:=Z.perm z7 Ar;refine zf.CQ (x:=arr c.nb c.m) (cs:=[aI (arr c.nb c.m),vi 0]) (e:=aj) (abI _ (adz _ (by simp[ML]))) rfl rfl ?_;refine zf.iN 0 (x:=((x.kind,x.text,x.ord,ksl,isl):mD [li,.str,.bool,.sl,.sl])) ?_;refine Ek (by omega) (by omega) ?_;rw[aa1]
    let r:bC:=⟨x.kind,x.text,x.ord,ksl,ks,gk,isl,is,gi⟩
    obtain⟨y,hy⟩:=eY (l:=O2) (i:=S.lP) (by omega);have hsp:aU (O2.flatMap bC.enc) (S.lP*5) [vi x.kind,.string x.text,.bool x.ord,aI ksl,aI isl]=(O2.set S.lP r).flatMap bC.enc:=by
     have:=wF bC.nJ (x':=r) hy (o:=0) (vs:=[vi x.kind,.string x.text,.bool x.ord,aI ksl,aI isl]) (by simp) (by unfold aU bC.enc;rfl);rw[agM] at this;exact this
    have hfl:(O2.flatMap bC.enc).length=N.length*5:=(by rw[gN bC.nJ,lo2]);refine zf.st 5 (λh8 z8=>ag.2 ?_) rfl hsp (by rw[hfl];simp;omega) rfl;have z8:Z h0 h8 (FR (kb+13) x ksl isl ks is gk gi++(ML c ⟨S2.at',S2.lP,S2.out.set S.lP r.v⟩ (O2.set S.lP r)++(R++(J2++L2)))):=z8;refine⟨rfl,.sl ksl 1 an (ks.map vi) gk::.sl isl 1 an (is.map vi) gi::J2,L2,T2,E1.trans E2,O2.set S.lP r,?_,λr' hr'=>?_,?_⟩
    .rw[Qg,hO2];rfl
    .rcases CL hr' with h9|rfl
     .exact (hRO2 r' h9).mono λo ho=>IN _ (IN _ ho)
     .exact⟨.inr OF,.inr (IN _ OF)⟩
    .have z9:=Z.drop (L:=.sl ksl 1 an (ks.map vi) gk::.sl isl 1 an (is.map vi) gi::(ML c ⟨S2.at',S2.lP,S2.out.set S.lP r.v⟩ (O2.set S.lP r)++(R++(J2++L2)))) z8;have pm:(.sl ksl 1 an (ks.map vi) gk::.sl isl 1 an (is.map vi) gi::(ML c ⟨S2.at',S2.lP,S2.out.set S.lP r.v⟩ (O2.set S.lP r)++(R++(J2++L2)))).Perm (ML c ⟨S2.at',S2.lP,S2.out.set S.lP r.v⟩ (O2.set S.lP r)++(R++((.sl ksl 1 an (ks.map vi) gk::.sl isl 1 an (is.map vi) gi::J2)++L2))):=by
      have p1:=agy [bG.sl ksl 1 an (ks.map vi) gk,.sl isl 1 an (is.map vi) gi] (ML c ⟨S2.at',S2.lP,S2.out.set S.lP r.v⟩ (O2.set S.lP r)) (R++(J2++L2));have p2:=agy [bG.sl ksl 1 an (ks.map vi) gk,.sl isl 1 an (is.map vi) gi] R (J2++L2);exact p1.trans (aiI _ p2)
     exact Z.perm z9 pm
theorem RQ.read {c S}(st:RQ h0 c S h R J L)(hm:c.m=S.out.length):oI h (arr c.nb c.m) S.out:=by
 obtain⟨O,hO,hRO,z⟩:=st;have l:LB h c.nb (O.flatMap bC.enc) aA:=z.get 2 rfl;have lo:O.length=c.m:=by rw[hm,<-hO,adQ]
 refine⟨O,c.nb+1,hO,l.Dm (by rw[gN bC.nJ,lo]),λr hr=>?_⟩;obtain⟨h1,h2⟩:=hRO r hr;have one:∀{s:Sl} {kl:ε} {g:Nat},(s.len=0/\kl=[])\/bG.sl s 1 an (kl.map vi) g∈J->IL h s kl:=λ{s kl g} hh=>by
  rcases hh with⟨e1,e2⟩|hm
  .subst e2;exact⟨0,wq.nil e1⟩
  .have o:ue h s 1 an (kl.map vi) g:=(z.own _ (abI _ (abI _ (adz _ hm)))).1;exact⟨g,o.Dm⟩
 exact⟨one h1,one h2⟩
theorem YX {m b}(hm:m<1073741824){x8} a0 a1 a2 :
  ∀n i h L ,m-i<n->i<=m->Z h0 h (.au x8 [aI (arr b m)] aR::.au b ((List.replicate i (-1)++List.replicate (m-i) 0).map vi) an::L) ->
   Wp (mz n a0 a1 a2 (al x8) (m:Int) (i:Int)) h λ_ h'=>Z h0 h' (.au x8 [aI (arr b m)] aR::.au b ((List.replicate m (-1:Int)).map vi) an::L):=by
 intro n
 induction n with
 |zero=>intro i h L h1;omega
 |succ n ih=>
  intro i h L h1 h2 z;rw[zQ];unfold sB;by_cases hi:i<m
  .rw[By (by simp;omega)];refine z.ld 0 (x:=arr b m) ?_;refine Ek (by omega) (by omega) ?_;rw[aa1,ae1];refine z.A3 1 (xs:=List.replicate i (-1)++List.replicate (m-i) 0) (by simp;omega) (λh3 z=>?_);have hf:(List.replicate i (-1:Int)++List.replicate (m-i) 0).set i (-1)=List.replicate (i+1) (-1)++List.replicate (m-(i+1)) 0:=by
    rw[ah9 _ _ (by simp),adV,aio,show m-i=(m-(i+1))+1 by omega,ah3,ahZ,ajt,agm];rfl
   rw[hf] at z;rw[vk h2 (by omega)];exact ih (i+1) h3 L (by omega) (by omega) z
  .rw[AT (by simp;omega),ag];have:i=m:=by omega
   subst this;simpa using z
theorem of_wp {s root}(z:Z h0 h L)(hb:s.len<=cF){n} :
  Wp (ux n (s,root)) h λr h'=>∃x5 b4,r=some (al x5)/\Z h0 h' (.au x5 [aI s,vi root,aI (arr b4 s.len)] dJ::.au b4 (List.replicate s.len aO) aR::L):=by
 unfold ux;refine z.new λx0 h1 z _=>z.dz [4,6] (by decide) (by decide) λnb h2 z=>?_;refine z.iN 2 (ls:=[.sl,li]) (x:=(s,root)) ?_;refine z.ld 2 (x:=s) ?_;refine z.aaA 0 (by omega) (by omega) λh3 z=>?_;refine z.newAt 1 (cs:=[aI s,vi root,aI (arr (nb+4) s.len)]) λh4 z=>?_;rw[ag];refine⟨nb+6,nb+4,rfl,?_⟩;rw[aa1] at z;rw[Wc] at z;have z:=Z.lX (pre:=[_,_,_]) z [1,0,2] (by simp only[acp,adT];decide);exact z.sub (List.Sublist.cons₂ _ (List.Sublist.cons₂ _ (aed _ _)))
theorem LJ {t L}(h1:bG.au t.tb [aI t.s,vi t.root,aI (arr t.sb N.length)] dJ∈L)(h2:bG.au t.sb (List.replicate N.length aO) aR∈L):nI t N L:=by
 refine⟨List.replicate N.length none,by simp,h1,by rw[aia];exact h2,λk b l hg=>?_⟩;have:=ag1 (az hg);cases this
def ro0:bC:=⟨0,ofBytes [],false,qQ,[],0,qQ,[],0⟩
theorem YY m:(List.replicate m ro0).flatMap bC.enc=(List.replicate m [vi 0,Value.string (ofBytes []),Value.bool false,aO,aO]).flatten:=by
 rw[List.flatMap_def,aia];rfl
structure lR (N:List av):Prop where
 len:N.length<=40
 map:∀x∈N,x.items.length<=80/\x.keys.length<=80
 txt:∀x∈N,x.text.size<=101
theorem lR.bd (f:lR N):Bd N 80:=⟨by have:=f.len;omega,by omega,λx hx=>⟨(f.map x hx).2,(f.map x hx).1⟩⟩
theorem lR.ht (f:lR N):∀x∈N,x.text.size<=65536:=λx hx=>by have:=f.txt x hx;omega
theorem lR.sm (f:lR N)(d:Vd N root):∀x∈N,x.kind=10->x.items.length<50:=λx hx hk=>by
 have h1:=d.afL hx;have h2:=d.map hx hk;have:=f.len;omega
end Go.Sh
namespace Go.Sh
open Go Go.Ago Go.Proofs
variable {α β:Type}{h h' h0:ai}{L R J:List bG}{N:List av}{root:Int}{B:Nat}{Q:β->ai->Prop}
def fuN:Nat:=fuV 80 60+100
def OG (nb:Nat)(O:List bC)(J:List bG):List bG:=.au nb (O.flatMap bC.enc) aA::J
theorem OG.read {nb O J X}(z:Z h0 h X)(hs:∀o∈OG nb O J,o∈X)(hRO:∀r∈O,RO r J):oI h (arr nb O.length) (O.map bC.v):=by
 have l:LB h nb (O.flatMap bC.enc) aA:=(z.own _ (hs _ OF)).1;refine⟨O,nb+1,rfl,l.Dm (by rw[gN bC.nJ]),λr hr=>?_⟩;obtain⟨h1,h2⟩:=hRO r hr;have one:∀{s:Sl} {kl:ε} {g:Nat},(s.len=0/\kl=[])\/bG.sl s 1 an (kl.map vi) g∈J->IL h s kl:=λ{s kl g} hh=>by
  rcases hh with⟨e1,e2⟩|hm
  .subst e2;exact⟨0,wq.nil e1⟩
  .have o:ue h s 1 an (kl.map vi) g:=(z.own _ (hs _ (IN _ hm))).1;exact⟨g,o.Dm⟩
 exact⟨one h1,one h2⟩
def Made (h0 h:ai)(s:Sl)(N':List av)(L:List bG):Prop:=∃nb O J,s=arr nb O.length/\O.map bC.v=N'/\(∀r∈O,RO r J)/\Z h0 h (OG nb O J++L)
theorem Made.z {s N' L}(m:Made h0 h s N' L):Z h0 h L:=by
 obtain⟨nb,O,J,_,_,_,z⟩:=m;exact z.sub (aic _ _)
theorem Made.read {s N' L}(m:Made h0 h s N' L):oI h s N':=by
 obtain⟨nb,O,J,rfl,rfl,hr,z⟩:=m;exact OG.read z (λo ho=>adz _ ho) hr
theorem Made.sub {s N' L L'}(m:Made h0 h s N' L)(hs:L'.Sublist L):Made h0 h s N' L':=by
 obtain⟨nb,O,J,e1,e2,hr,z⟩:=m;exact⟨nb,O,J,e1,e2,hr,z.sub ((ajd _).append hs)⟩
theorem Made.on {s N' L}(m:Made h0 h s N' L){γ}{M:M γ}{Q}(q:∀X,Z h0 h (L++X)->(∀h' L',Z h0 h' (L'++X)->Made h0 h' s N' L')->Wp M h Q):Wp M h Q:=by
 obtain⟨nb,O,J,e1,e2,hr,z⟩:=m;exact q (OG nb O J) (z.perm agx) λh' L' z'=>⟨nb,O,J,e1,e2,hr,z'.perm agx⟩
theorem UM {s}(z:Z h0 h L)(G:oI h0 s N)(f:lR N)(d:Vd N root){n}(hn:fuN<=n) :
  Wp (vg n (s,root)) h λr h'=>r.2=0/\Made h0 h' r.1 (wm N root) L:=by
 have hl:=f.len;have hfu:fuV 80 (N.length+1)<=n:=by
  grind [fuV,Nat.mul_le_mul_right,fuN]
 have hn100:100<=n:=by unfold fuN at hn;omega
 unfold vg;refine z.new λx0 h1 z _=>z.new λx1 h2 z _=>?_;refine z.iN 1 (ls:=[.sl,li]) (x:=(s,root)) ?_;have hsl:s.len=N.length:=G.len;rw[ah];refine (of_wp (s:=s) (root:=root) z (by rw[hsl];unfold cF;omega)).mono λx3 h3 hx=>?_;obtain⟨tb,sb,rfl,z⟩:=hx;rw[hsl] at z;refine z.new λx4 h4 z _=>z.st 0 (cs':=[Value.pointer (some (al tb))]) λh5 z=>?_;refine z.ld 4 (x:=s) ?_;rw[hsl];refine z.EC (by omega) (by unfold cF;omega) λab h6 z _=>?_;rw[aa1] at z⊢;rw[oP] at z;refine z.new λx8 h7 z _=>z.st 0 (cs':=[aI (arr ab N.length)]) λh8 z=>?_;refine z.ld 0 (x:=arr ab N.length) ?_;rw[ah];have z0:Z h0 h8 (.au x8 [aI (arr ab N.length)] aR::.au ab ((List.replicate 0 (-1)++List.replicate (N.length-0) 0).map vi) an::.au x4 [Value.pointer (some (al tb))] bF::.au tb [aI s,vi root,aI (arr sb N.length)] dJ::.au sb (List.replicate N.length aO) aR::.au x1 [aO,vi 0] aj::.au x0 [aI s,vi root] aj::L):=by simpa using z
 refine (YX (by omega) (al x0) (al x1) (al x4) n 0 h8 _ (by omega) (by omega) z0).mono λ_ h9 z=>?_;refine z.ld 6 (x:=s) ?_;rw[hsl];refine z.EC (by omega) (by unfold cF;omega) λnb h10 z _=>?_;rw[aa1] at z⊢;rw[<-YY] at z;refine z.new λjj h11 z _=>z.st 0 (cs':=[aI (arr nb N.length),vi 0]) λh12 z=>?_;refine z.new λrz h13 z _=>z.st 0 (cs':=[vi 0]) λh14 z=>?_;refine z.new λvB h15 z _=>?_
 let c:NC:=⟨ab,x8,rz,x0,x4,vB,nb,jj,N.length,⟨tb,sb,s,root⟩,80⟩
 refine z.st 0 (cs':=[c.fn]) λh16 z=>?_;have z:Z h0 h16 ([.au vB [c.fn] kV,.au rz [vi 0] an,.au jj [aI (arr nb N.length),vi 0] aj,.au nb ((List.replicate N.length ro0).flatMap bC.enc) aA,.au x8 [aI (arr ab N.length)] aR,.au ab ((List.replicate N.length (-1)).map vi) an,
  .au x4 [Value.pointer (some (al tb))] bF,.au tb [aI s,vi root,aI (arr sb N.length)] dJ,.au sb (List.replicate N.length aO) aR,.au x1 [aO,vi 0] aj,.au x0 [aI s,vi root] aj]++L):=z
 have z:=Z.lX z [1,5,3,4,10,6,0,2,9,7,8] (by simp only[acp,adT];decide);have z:Z h0 h16 (ML c (UJ N.length) (List.replicate N.length ro0)++([.au x1 [aO,vi 0] aj]++([.au tb [aI s,vi root,aI (arr sb N.length)] dJ,.au sb (List.replicate N.length aO) aR]++L))):=z;have z:Z h0 h16 (ML c (UJ N.length) (List.replicate N.length ro0)++((.au x1 [aO,vi 0] aj::L)++([]++[.au tb [aI s,vi root,aI (arr sb N.length)] dJ,.au sb (List.replicate N.length aO) aR]))):=z.perm (aiI _ (List.Perm.cons _ (show ([bG.au tb [aI s,vi root,aI (arr sb N.length)] dJ,bG.au sb (List.replicate N.length aO) aR]++L).Perm (L++[bG.au tb [aI s,vi root,aI (arr sb N.length)] dJ,bG.au sb (List.replicate N.length aO) aR]) from agx)));obtain⟨v,S,e,en,o,hv⟩:=FI d;refine z.ld 6 ?_;refine z.ld 4 (x:=root) ?_;unfold tP;rw[By (by rfl),ah,ah];refine jn (c:=((al c.x8,al c.rz,al c.x0,al c.x4,al c.vB,al c.jj):Addr×Addr×Addr×Addr×Addr×Addr)) rfl ?_;have Al:=YW (c:=c) d f.bd f.ht (f.sm d) G rfl (λx hx=>(f.map x hx).1) f.bd (N.length+1) (abi _);refine (Al n h16 root (UJ N.length) v S _ [] _ hfu e Qf (by show neg (List.replicate _ _)<_;rw[FH];omega) (LJ OF (IN _ OF)) ⟨List.replicate N.length ro0,by rw[aia];rfl,λr hr=>by
   have:=ag1 hr;subst this;exact⟨.inl ⟨rfl,rfl⟩,.inl ⟨rfl,rfl⟩⟩,z⟩).mono λr h17 hr=>?_
 obtain⟨rfl,J',L',_,_,O',hO',hRO',z⟩:=hr;refine z.iN 7 (x:=((arr nb N.length,0):mD [.sl,li])) ?_;refine z.st 8 (cs':=[aI (arr nb N.length),vi 0]) λh18 z=>?_;refine z.iN 8 (x:=((arr nb N.length,0):mD [.sl,li])) (ag.2 ⟨rfl,?_⟩);have z:Z h0 h18 (ML c S O'++((.au x1 [aI (arr nb N.length),vi 0] aj::L)++(J'++L'))):=z;have lo:O'.length=N.length:=by have:=ah7 List.length hO';rw[adQ,o.lo] at this;exact this
 refine⟨nb,O',J',by rw[lo],by rw[hO',en],hRO',?_⟩;have hsub:(.au nb (O'.flatMap bC.enc) aA::(L++J')).Sublist (ML c S O'++((.au x1 [aI (arr nb N.length),vi 0] aj::L)++(J'++L'))):=by
  refine List.Sublist.append (l₁:=[_]) ?_ ?_
  .exact List.Sublist.cons _ (List.Sublist.cons _ (List.Sublist.cons_cons _ (List.nil_sublist _)))
  .exact List.Sublist.cons _ ((ajd L).append (ajO _ _))
 exact (z.sub hsub).perm (List.Perm.cons _ agx)
theorem UN {s}(z:Z h0 h L)(G:oI h0 s N)(f:lR N){k}(hk:gK N.length 80<=k){r0}(hc:sM k N root=some r0){n}(hn:fuN<=n)(hn2:k+66000<n) :
  Wp (sE n (s,root)) h λr h'=>if r0=0 then r.2=0/\r.1.2=0/\Made h0 h' r.1.1 (wm N root) L else r.2=3/\Z h0 h' L:=by
 unfold sE;refine z.new λx0 h1 z _=>z.new λx1 h2 z _=>?_;refine z.iN 1 (ls:=[.sl,li]) (x:=(s,root)) ?_;rw[ah];refine (sN z G f.bd f.ht (by omega) hc).mono λy h3 hy=>?_;obtain⟨rfl,z⟩:=hy;by_cases h0':y=0
 .subst h0';rw[AT (by simp)];simp;have d:Vd N root:=D1 f.bd.2.2 f.bd.1 (by omega) hk hc;refine z.iN 1 (ls:=[.sl,li]) (x:=(s,root)) ?_;rw[ah];refine (UM z G f d hn).mono λr h4 hr=>?_;obtain⟨r2,m⟩:=hr;obtain⟨out,r2'⟩:=r;simp at r2 m;subst r2;refine m.on λX z back=>?_;refine z.st 0 (cs':=[aI out,vi 0]) λh5 z=>?_;refine z.iN 0 (ls:=[.sl,li]) (x:=(out,0)) (ag.2 ⟨rfl,rfl,?_⟩);exact (back h5 (.au x1 [aI out,vi 0] aj::.au x0 [aI s,vi root] aj::L) z).sub (List.Sublist.cons _ (List.Sublist.cons _ (ajd _)))
 .simp only[AT h0'];rw[By (by simpa using h0')];refine z.st 0 (cs':=[aO,vi 0]) λh4 z=>?_;refine z.iN 0 (ag.2 ⟨rfl,z.drop.drop⟩)
end Go.Sh
