
import Derived.Test.YtengdffgmpghgaaGreatDoorPae
import Derived.Test.YtengdffgmpghgaaGreatDoorPaf
import Derived.Test.YtengdffgmpghgaaGreatDoorPag
set_option linter.all false
namespace Go.Sh
open Go Go.Ago Go.Proofs
section
variable {N:List ah}{root:Int}{B:Nat}
def nth (l:ε)(a:Int):Int:=(gt l a).getD 0
def iota (m:Nat):ε:=(List.range m).map (λi:Nat=>(i:Int))
theorem ph (m:Nat):(iota m).length=m:=by simp[iota]
theorem rl {m i:Nat}(hi:i<m):(iota m)[i]?=some (i:Int):=by simp[iota,hi]
theorem sF (m:Nat):Good m (iota m):=⟨ph m,λv hv=>by
 simp[iota] at hv;obtain⟨a,ha,rfl⟩:=hv;omega⟩
def inM (m:Nat)(cv:Int->Int->Int)(a b:Int):Int:=if 0<=a/\a<m/\0<=b/\b<m then cv a b else 0
noncomputable def Zx (cv:Int->Int->Int)(m:Nat):ε:=if h:m<50 then (SY cv h (sF m)).choose else iota m
noncomputable def Q7 (cv:Int->Int->Int)(m:Nat):ε:=Zx (inM m cv) m
theorem Zy (cv:Int->Int->Int)(m:Nat):(Q7 cv m).Perm (iota m):=by
 unfold Q7 Zx
 grind
theorem ahq {cv:Int->Int->Int}{c:Cx}{P:List bA}{h:ab}{n:Nat}(hm:c.m<50)(ok:c.OK (inM c.m cv))(hn:c.k+600<=n)(st:c.St P h (iota c.m)):Wp ((cl n).dG (arr c.b c.m) c.x) h λ_ h'=>c.St P h' (Q7 cv c.m):=by
 unfold Q7 Zx;rw[dif_pos hm];exact (SY (inM c.m cv) hm (sF c.m)).choose_spec.2 c P h n rfl ok hn st
theorem VI {cv cv':Int->Int->Int}{m:Nat}(h:∀a b:Int,0<=a->a<m->0<=b->b<m->cv a b=cv' a b):Q7 cv m=Q7 cv' m:=by
 have:inM m cv=inM m cv':=by
  funext a b;grind [inM]
 unfold Q7;rw[this]
noncomputable def xh (cv:Int->Int->Int)(x:ah):ε:=if x.kind=10/\x.ord=false then Q7 (λa b=>cv (nth x.keys a) (nth x.keys b)) x.items.length else iota x.items.length
theorem Am (cv:Int->Int->Int)(x:ah):(xh cv x).Perm (iota x.items.length):=by
 grind [xh,Zy]
theorem Zz (cv:Int->Int->Int)(x:ah):(xh cv x).length=x.items.length:=by rw[(Am cv x).length_eq,ph]
theorem mX {cv:Int->Int->Int}{x:ah}{a:Int}(ha:a∈xh cv x):0<=a/\a<x.items.length:=(sF _).2 a ((Am cv x).mem_iff.1 ha)
def D7 (cv:Int->Int->Int)(x y:ah):ε->ε->Option Int
 |a::p,b::q=>if x.kind=10/\cv (nth x.keys a) (nth y.keys b)≠0 then some (cv (nth x.keys a) (nth y.keys b)) else if cv (nth x.items a) (nth y.items b)≠0 then some (cv (nth x.items a) (nth y.items b)) else D7 cv x y p q
 |_,_=>none
noncomputable def Oq (cv:Int->Int->Int)(x y:ah):Int:=
 if x.kind<y.kind then -1 else if y.kind<x.kind then 1 else if x.ord≠y.ord then (if y.ord then -1 else 1) else if VH x.kind x.text y.text≠0 then VH x.kind x.text y.text
 else match D7 cv x y (xh cv x) (xh cv y) with
  |some c=>c
  |none=>if x.items.length<y.items.length then -1 else if y.items.length<x.items.length then 1 else 0
noncomputable def acK (N:List ah)(cv:Int->Int->Int)(i j:Int):Int:=match gt N i,gt N j with
 |some x,some y=>Oq cv x y
 |_,_=>0
noncomputable def Ot (N:List ah):Nat->Int->Int->Int
 |0,_,_=>0
 |f+1,i,j=>acK N (Ot N f) i j
theorem iG {l:ε}{a:Int}(h0:0<=a)(h:a<l.length):nth l a∈l:=by
 obtain⟨v,hv⟩:=o5 h0 h;unfold nth;rw[hv];exact az hv
theorem Hz {cv cv':Int->Int->Int}{x:ah}(hl:x.kind=10->x.keys.length=x.items.length)(h:∀u∈x.keys,∀v∈x.keys,cv u v=cv' u v):xh cv x=xh cv' x:=by
 grind [xh,VI,iG]
theorem HA {cv cv':Int->Int->Int}{x y:ah}(h1:x.kind=10->∀u∈x.keys,∀v∈y.keys,cv u v=cv' u v)(h2:∀u∈x.items,∀v∈y.items,cv u v=cv' u v):∀{p q:ε},(∀a∈p,0<=a/\a<x.items.length/\(x.kind=10->a<x.keys.length))->(∀a∈q,0<=a/\a<y.items.length/\(x.kind=10->a<y.keys.length))->D7 cv x y p q=D7 cv' x y p q
 |[],q,_,_=>by cases q<;>rfl
 |a::p,[],_,_=>rfl
 |a::p,b::q,hp,hq=>by
  obtain⟨a1,a2,a3⟩:=hp a IT;obtain⟨b1,b2,b3⟩:=hq b IT;have e2:=h2 _ (iG a1 a2) _ (iG b1 b2);have ih:=HA h1 h2 (p:=p) (q:=q) (λc hc=>hp c (IN _ hc)) λc hc=>hq c (IN _ hc);unfold D7;rw[e2,ih];by_cases hk:x.kind=10
  .rw[h1 hk _ (iG a1 (a3 hk)) _ (iG b1 (b3 hk))]
  .simp only[hk,false_and,afy]
theorem BT {cv cv':Int->Int->Int}{x y:ah}(hx:x.kind=10->x.keys.length=x.items.length)(hy:y.kind=10->y.keys.length=y.items.length)
  (h:∀u v,(u∈x.keys\/u∈x.items\/u∈y.keys\/u∈y.items)->(v∈x.keys\/v∈x.items\/v∈y.keys\/v∈y.items)->cv u v=cv' u v):Oq cv x y=Oq cv' x y:=by
 unfold Oq;split
 .rfl
 split
 .rfl
 rename_i c1 c2;have hk:x.kind=y.kind:=by omega
 split
 .rfl
 split
 .rfl
 rw[Hz hx λu hu v hv=>h u v (.inl hu) (.inl hv),Hz (x:=y) hy λu hu v hv=>h u v (.inr (.inr (.inl hu))) (.inr (.inr (.inl hv)))];rw[HA (cv:=cv) (cv':=cv') (λ_ u hu v hv=>h u v (.inl hu) (.inr (.inr (.inl hv)))) (λu hu v hv=>h u v (.inr (.inl hu)) (.inr (.inr (.inr hv))))
  (λa ha=>⟨(mX ha).1,(mX ha).2,λe=>by rw[hx e];exact (mX ha).2⟩) (λa ha=>⟨(mX ha).1,(mX ha).2,λe=>by rw[hy (hk▸e)];exact (mX ha).2⟩)]
theorem VJ (d:Vd N root){H:Int->Nat}(hH:∀u v,KN N v->Edge N u v->H v<H u):∀(t f f':Nat),t<f->t<f'->∀i j,KN N i->KN N j->H i<=t->H j<=t->Ot N f i j=Ot N f' i j:=by
 intro t
 induction t with
 |zero=>
  intro f f' h1 h2 i j hi hj hti htj;obtain⟨f,rfl⟩:∃g,f=g+1:=⟨f-1,by omega⟩;obtain⟨f',rfl⟩:∃g,f'=g+1:=⟨f' - 1,by omega⟩;unfold Ot acK;cases ex:gt N i with
  |none=>rfl
  |some x=>
   cases ey:gt N j with
   |none=>rfl
   |some y=>
    refine BT (d.map (az ex)) (d.map (az ey)) λu v hu hv=>?_;exfalso;rcases hu with h|h|h|h
    .have:=hH i u (.step hi ⟨x,ex,.inl h⟩) ⟨x,ex,.inl h⟩;omega
    .have:=hH i u (.step hi ⟨x,ex,.inr h⟩) ⟨x,ex,.inr h⟩;omega
    .have:=hH j u (.step hj ⟨y,ey,.inl h⟩) ⟨y,ey,.inl h⟩;omega
    .have:=hH j u (.step hj ⟨y,ey,.inr h⟩) ⟨y,ey,.inr h⟩;omega
 |succ t ih=>
  intro f f' h1 h2 i j hi hj hti htj;obtain⟨f,rfl⟩:∃g,f=g+1:=⟨f-1,by omega⟩;obtain⟨f',rfl⟩:∃g,f'=g+1:=⟨f' - 1,by omega⟩;unfold Ot acK;cases ex:gt N i with
  |none=>rfl
  |some x=>
   cases ey:gt N j with
   |none=>rfl
   |some y=>
    have low:∀u,(u∈x.keys\/u∈x.items\/u∈y.keys\/u∈y.items)->KN N u/\H u<=t:=λu hu=>by
     rcases hu with h|h|h|h
     .have e:Edge N i u:=⟨x,ex,.inl h⟩;have:=hH i u (.step hi e) e;exact⟨.step hi e,by omega⟩
     .have e:Edge N i u:=⟨x,ex,.inr h⟩;have:=hH i u (.step hi e) e;exact⟨.step hi e,by omega⟩
     .have e:Edge N j u:=⟨y,ey,.inl h⟩;have:=hH j u (.step hj e) e;exact⟨.step hj e,by omega⟩
     .have e:Edge N j u:=⟨y,ey,.inr h⟩;have:=hH j u (.step hj e) e;exact⟨.step hj e,by omega⟩
    exact BT (d.map (az ex)) (d.map (az ey)) λu v hu hv=>ih f f' (by omega) (by omega) u v (low u hu).1 (low v hv).1 (low u hu).2 (low v hv).2
noncomputable def pY (N:List ah):Int->Int->Int:=Ot N (N.length+1)
noncomputable def gI (N:List ah)(i:Int):ε:=match gt N i with
 |some x=>xh (pY N) x
 |none=>[]
theorem pn {k:Int}{x:ah}(hx:gt N k=some x):(gI N k).length=x.items.length:=by
 unfold gI;rw[hx];exact Zz _ _
theorem acL (d:Vd N root){i j:Int}{x y:ah}(hi:KN N i)(hj:KN N j)(ex:gt N i=some x)(ey:gt N j=some y):pY N i j=Oq (pY N) x y:=by
 obtain⟨H,hH1,hH2⟩:=d.Vy;have e:pY N i j=Oq (Ot N N.length) x y:=by
  unfold pY Ot acK;rw[ex,ey]
 rw[e];refine BT (d.map (az ex)) (d.map (az ey)) λu v hu hv=>?_;have low:∀u,(u∈x.keys\/u∈x.items\/u∈y.keys\/u∈y.items)->KN N u/\H u<N.length:=λu hu=>by
  have h1:=hH1 i;have h2:=hH1 j;rcases hu with h|h|h|h
  .have e:Edge N i u:=⟨x,ex,.inl h⟩;have:=hH2 i u (.step hi e) e;exact⟨.step hi e,by omega⟩
  .have e:Edge N i u:=⟨x,ex,.inr h⟩;have:=hH2 i u (.step hi e) e;exact⟨.step hi e,by omega⟩
  .have e:Edge N j u:=⟨y,ey,.inl h⟩;have:=hH2 j u (.step hj e) e;exact⟨.step hj e,by omega⟩
  .have e:Edge N j u:=⟨y,ey,.inr h⟩;have:=hH2 j u (.step hj e) e;exact⟨.step hj e,by omega⟩
 have h1:=(low u hu).2;exact VJ d hH2 (N.length-1) _ _ (by omega) (by omega) u v (low u hu).1 (low v hv).1 (by have:=(low u hu).2;omega) (by have:=(low v hv).2;omega)
end
section
variable {N N':List ah}{root v:Int}{φ:Int->Int}
theorem ahr {n:Nat}{R:Nat->Nat->Prop}(h:∀a,a<n->∃b,b<n/\R a b)(inj:∀a a' b,a<n->a'<n->R a b->R a' b->a=a'):∀b,b<n->∃a,a<n/\R a b:=by
 have ex:∀a,∃b,a<n->b<n/\R a b:=λa=>by
  by_cases ha:a<n
  .grind
  .exact⟨0,λq=>absurd q ha⟩
 obtain⟨G,hG⟩:=ajA ex;intro b hb;refine ae3 λhn=>?_;have nd:((List.range n).map G).Nodup:=by
  refine List.pairwise_map.2 (ajW ?_ aiP)
  grind
 have nm:b∉(List.range n).map G:=λhm=>by
  obtain⟨a,ha,rfl⟩:=List.mem_map.1 hm
  grind
 have hs:b::(List.range n).map G ⊆ List.range n:=λc hc=>by
  rcases List.mem_cons.1 hc with rfl|hc
  .exact List.mem_range.2 hb
  .obtain⟨a,ha,rfl⟩:=List.mem_map.1 hc
   grind
 have:=(List.nodup_cons.2 ⟨nm,nd⟩).length_le_of_subset hs;simp at this;omega
theorem uI (hM:∀x∈N,p9 x):∀{f:Nat} {a b c:Int},xg N f a b->xg N f b c->xg N f a c
 |0,a,b,c,h,_=>h.elim
 |f+1,a,b,c,⟨x,y,hx,hy,h1,h2,h3,h4,h5⟩,⟨y',z,hy',hz,g1,g2,g3,g4,g5⟩=>by
  rw[hy] at hy';cases hy';refine⟨x,z,hx,hz,h1.trans g1,h2.trans g2,h3.trans g3,h4.trans g4,?_⟩;split at h5
  .rename_i q;rw[By q];rw[By ⟨h1▸q.1,h3▸q.2⟩] at g5;intro a kx p q1 q2;obtain⟨b,ky,r,q3,q4,q5,q6⟩:=h5 a kx p q1 q2;obtain⟨c,kz,s,q7,q8,q9,q10⟩:=g5 b ky r q3 q4;exact⟨c,kz,s,q7,q8,uI hM q5 q9,uI hM q6 q10⟩
  .rename_i q;rw[AT q];rw[AT (λe=>q ⟨h1▸e.1,h3▸e.2⟩)] at g5;intro a p r q1 q2;obtain⟨w,hw⟩:=dS (l:=y.items) (i:=a) (by have:=aP q1;omega);obtain⟨e1,e2⟩:=h5 a p w q1 hw;obtain⟨e3,e4⟩:=g5 a w r hw q2;refine⟨uI hM e1 e3,λhk kx kz r1 r2=>?_⟩;obtain⟨ky,hky⟩:=dS (l:=y.keys) (i:=a) (by rw[hM y (az hy) (h1▸hk)];exact aP hw);exact uI hM (e2 hk kx ky r1 hky) (e4 (h1▸hk) ky kz hky r2)
theorem tu (hM:∀x∈N,p9 x)(tw:∀x∈N,x.keys.Pairwise λy x=>¬SM N x y):∀{f:Nat} {a b:Int},xg N f a b->xg N f b a
 |0,a,b,h=>h.elim
 |f+1,a,b,⟨x,y,hx,hy,h1,h2,h3,h4,h5⟩=>by
  refine⟨y,x,hy,hx,h1.symm,h2.symm,h3.symm,h4.symm,?_⟩;split at h5
  .rename_i q;rw[By ⟨h1▸q.1,h3▸q.2⟩];have lx:=hM x (az hx) q.1;have ly:=hM y (az hy) (h1▸q.1);have key:=ahr (n:=x.items.length) (R:=λa b=>∃kx ky p r,x.keys[a]?=some kx/\y.keys[b]?=some ky/\x.items[a]?=some p/\y.items[b]?=some r/\xg N f kx ky/\xg N f p r) (λa ha=>by
    obtain⟨kx,hkx⟩:=dS (l:=x.keys) (i:=a) (by omega);obtain⟨p,hp⟩:=dS (l:=x.items) (i:=a) ha;obtain⟨b,ky,r,e1,e2,e3,e4⟩:=h5 a kx p hkx hp;exact⟨b,by have:=aP e2;omega,kx,ky,p,r,hkx,e1,hp,e2,e3,e4⟩) (λa a' b ha ha' ⟨kx,ky,p,r,e1,e2,e3,e4,e5,e6⟩ ⟨kx',ky',p',r',g1,g2,g3,g4,g5,g6⟩=>by
    rw[e2] at g2;cases g2;refine ae3 λhne=>?_;have s1:xg N f kx kx':=uI hM e5 (tu hM tw g5);have s2:xg N f kx' kx:=uI hM g5 (tu hM tw e5);have pw:=List.pairwise_iff_getElem.1 (tw x (az hx));obtain⟨l1,e1⟩:=List.getElem?_eq_some_iff.1 e1;obtain⟨l2,g1⟩:=List.getElem?_eq_some_iff.1 g1;rcases Nat.lt_or_gt_of_ne hne with h|h
    .have:=pw a a' l1 l2 h;rw[e1,g1] at this;exact this ⟨f,s2⟩
    .have:=pw a' a l2 l1 h;rw[e1,g1] at this;exact this ⟨f,s1⟩)
   intro b ky r q1 q2;obtain⟨a,ha,kx,ky',p,r',e1,e2,e3,e4,e5,e6⟩:=key b (by have:=aP q2;omega);rw[q1] at e2;rw[q2] at e4;cases e2;cases e4;exact⟨a,kx,p,e1,e3,tu hM tw e5,tu hM tw e6⟩
  .rename_i q;rw[AT (λe=>q ⟨h1▸e.1,h3▸e.2⟩)];intro a r p q1 q2;obtain⟨e1,e2⟩:=h5 a p r q2 q1;exact⟨tu hM tw e1,λhk ky kx r1 r2=>tu hM tw (e2 (h1▸hk) kx ky r2 r1)⟩
structure vD (φ:Int->Int) (x x':ah):Prop where
 k:x'.kind=x.kind
 t:x'.text=x.text
 o:x'.ord=x.ord
 e:∃o:ε,o.Perm (iota x.items.length)/\(¬(x.kind=10/\x.ord=false)->o=iota x.items.length)/\x'.items=o.map (λa=>φ (nth x.items a))/\x'.keys=if x.kind=10 then o.map (λa=>φ (nth x.keys a)) else []
theorem gb {l:ε}{i:Nat}{p:Int}(h:l[i]?=some p):nth l (i:Int)=p:=by
 unfold nth gt
 grind
section
variable {x x':ah}
theorem vD.il (E:vD φ x x'):x'.items.length=x.items.length:=by
 obtain⟨o,h1,_,h3,_⟩:=E.e;rw[h3,ae1,h1.length_eq,ph]
theorem vD.kl (E:vD φ x x')(hm:p9 x)(hk:x.kind≠10->x.keys=[]):x'.keys.length=x.keys.length:=by
 obtain⟨o,h1,_,_,h4⟩:=E.e;rw[h4];by_cases h:x.kind=10
 .rw[By h,ae1,h1.length_eq,ph,hm h]
 .rw[AT h,hk h]
theorem vD.to (E:vD φ x x'){a:Nat}{p:Int}(h:x.items[a]?=some p):∃a':Nat,x'.items[a']?=some (φ p)/\(x.kind=10->∀k,x.keys[a]?=some k->x'.keys[a']?=some (φ k))/\(¬(x.kind=10/\x.ord=false)->a'=a):=by
 obtain⟨o,h1,h2,h3,h4⟩:=E.e;have hlt:=aP h;have hm:(a:Int)∈o:=h1.mem_iff.2 (by unfold iota;grind);by_cases hu:x.kind=10/\x.ord=false
 .obtain⟨a',ha'⟩:=List.mem_iff_getElem?.1 hm;refine⟨a',by grind [gb],λhk k hkk=>by rw[h4,By hk,aal,ha'];simp[gb hkk],λq=>absurd hu q⟩
 .have:=h2 hu;subst this;refine⟨a,by grind [rl,gb],λhk k hkk=>by rw[h4,By hk,aal,rl hlt];simp[gb hkk],λ_=>rfl⟩
theorem vD.of (E:vD φ x x'){a':Nat}{p':Int}(h:x'.items[a']?=some p'):∃(a:Nat) (p:Int),x.items[a]?=some p/\p'=φ p/\(x.kind=10->∀k,x.keys[a]?=some k->x'.keys[a']?=some (φ k))/\(¬(x.kind=10/\x.ord=false)->a'=a):=by
 obtain⟨o,h1,h2,h3,h4⟩:=E.e;rw[h3,aal] at h;cases ho:o[a']? with
 |none=>rw[ho] at h;cases h
 |some b=>
  rw[ho] at h;have hb:b∈iota x.items.length:=h1.mem_iff.1 (BY ho);unfold iota at hb;obtain⟨a,ha,rfl⟩:=List.mem_map.1 hb;obtain⟨p,hp⟩:=dS (l:=x.items) (i:=a) (List.mem_range.1 ha);refine⟨a,p,hp,?_,λhk k hkk=>by rw[h4,By hk,aal,ho];simp[gb hkk],λhu=>?_⟩
  .grind [nth,Option.some.inj,gb]
  grind [aP,ph,rl,Option.some.inj]
theorem vD.form (E:vD φ x x')(hm:p9 x)(hk:x.kind≠10->x.keys=[]):jc x'=jc x:=by
 have h1:=E.il;have h2:=E.kl hm hk;have h3:=E.k;have h4:=E.t;have h5:=E.o
 grind [jc]
end
structure BU (N:List ah) (v:Int) (N':List ah) (φ:Int->Int):Prop where
 nd:∀u x,iV N v u->gt N u=some x->∃x',gt N' (φ u)=some x'/\vD φ x x'
 inj:∀u w,iV N v u->iV N v w->φ u=φ w->u=w
 sur:∀w,IR N'.length w->∃u,iV N v u/\φ u=w
 len:N'.length<=N.length
section
variable (I:BU N v N' φ)(g:GV N root)(hv:IR N.length v)
include I g hv
theorem BU.ir {u:Int}(h:iV N v u):IR N.length u/\IR N'.length (φ u):=by
 have h1:=h.ir g.ix hv;obtain⟨x,hx⟩:=dA (l:=N) rfl h1;obtain⟨x',hx',_⟩:=I.nd u x h hx;exact⟨h1,p8 hx'⟩
theorem GV.map (g:GV N root){x:ah}(hx:x∈N):p9 x:=CQ (g.fm x hx)
end
theorem GV.zV (g:GV N root){x:ah}(hx:x∈N):p9 x:=CQ (g.fm x hx)
theorem sG {x:ah}(h:jc x=some true)(hk:x.kind≠10):x.keys=[]:=by
 unfold jc at h
 grind
end
section
variable {N N':List ah}{root v:Int}{φ:Int->Int}{x x':ah}
theorem vD.toK (E:vD φ x x')(hm:p9 x)(hk:x.kind≠10->x.keys=[]){a:Nat}{k:Int}(h:x.keys[a]?=some k):∃a':Nat,x'.keys[a']?=some (φ k):=by
 have h10:x.kind=10:=ae3 λq=>by rw[hk q] at h;simp at h
 obtain⟨p,hp⟩:=dS (l:=x.items) (i:=a) (by rw[<-hm h10];exact aP h);obtain⟨a',_,h2,_⟩:=E.to hp;exact⟨a',h2 h10 k h⟩
theorem vD.ofK (E:vD φ x x')(hm:p9 x)(hk:x.kind≠10->x.keys=[]){a':Nat}{k':Int}(h:x'.keys[a']?=some k'):∃(a:Nat) (k:Int),x.keys[a]?=some k/\k'=φ k:=by
 have hl:=E.kl hm hk;have h10:x.kind=10:=ae3 λq=>by grind
 obtain⟨p',hp'⟩:=dS (l:=x'.items) (i:=a') (by rw[E.il,<-hm h10,<-hl];exact aP h);obtain⟨a,p,h1,_,h2,_⟩:=E.of hp';obtain⟨k,hk2⟩:=dS (l:=x.keys) (i:=a) (by rw[hm h10];exact aP h1)
 grind
section
variable (I:BU N v N' φ)(g:GV N root)(hv:IR N.length v)
include I g
theorem BU.Fb {u w:Int}(h:iV N v u)(e:Edge N u w):Edge N' (φ u) (φ w):=by
 obtain⟨x,hx,hm⟩:=e;obtain⟨x',hx',E⟩:=I.nd u x h hx;refine⟨x',hx',?_⟩;rcases hm with hm|hm
 .obtain⟨a,ha⟩:=List.mem_iff_getElem?.1 hm;obtain⟨a',h1⟩:=E.toK (g.zV (az hx)) (sG (g.fm x (az hx))) ha;exact .inl (BY h1)
 .obtain⟨a,ha⟩:=List.mem_iff_getElem?.1 hm;obtain⟨a',h1,_⟩:=E.to ha;exact .inr (BY h1)
theorem BU.S8 {u w':Int}(h:iV N v u)(hu:IR N.length u)(e:Edge N' (φ u) w'):∃w,Edge N u w/\φ w=w':=by
 obtain⟨x,hx⟩:=dA (l:=N) rfl hu;obtain⟨x',hx',E⟩:=I.nd u x h hx;obtain⟨y,hy,hm⟩:=e;rw[hx'] at hy;cases hy;rcases hm with hm|hm
 .obtain⟨a',ha⟩:=List.mem_iff_getElem?.1 hm;obtain⟨a,k,h1,rfl⟩:=E.ofK (g.zV (az hx)) (sG (g.fm x (az hx))) ha;exact⟨k,⟨x,hx,.inl (BY h1)⟩,rfl⟩
 .obtain⟨a',ha⟩:=List.mem_iff_getElem?.1 hm;obtain⟨a,p,h1,rfl,_⟩:=E.of ha;exact⟨p,⟨x,hx,.inr (BY h1)⟩,rfl⟩
theorem BU.rch {u w:Int}(h:iV N v u)(r:iV N u w):iV N' (φ u) (φ w):=by
 induction r with
 |refl=>exact .refl
 |step r e ih=>exact ih.step (I.Fb g (h.trans r) e)
include hv
theorem BU.ai4 {u w':Int}(h:iV N v u)(r:iV N' (φ u) w'):∃w,iV N u w/\φ w=w':=by
 induction r with
 |refl=>exact⟨u,.refl,rfl⟩
 |step r e ih=>
  obtain⟨w,h1,h2⟩:=ih;rw[<-h2] at e;obtain⟨z,h3,h4⟩:=I.S8 g (h.trans h1) ((h.trans h1).ir g.ix hv) e;exact⟨z,h1.step h3,h4⟩
theorem BU.acM {u w:Int}(hu:iV N v u)(hw:iV N v w):iV N' (φ u) (φ w)↔iV N u w:=by
 constructor
 .intro r;obtain⟨z,h1,h2⟩:=I.ai4 g hv hu r;rw[<-I.inj z w (hu.trans h1) hw h2];exact h1
 .exact I.rch g hu
theorem S9 {n n':Nat}{P P':Nat->Bool}(f:Nat->Nat)(h1:∀a,a<n->P a=true->f a<n'/\P' (f a)=true)(h2:∀a b,a<n->b<n->P a=true->P b=true->f a=f b->a=b):(List.range n).countP P<=(List.range n').countP P':=by
 rw[akt,akt];have nd:(((List.range n).filter P).map f).Nodup:=by
  grind [List.Pairwise.imp_of_mem,List.nodup_range]
 have:=nd.length_le_of_subset (l₂:=(List.range n').filter P') λc hc=>by
  grind
 simpa using this
theorem BU.back:∃ψ:Int->Int,(∀w,IR N'.length w->iV N v (ψ w)/\φ (ψ w)=w)/\∀u,iV N v u->ψ (φ u)=u:=by
 have ex:∀w,∃u,IR N'.length w->iV N v u/\φ u=w:=λw=>by
  by_cases h:IR N'.length w
  .obtain⟨u,hu⟩:=I.sur w h;exact⟨u,λ_=>hu⟩
  .exact⟨0,λq=>absurd q h⟩
 obtain⟨ψ,h⟩:=ajA ex;refine⟨ψ,h,λu hu=>?_⟩;obtain⟨h1,h2⟩:=h (φ u) (I.ir g hv hu).2;exact I.inj _ _ h1 hu h2
theorem BU.wt {u:Int}(hu:iV N v u):wt N' (φ u)=wt N u:=by
 obtain⟨ψ,p1,p2⟩:=I.back g hv;have nn:∀{n:Nat} {w:Int},IR n w->w.toNat<n/\(w.toNat:Int)=w:=λh=>by unfold IR at h;omega
 unfold Sh.wt
 congr 1
 apply Nat.le_antisymm
 .refine S9 I g hv (λw:Nat=>(ψ (w:Int)).toNat) (λw hw h=>?_) λa b ha hb _ _ e=>?_
  .obtain⟨q1,q2⟩:=p1 (w:Int) ⟨by omega,by omega⟩;have q3:=nn (I.ir g hv q1).1;refine⟨q3.1,?_⟩;simp only[OF] at h⊢;rw[q3.2];rw[<-q2] at h;exact⟨(I.acM g hv hu q1).1 h.1,(I.acM g hv q1 hu).1 h.2⟩
  .obtain⟨q1,q2⟩:=p1 (a:Int) ⟨by omega,by omega⟩;obtain⟨r1,r2⟩:=p1 (b:Int) ⟨by omega,by omega⟩;have q3:=nn (I.ir g hv q1).1;have r3:=nn (I.ir g hv r1).1
   grind
 .have rc:∀w:Nat,iV N u (w:Int)->iV N v (w:Int):=λw h=>hu.trans h;refine S9 I g hv (λw:Nat=>(φ (w:Int)).toNat) (λw hw h=>?_) λa b ha hb h1 h2 e=>?_
  .simp only[OF] at h⊢;have q3:=nn (I.ir g hv (rc w h.1)).2;rw[q3.2];exact⟨q3.1,(I.acM g hv hu (rc w h.1)).2 h.1,(I.acM g hv (rc w h.1) hu).2 h.2⟩
  .simp only[OF] at h1 h2;have q3:=nn (I.ir g hv (rc a h1.1)).2;have r3:=nn (I.ir g hv (rc b h2.1)).2
   grind
theorem BU.df {f:Int->Int}(hf:DF N f):∃f',DF N' f'/\f' (φ v)=f v:=by
 obtain⟨ψ,p1,p2⟩:=I.back g hv;refine⟨λw=>f (ψ w),λw hw=>?_,by simp only;rw[p2 v .refl]⟩;obtain⟨q1,q2⟩:=p1 w hw;obtain⟨h1,h2⟩:=hf (ψ w) (I.ir g hv q1).1;have hwt:=I.wt g hv q1;rw[q2] at hwt;refine⟨by rw[hwt];exact h1,λz hz=>?_⟩;rw[<-q2] at hz;obtain⟨y,r1,rfl⟩:=I.ai4 g hv q1 hz;have hy:=q1.trans r1;obtain⟨h3,h4⟩:=h2 y r1;simp only;rw[p2 y hy,hwt];exact⟨h3,λhn=>h4 λr=>hn (by rw[<-q2];exact I.rch g hy r)⟩
theorem BU.node {x':ah}(h:x'∈N'):∃u x,iV N v u/\gt N u=some x/\gt N' (φ u)=some x'/\vD φ x x':=by
 obtain⟨j,hj⟩:=List.mem_iff_getElem?.1 h;have hlt:=aP hj;obtain⟨u,hu,e⟩:=I.sur (j:Int) ⟨by omega,by omega⟩;obtain⟨x,hx⟩:=dA (l:=N) rfl (I.ir g hv hu).1;obtain⟨y,hy,E⟩:=I.nd u x hu hx;have:gt N' (φ u)=some x':=by rw[e];unfold gt;grind
 grind
theorem BU.kn {w:Int}(h:KN N' w):∃u,iV N v u/\φ u=w/\KN N u:=by
 induction h with
 |key hx hw=>
  obtain⟨u,x,hu,hgx,_,E⟩:=I.node g hv hx;obtain⟨a',ha⟩:=List.mem_iff_getElem?.1 hw;obtain⟨a,k,h1,h2⟩:=E.ofK (g.zV (az hgx)) (sG (g.fm x (az hgx))) ha;have hk:=BY h1;exact⟨k,hu.step ⟨x,hgx,.inl hk⟩,h2.symm,.key (az hgx) hk⟩
 |step _ e ih=>
  obtain⟨u,hu,rfl,hk⟩:=ih;obtain⟨w,h1,h2⟩:=I.S8 g hu (I.ir g hv hu).1 e;exact⟨w,hu.step h1,h2,hk.step h1⟩
theorem BU.sm:∀(f:Nat) (a b:Int),iV N v a->iV N v b->(xg N' f (φ a) (φ b)↔xg N f a b)
 |0,a,b,_,_=>Iff.rfl
 |f+1,a,b,ha,hb=>by
  obtain⟨x,hx⟩:=dA (l:=N) rfl (I.ir g hv ha).1;obtain⟨y,hy⟩:=dA (l:=N) rfl (I.ir g hv hb).1;obtain⟨x',hx',E⟩:=I.nd a x ha hx;obtain⟨y',hy',G⟩:=I.nd b y hb hy;have mx:=g.zV (az hx);have my:=g.zV (az hy);have ed:∀{u:Int} {z:ah} {l:ε} {i:Nat} {p:Int},iV N v u->gt N u=some z->(l=z.keys\/l=z.items)->l[i]?=some p->iV N v p:=λhu hz hl hp=>hu.step ⟨_,hz,by
   grind⟩
  have kz:∀{z:ah} {i:Nat} {p:Int},p9 z->z.kind=10->z.items[i]?=some p->∃k,z.keys[i]?=some k:=λhm hk hp=>dS (by rw[hm hk];exact aP hp);constructor
  .rintro⟨x2,y2,e1,e2,h1,h2,h3,h4,h5⟩;rw[hx'] at e1;rw[hy'] at e2;cases e1;cases e2;rw[E.k,G.k] at h1;rw[E.t,G.t] at h2;rw[E.o,G.o] at h3;rw[E.il,G.il] at h4;refine⟨x,y,hx,hy,h1,h2,h3,h4,?_⟩;rw[E.k,E.o] at h5;split at h5
   .rename_i q;rw[By q];intro i kx p q1 q2;obtain⟨i',r1,r2,_⟩:=E.to q2;obtain⟨j',ky',p',s1,s2,s3,s4⟩:=h5 i' _ _ (r2 q.1 kx q1) r1;obtain⟨j,pj,t1,rfl,t2,_⟩:=G.of s2;obtain⟨ky,hky⟩:=kz my (h1▸q.1) t1;have:=t2 (h1▸q.1) ky hky;rw[s1] at this;cases this;exact⟨j,ky,pj,hky,t1,(BU.sm f kx ky (ed ha hx (.inl rfl) q1) (ed hb hy (.inl rfl) hky)).1 s3,(BU.sm f p pj (ed ha hx (.inr rfl) q2) (ed hb hy (.inr rfl) t1)).1 s4⟩
   .rename_i q;rw[AT q];intro i p r q1 q2;obtain⟨i',r1,r2,r3⟩:=E.to q1;obtain⟨j',s1,s2,s3⟩:=G.to q2;have:=r3 q;subst this;have:=s3 (λe=>q ⟨h1▸e.1,h3▸e.2⟩);subst this;obtain⟨u1,u2⟩:=h5 _ _ _ r1 s1;exact⟨(BU.sm f p r (ed ha hx (.inr rfl) q1) (ed hb hy (.inr rfl) q2)).1 u1,λhk kx ky v1 v2=>(BU.sm f kx ky (ed ha hx (.inl rfl) v1) (ed hb hy (.inl rfl) v2)).1 (u2 hk _ _ (r2 hk kx v1) (s2 (h1▸hk) ky v2))⟩
  .rintro⟨x2,y2,e1,e2,h1,h2,h3,h4,h5⟩;rw[hx] at e1;rw[hy] at e2;cases e1;cases e2;refine⟨x',y',hx',hy',by rw[E.k,G.k,h1],by rw[E.t,G.t,h2],by rw[E.o,G.o,h3],by rw[E.il,G.il,h4],?_⟩;rw[E.k,E.o];split at h5
   .rename_i q;rw[By q];intro i' kx' p' q1 q2;obtain⟨i,p,r1,rfl,r2,_⟩:=E.of q2;obtain⟨kx,hkx⟩:=kz mx q.1 r1;have:=r2 q.1 kx hkx;rw[q1] at this;cases this;obtain⟨j,ky,r,s1,s2,s3,s4⟩:=h5 i kx p hkx r1;obtain⟨j',t1,t2,_⟩:=G.to s2;exact⟨j',_,_,t2 (h1▸q.1) ky s1,t1,(BU.sm f kx ky (ed ha hx (.inl rfl) hkx) (ed hb hy (.inl rfl) s1)).2 s3,(BU.sm f p r (ed ha hx (.inr rfl) r1) (ed hb hy (.inr rfl) s2)).2 s4⟩
   .rename_i q;rw[AT q];intro i p' r' q1 q2;obtain⟨i',p,r1,rfl,r2,r3⟩:=E.of q1;obtain⟨j',r,s1,rfl,s2,s3⟩:=G.of q2;have:=r3 q;subst this;have:=s3 (λe=>q ⟨h1▸e.1,h3▸e.2⟩);subst this;obtain⟨u1,u2⟩:=h5 _ _ _ r1 s1;refine⟨(BU.sm f p r (ed ha hx (.inr rfl) r1) (ed hb hy (.inr rfl) s1)).2 u1,λhk kx' ky' v1 v2=>?_⟩;obtain⟨kx,hkx⟩:=kz mx hk r1;obtain⟨ky,hky⟩:=kz my (h1▸hk) s1;have:=r2 hk kx hkx;rw[v1] at this;cases this;have:=s2 (h1▸hk) ky hky;rw[v2] at this;cases this;exact (BU.sm f kx ky (ed ha hx (.inl rfl) hkx) (ed hb hy (.inl rfl) hky)).2 (u2 hk kx ky hkx hky)
end
end
section
variable {N N':List ah}{root v:Int}{φ:Int->Int}{x x':ah}
theorem An {γ:Type}{ψ:Int->γ}:∀(l:ε),(iota l.length).map (λa=>ψ (nth l a))=l.map ψ:=λl=>by
 refine ajF λi=>?_
 grind [dS,rl,gb,List.getElem?_eq_none,ph]
theorem vD.items (E:vD φ x x'):x'.items.Perm (x.items.map φ):=by
 obtain⟨o,h1,_,h3,_⟩:=E.e
 grind [nth,An]
theorem vD.keys (E:vD φ x x')(hm:p9 x)(hk:x.kind≠10->x.keys=[]):∃l:ε,l.Perm x.keys/\x'.keys=l.map φ:=by
 obtain⟨o,h1,_,_,h4⟩:=E.e;by_cases h:x.kind=10
 .refine⟨o.map (λa=>nth x.keys a),?_,by rw[h4,By h,akk];rfl⟩;have:=h1.map (λa=>nth x.keys a);rw[<-hm h,An (ψ:=λa=>a),List.map_id'] at this;exact this
 simp_all
theorem CT {u:Int}:∀{l:ε},(∀w∈l,φ w=φ u->w=u)->(l.map φ).count (φ u)=l.count u
 |[],_=>rfl
 |a::l,h=>by
  rw[adq,ahT,ahT,CT λw hw=>h w (IN _ hw)]
  grind
theorem I5 {u:Int}:∀{X:List ah} {i:Nat} {x:ah},X[i]?=some x->(refs x).count u=1->(∀(j:Nat) y,X[j]?=some y->u∈refs y->j=i)->(X.flatMap refs).count u=1
 |[],i,x,h,_,_=>by simp at h
 |y::X,0,x,h,h1,h2=>by
  simp at h;subst h;rw[acS,aim,h1];have:(X.flatMap refs).count u=0:=List.count_eq_zero.2 λhm=>by
   obtain⟨z,hz,hu⟩:=List.mem_flatMap.1 hm;obtain⟨j,hj⟩:=List.mem_iff_getElem?.1 hz;have:=h2 (j+1) z (by simpa using hj) hu;omega
  omega
 |y::X,i+1,x,h,h1,h2=>by
  rw[acS,aim,I5 (X:=X) (i:=i) (x:=x) (by simpa using h) h1 λj z hj hu=>by
   have:=h2 (j+1) z (by simpa using hj) hu;omega]
  have:(refs y).count u=0:=List.count_eq_zero.2 λhm=>by
   have:=h2 0 y rfl hm;omega
  omega
theorem wJ {u:Int}:∀{X:List ah} {x:ah},x∈X->(refs x).count u<=(X.flatMap refs).count u
 |y::X,x,h=>by
  rw[acS,aim];rcases List.mem_cons.1 h with rfl|h
  .omega
  .have:=wJ (u:=u) h;omega
section
variable (I:BU N v N' φ)(g:GV N root)(d:Vd N root)(hv:IR N.length v)
include I g d hv
theorem BU.one {u:Int}(hu:iV N v u)(kn:KN N u):(φ v::N'.flatMap refs).count (φ u)=1:=by
 have c1:=g.one u kn;obtain⟨H,_,hH⟩:=d.Vy;rw[ahT];have who:∀(j:Nat) y,N'[j]?=some y->φ u∈refs y->∃p,iV N v p/\φ p=(j:Int)/\Edge N p u:=λj y hj hm=>by
  obtain⟨p,hp,e⟩:=I.sur (j:Int) ⟨by omega,by have:=aP hj;omega⟩;have hgj:gt N' (φ p)=some y:=by rw[e];unfold gt;grind
  have hed:Edge N' (φ p) (φ u):=⟨y,hgj,by grind [refs]⟩;obtain⟨w,h1,h2⟩:=I.S8 g hp (I.ir g hv hp).1 hed;rw[I.inj w u (hp.step h1) hu h2] at h1;exact⟨p,hp,e,h1⟩
 by_cases e:u=v
 .subst e;have:(N'.flatMap refs).count (φ u)=0:=List.count_eq_zero.2 λhm=>by
   obtain⟨y,hy,hu'⟩:=List.mem_flatMap.1 hm;obtain⟨j,hj⟩:=List.mem_iff_getElem?.1 hy;obtain⟨p,h1,_,h3⟩:=who j y hj hu';have mono:∀w,iV N u w->KN N w/\H w<=H u:=λw r=>by
    induction r with
    |refl=>exact⟨kn,aae _⟩
    |step _ e ih=>exact⟨ih.1.step e,by have:=hH _ _ (ih.1.step e) e;omega⟩
   grind
  rw[this];simp
 .have hne:φ v≠φ u:=λq=>e (I.inj v u .refl hu q).symm;rw[AT (by simpa using hne)];obtain⟨p,hp,hpu⟩:∃p,iV N v p/\Edge N p u:=by
   cases hu with
   |refl=>exact absurd rfl e
   |step r ed=>exact⟨_,r,ed⟩
  obtain⟨x,hx,hm⟩:=id hpu;obtain⟨x',hx',E⟩:=I.nd p x hp hx;obtain⟨l,hl1,hl2⟩:=E.keys (g.zV (az hx)) (sG (g.fm x (az hx)));have pr:(refs x').Perm ((refs x).map φ):=by
   unfold refs;rw[hl2,ain];exact (hl1.map φ).append E.items
  have cx:(refs x).count u=1:=by
   have h1:=wJ (u:=u) (az hx)
   grind [refs,List.count_pos_iff]
  have h1:(refs x').count (φ u)=1:=by
   rw[pr.count_eq,CT λw hw q=>I.inj w u (hp.step ⟨x,hx,by grind [refs]⟩) hu q,cx]
  obtain⟨_,g2⟩:=ay hx'
  grind [I5,LY,Int.toNat_natCast]
theorem BU.gv:GV N' (φ v):=by
 have hroot:=g.rch v hv;refine⟨abi I.len g.le,(I.ir g hv .refl).2,λx' hx'=>?_,λx' hx'=>?_,λw hw=>?_,λw kw=>?_,λx' hx'=>?_,?_⟩
 .obtain⟨u,x,hu,hx,hg,E⟩:=I.node g hv hx';have ok:∀w',Edge N' (φ u) w'->IR N'.length w':=λw' e=>by
   obtain⟨w,h1,rfl⟩:=I.S8 g hu (I.ir g hv hu).1 e;exact (I.ir g hv (hu.step h1)).2
  exact⟨λw hw=>ok w ⟨x',hg,.inl hw⟩,λw hw=>ok w ⟨x',hg,.inr hw⟩⟩
 .obtain⟨u,x,hu,hx,hg,E⟩:=I.node g hv hx';rw[E.form (g.zV (az hx)) (sG (g.fm x (az hx)))];exact g.fm x (az hx)
 .obtain⟨u,hu,rfl⟩:=I.sur w hw;exact I.rch g .refl hu
 .obtain⟨u,hu,rfl,k⟩:=I.kn g hv kw;exact I.one g d hv hu k
 .obtain⟨u,x,hu,hx,hg,E⟩:=I.node g hv hx';obtain⟨l,hl1,hl2⟩:=E.keys (g.zV (az hx)) (sG (g.fm x (az hx)));have hM:∀x∈N,p9 x:=λx hx=>g.zV hx;have pw:l.Pairwise λy x=>¬SM N x y:=(hl1.pairwise_iff λ{a b} h q=>h (by
   obtain⟨f,q⟩:=q;exact⟨f,tu hM g.tw q⟩)).2 (g.tw x (az hx))
  rw[hl2,List.pairwise_map];refine pw.imp_of_mem λ{a b} ha hb h q=>h ?_;obtain⟨f,q⟩:=q;have ra:∀w∈l,iV N v w:=λw hw=>hu.step ⟨x,hx,.inl (hl1.mem_iff.1 hw)⟩;exact⟨f,(I.sm g hv f b a (ra b hb) (ra a ha)).1 q⟩
 .obtain⟨f,hf,hr⟩:=g.dp;obtain⟨f',h1,h2⟩:=I.df g hv hf;have:=((hf root g.rt).2 v hroot).1;exact⟨f',h1,by omega⟩
end
end
section
variable {α β:Type}{h h' h0:ab}{L R:List bA}{N:List ah}{root:Int}{B:Nat}{Q:β->ab->Prop}
theorem _root_.Go.Ago.Z.L4 (z:Z h0 h L){b o:Nat}{cs:δ}{e:κ}{l:eD}{v:ξ}{x:l.den}{f:l.den->M β}(hm:bA.av b cs e∈L)(hv:cs[o]?=some v)(hx:AX l v=some x)(q:Wp (f x) h Q):Wp (sh (ak l ⟨b,o,none⟩) f) h Q:=by
 obtain⟨i,hi⟩:=List.mem_iff_getElem?.1 hm;exact z.ld i q hi hv hx
theorem _root_.Go.Ago.Z.stM (z:Z h0 h (R++L)){b o:Nat}{cs vs cs':δ}{e:κ}{f:Unit->M β}(hm:bA.av b cs e∈L)(hc:bh cs o vs=cs')(ho:o+vs.length<=cs.length)(hs:vs.all eB=true)
  (q:∀(i:Nat) h',L[i]?=some (.av b cs e)->Z h0 h' (R++L.set i (.av b cs' e))->Wp (f ()) h' Q):Wp (sh (bD ⟨b,o,none⟩ vs) f) h Q:=by
 obtain⟨i,hi⟩:=List.mem_iff_getElem?.1 hm;have hi2:(R++L)[R.length+i]?=some (.av b cs e):=by grind
 refine z.st (R.length+i) (cs':=cs') (λh1 z1=>q i h1 hi ?_) hi2 hc ho hs
 grind
theorem bj {a:Addr}{f:Addr->M β}(q:Wp (f a) h Q):Wp (sh (nn (some a)) f) h Q:=by
 rw[ag];exact⟨a,h,rfl,q⟩
theorem _root_.Go.Ago.Z.rdM (z:Z h0 h L){b m:Nat}{e:κ}{c:ε}{a v:Int}{f:Int->M β}(hm:bA.av b (c.map vi) e∈L)(hg:gt c a=some v)(hl:c.length=m)(q:Wp (f v) h Q):Wp (sh (an (arr b m) a 1) λp=>sh (ak li p) f) h Q:=by
 obtain⟨i,hi⟩:=List.mem_iff_getElem?.1 hm;exact z.HO i hg hl q hi
structure Ta where
 tb:Nat
 sb:Nat
 s:Sl
 root:Int
abbrev cs:Option (Nat×ε)->ξ
 |none=>bF
 |some (b,l)=>aM (arr b l.length)
structure Tab (t:Ta) (N:List ah) (C:List (Option (Nat×ε))) (L:List bA):Prop where
 len:C.length=N.length
 L8:bA.av t.tb [aM t.s,vi t.root,aM (arr t.sb N.length)] gY∈L
 Q7:bA.av t.sb (C.map cs) bt∈L
 ok:∀k b l,gt C k=some (some (b,l))->l=gI N k/\bA.av b (l.map vi) ar∈L
def uC (t:Ta)(N:List ah)(L:List bA):Prop:=∃C,Tab t N C L
def Ext (L L':List bA):Prop:=∀b (l:ε),bA.av b (l.map vi) ar∈L->bA.av b (l.map vi) ar∈L'
theorem Ext.refl {L:List bA}:Ext L L:=λ_ _ h=>h
theorem Ext.trans {L1 L2 L3:List bA}(a:Ext L1 L2)(b:Ext L2 L3):Ext L1 L3:=λx l h=>b x l (a x l h)
theorem Q8 {γ:Type}{l:List γ}{i:Nat}{x y o:γ}(hi:l[i]?=some x)(ho:o∈l)(hne:o≠x):o∈l.set i y:=by
 obtain⟨j,hj⟩:=List.mem_iff_getElem?.1 ho;have hij:i≠j:=λe=>by subst e;rw[hi] at hj;exact hne (aas hj).symm
 exact List.mem_iff_getElem?.2 ⟨j,by rw[ak4 hij];exact hj⟩
theorem L5 {γ:Type}{l:List γ}{i:Nat}{x y:γ}(hi:l[i]?=some x):y∈l.set i y:=by
 have hlt:=(List.getElem?_eq_some_iff.1 hi).1;exact List.mem_iff_getElem?.2 ⟨i,by simp[hlt]⟩
theorem Tab.put {t:Ta}{C:List (Option (Nat×ε))}(T:Tab t N C L){i b:Nat}(hi:L[i]?=some (.av t.sb (C.map cs) bt)){k:Int}(hk:IR N.length k) :
  Tab t N (C.set k.toNat (some (b,gI N k))) (.av b ((gI N k).map vi) ar::L.set i (.av t.sb ((C.set k.toNat (some (b,gI N k))).map cs) bt)) /\
  Ext L (.av b ((gI N k).map vi) ar::L.set i (.av t.sb ((C.set k.toNat (some (b,gI N k))).map cs) bt)):=by
 have ne1:∀(b:Nat) (c:δ),bA.av b c ar≠.av t.sb (C.map cs) bt:=λb c e=>by injection e with e1 e2 e3;cases e3
 have ne2:∀(b:Nat) (c:δ),bA.av b c gY≠.av t.sb (C.map cs) bt:=λb c e=>by injection e with e1 e2 e3;cases e3
 have ext:∀{o:bA},o∈L->o≠.av t.sb (C.map cs) bt->o∈bA.av b ((gI N k).map vi) ar::L.set i (.av t.sb ((C.set k.toNat (some (b,gI N k))).map cs) bt):=
  λh1 h2=>IN _ (Q8 hi h1 h2)
 refine⟨⟨by rw[aiw];exact T.len,ext T.L8 (ne2 _ _),IN _ (L5 hi),λk' b' l hg=>?_⟩,λb' l hm=>ext hm (ne1 _ _)⟩;rw[eQ (by rw[T.len];exact hk)] at hg;split at hg
 .grind
 .obtain⟨h1,h2⟩:=T.ok k' b' l hg;exact⟨h1,ext h2 (ne1 _ _)⟩
theorem ahs {m b:Nat}(hm:m<1073741824)(a0:Int)(a1 a2:Addr) :
  ∀(n i:Nat) (h:ab) (L:List bA),m-i<n->i<=m->Z h0 h (.av b (((iota m).take i++List.replicate (m-i) 0).map vi) ar::L) ->
   Wp ((cl n).ff a0 a1 a2 (arr b m) (m:Int) (i:Int)) h λ_ h'=>Z h0 h' (.av b ((iota m).map vi) ar::L):=by
 intro n
 induction n with
 |zero=>intro i h L h1;omega
 |succ n ih=>
  intro i h L h1 h2 z;show Wp (kT (cl n) n a0 a1 a2 (arr b m) (m:Int) (i:Int)) h _;unfold kT;have hl:=ph m;by_cases hi:i<m
  .rw[By (by simp;omega)];refine JF (b:=b) (n:=m) (by omega) (by omega) ?_;rw[aab,adp];refine z.A2 0 (xs:=(iota m).take i++List.replicate (m-i) 0) (enc:=vi) (v:=(i:Int)) (by grind) (λh3 z=>?_);have hf:=fill (rl hi);rw[hl] at hf;rw[hf] at z;rw[rR h2 (by omega)];exact ih (i+1) h3 L (by omega) (by omega) z
  .rw[AT (by simp;omega),af]
   grind
def VK (h0:ab)(t:Ta)(N:List ah)(fc:Nat)(i j:Int):Prop:=∀(n:Nat) (h:ab) (R L:List bA),fc<=n->uC t N L->Z h0 h (R++L) ->
 Wp ((cl n).kV (some (ai t.tb)) i (some (ai t.tb)) j none) h λr h'=>r=pY N i j/\∃L',uC t N L'/\Ext L L'/\Z h0 h' (R++L')
def ZA (h0:ab)(t:Ta)(N:List ah)(fe:Nat)(k:Int)(m:Nat):Prop:=∀(n:Nat) (h:ab) (R L:List bA),fe<=n->uC t N L->Z h0 h (R++L) ->
 Wp ((cl n).fu (some (ai t.tb)) k) h λr h'=>∃b L',r=arr b m/\bA.av b ((gI N k).map vi) ar∈L'/\uC t N L'/\Ext L L'/\Z h0 h' (R++L')
theorem ZB {C:List (Option (Nat×ε))}{k:Int}{c:Option (Nat×ε)}(hc:gt C k=some c):(C.map cs)[k.toNat*1]?=some (cs c):=by
 rw[adp,aal,(ay hc).2];rfl
theorem zW {γ:Type}{a:γ}{R L:List γ}:(a::(R++L)).Perm (R++a::L):=List.perm_middle.symm
theorem ZC {t:Ta}(G:oj h0 t.s N)(d:Vd N root)(hB:Bd N B){fc:Nat}{k:Int}{x:ah}(hx:gt N k=some x)(hsm:x.kind=10->x.items.length<50)(hc:∀u∈x.keys,∀v∈x.keys,VK h0 t N fc u v) :
  ZA h0 t N (fc+700+B) k x.items.length:=by
 intro n h R L hn ⟨C,T⟩ z;have hNB:=hB.2.1;obtain⟨_,hBi⟩:=hB.2.2 x (az hx);have hkr:IR N.length k:=p8 hx;obtain⟨n,rfl⟩:∃n',n=n'+1:=⟨n-1,by omega⟩;show Wp (nH (cl n) n (some (ai t.tb)) k) h _;unfold nH;refine z.new λx0 h1 z _=>?_;refine z.ld 0 (o:=0) (l:=.ptr) (x:=some (ai t.tb)) (bj ?_);refine z.L4 (o:=0) (l:=.sl) (x:=t.s) (IN _ (acQ _ T.L8)) rfl rfl ?_;obtain⟨g1,g2⟩:=ay hx;refine G.Yr z g1 g2 λa ks is nd=>?_;refine z.new λx5 h2 z _=>?_;refine z.st 0 (cs':=[Value.pointer (some a)]) λh3 z=>?_;have z:Z h0 h3 (.av x5 [Value.pointer (some a)] eS::.av x0 [Value.pointer (some (ai t.tb))] cU::(R++L)):=z;have memL:∀{o:bA},o∈L->o∈bA.av x5 [Value.pointer (some a)] eS::.av x0 [Value.pointer (some (ai t.tb))] cU::(R++L):=λh=>IN _ (IN _ (acQ _ h));refine z.ld 1 (o:=0) (l:=.ptr) (x:=some (ai t.tb)) (bj ?_);refine z.L4 (o:=2) (l:=.sl) (x:=arr t.sb N.length) (memL T.L8) rfl rfl ?_;obtain⟨c,hcC⟩:=dA (l:=C) T.len hkr;refine JF (b:=t.sb) (n:=N.length) g1 hkr.2 ?_;cases c with
 |some e=>
  obtain⟨b,l⟩:=e;obtain⟨hl,hm⟩:=T.ok k b l hcC;refine z.L4 (l:=.sl) (x:=arr b l.length) (memL T.Q7) (ZB hcC) rfl ?_;rw[By (by rfl)];refine z.ld 1 (o:=0) (l:=.ptr) (x:=some (ai t.tb)) (bj ?_);refine z.L4 (o:=2) (l:=.sl) (x:=arr t.sb N.length) (memL T.L8) rfl rfl ?_;refine JF (b:=t.sb) (n:=N.length) g1 hkr.2 ?_;refine z.L4 (l:=.sl) (x:=arr b l.length) (memL T.Q7) (ZB hcC) rfl (af.2 ?_);subst hl;exact⟨b,L,by rw[pn hx],hm,⟨C,T⟩,.refl,z.drop.drop⟩
 |none=>
  refine z.L4 (l:=.sl) (x:=uV) (memL T.Q7) (ZB hcC) rfl ?_;rw[AT (by simp)];refine z.ld 0 (o:=0) (l:=.ptr) (x:=some a) (bj ?_);refine (nd.fr z.fr).CI ?_;have hlen:is.len=x.items.length:=nd.items.len;rw[hlen];refine z.JE (by omega) (by unfold cT;omega) λb h4 z _=>?_;rw[aab] at z⊢;rw[lj (enc:=vi) (x:=(0:Int))] at z;have z0:Z h0 h4 (.av b (((iota x.items.length).take 0++List.replicate (x.items.length-0) 0).map vi) ar::.av x5 [Value.pointer (some a)] eS::.av x0 [Value.pointer (some (ai t.tb))] cU::(R++L)):=by simpa using z
  rw[ag];refine (ahs (by omega) k (ai x0) (ai x5) n 0 h4 _ (by omega) (by omega) z0).mono λ_ h5 z=>?_;refine z.ld 1 (o:=0) (l:=.ptr) (x:=some a) (bj ?_);refine (nd.fr z.fr).NT ?_;have store:∀(h:ab) (L:List bA) (C:List (Option (Nat×ε))) (l:ε),l=gI N k->Tab t N C L->Z h0 h (.av b (l.map vi) ar::.av x5 [Value.pointer (some a)] eS::.av x0 [Value.pointer (some (ai t.tb))] cU::(R++L)) ->
    Wp (sh (ak .ptr (ai x0)) λ(x20:θ)=>sh (nn x20) λx21=>sh (ak .sl (x21.plus 2)) λ(x22:Sl)=>sh (an x22 k 1) λx23=>sh (bD x23 [aM (arr b x.items.length)]) λx24=>AI (arr b x.items.length)) h λr h'=>
     ∃b L',r=arr b x.items.length/\bA.av b ((gI N k).map vi) ar∈L'/\uC t N L'/\Ext L L'/\Z h0 h' (R++L'):=by
   intro h L C l hl T z;subst hl;refine z.ld 2 (o:=0) (l:=.ptr) (x:=some (ai t.tb)) (bj ?_);refine z.L4 (o:=2) (l:=.sl) (x:=arr t.sb N.length) (IN _ (IN _ (IN _ (acQ _ T.L8)))) rfl rfl ?_;refine JF (b:=t.sb) (n:=N.length) g1 hkr.2 ?_;have hsp:bh (C.map cs) (k.toNat*1) [aM (arr b x.items.length)]=(C.set k.toNat (some (b,gI N k))).map cs:=by
    rw[adp,<-Bj (enc:=cs) (by rw[T.len];have:=hkr.1;have:=hkr.2;omega)];simp only[cs,pn hx]
   refine Z.stM (R:=.av b ((gI N k).map vi) ar::.av x5 [Value.pointer (some a)] eS::.av x0 [Value.pointer (some (ai t.tb))] cU::R) z T.Q7 hsp (by rw[ae1,T.len,adp];have:=hkr.1;have:=hkr.2;simp;omega) rfl λi h' hi z=>af.2 ?_;obtain⟨T',E'⟩:=T.put (b:=b) hi hkr;refine⟨b,_,rfl,IT,⟨_,T'⟩,E',Z.perm (Z.sub z ?_) zW⟩
   simp_all
  by_cases hk:x.kind=10
  .rw[By (by simpa using hk)];refine z.ld 1 (o:=0) (l:=.ptr) (x:=some a) (bj ?_);refine (nd.fr z.fr).ldO ?_;have hkl:=d.map (az hx) hk;cases ho:x.ord with
   |true=>
    rw[Hv];have e:iota x.items.length=gI N k:=by
     unfold gI xh;rw[hx];simp only[ho];rw[AT (by simp)]
    exact store h5 L C _ e T z
   |false=>
    rw[Hu];unfold kU
    let cx:Cx:=⟨h0,b,x.items.length,Value.func (Fn.func iD) #[] #[Value.pointer (some (ai x0)),Value.pointer (some (ai x5))],fc+1,λLx=>∃L1,Lx=.av x5 [Value.pointer (some a)] eS::.av x0 [Value.pointer (some (ai t.tb))] cU::L1/\uC t N L1/\Ext L L1⟩
    have okc:cx.OK (inM cx.m λu v=>pY N (nth x.keys u) (nth x.keys v)):=by
     intro n u v h R2 Lx hn hu hu2 hv hv2 ⟨L1,e,T1,E1⟩ z;subst e;have hu2:u<(x.items.length:Int):=hu2;have hv2:v<(x.items.length:Int):=hv2;obtain⟨n,rfl⟩:∃n',n=n'+1:=⟨n-1,by have:fc+1<=n:=hn;omega⟩;have hn:fc+1<=n+1:=hn;show Wp (au (cl (n+1)) (n+1) (Value.func (Fn.func iD) #[] #[Value.pointer (some (ai x0)),Value.pointer (some (ai x5))]) u v) h _;unfold au;rw[By (by rfl),ag];refine kr (c:=((ai x0,ai x5):Addr×Addr)) rfl ?_;show Wp (lZ (cl n) n u v (ai x0) (ai x5)) h _;unfold lZ;have m5:bA.av x5 [Value.pointer (some a)] eS∈R2++(.av x5 [Value.pointer (some a)] eS::.av x0 [Value.pointer (some (ai t.tb))] cU::L1):=acQ _ IT;have m0:bA.av x0 [Value.pointer (some (ai t.tb))] cU∈R2++(.av x5 [Value.pointer (some a)] eS::.av x0 [Value.pointer (some (ai t.tb))] cU::L1):=acQ _ (IN _ IT);obtain⟨ku,hku⟩:=o5 (l:=x.keys) hu (by omega);obtain⟨kv,hkv⟩:=o5 (l:=x.keys) hv (by omega);have ndz:=nd.fr z.fr;refine z.L4 (o:=0) (l:=.ptr) (x:=some (ai t.tb)) m0 rfl rfl ?_;refine z.L4 (o:=0) (l:=.ptr) (x:=some a) m5 rfl rfl (bj ?_);refine ndz.Ip (ndz.keys.ix hu (ay hku).2 λ_ _ c1=>c1.rz (l:=li) rfl rfl ?_);refine z.L4 (o:=0) (l:=.ptr) (x:=some (ai t.tb)) m0 rfl rfl ?_;refine z.L4 (o:=0) (l:=.ptr) (x:=some a) m5 rfl rfl (bj ?_);refine ndz.Ip (ndz.keys.ix hv (ay hkv).2 λ_ _ c1=>c1.rz (l:=li) rfl rfl ?_);rw[ag];have z2:Z h0 h ((R2++[.av x5 [Value.pointer (some a)] eS,.av x0 [Value.pointer (some (ai t.tb))] cU])++L1):=(by simpa using z);refine (hc ku (az hku) kv (az hkv) n h _ L1 (by omega) T1 z2).mono λr h' hr=>af.2 ?_;obtain⟨rfl,L2,T2,E2,z3⟩:=hr;refine⟨?_,_,⟨L2,rfl,T2,E1.trans E2⟩,by simpa using z3⟩;unfold inM nth
     grind
    have st:cx.St R h5 (iota cx.m):=by
     refine⟨_,⟨L,rfl,⟨C,T⟩,.refl⟩,?_⟩;refine Z.perm z (List.Perm.cons _ ?_);exact (List.Perm.cons _ zW).trans zW
    rw[ag];refine (ahq (cv:=λu v=>pY N (nth x.keys u) (nth x.keys v)) (c:=cx) (hsm hk) okc (by show fc+1+600<=n;omega) st).mono λ_ h6 hs=>?_;obtain⟨Lx,⟨L1,rfl,⟨C1,T1⟩,E1⟩,z6⟩:=hs;have z6:Z h0 h6 (.av b ((Q7 (λu v=>pY N (nth x.keys u) (nth x.keys v)) x.items.length).map vi) ar::.av x5 [Value.pointer (some a)] eS::.av x0 [Value.pointer (some (ai t.tb))] cU::(R++L1)):=by
     refine Z.perm z6 (List.Perm.cons _ ?_);exact ((List.Perm.cons _ zW).trans zW).symm
    have e:Q7 (λu v=>pY N (nth x.keys u) (nth x.keys v)) x.items.length=gI N k:=by
     unfold gI xh;rw[hx];simp only;rw[By ⟨hk,ho⟩]
    exact (store h6 L1 C1 _ e T1 z6).mono λr h7 hr=>by
     obtain⟨b',L',q1,q2,q3,q4,q5⟩:=hr;exact⟨b',L',q1,q2,q3,E1.trans q4,q5⟩
  .rw[AT (by simpa using hk)];have e:iota x.items.length=gI N k:=by
    unfold gI xh;rw[hx];simp only;rw[AT (λq=>hk q.1)]
   exact store h5 L C _ e T z
end
section
variable {α β:Type}{h h' h0:ab}{L R:List bA}{N:List ah}{root:Int}{B:Nat}{Q:β->ab->Prop}
theorem L6 {c:ε}{a v:Int}(hg:gt c a=some v):(c.map vi)[a.toNat*1]?=some (vi v):=by
 rw[adp,aal,(ay hg).2];rfl
theorem L7 {c:ε}{i:Nat}{v:Int}(hg:gt c (i:Int)=some v):c.drop i=v::c.drop (i+1):=by
 have:=(ay hg).2;rw[aab] at this;exact drop_cons this
theorem aht {t:Ta}{fc:Nat}{x y:ah}{a a':Addr}{ks is ks' is':Sl}(nd:EB h0 a x ks is)(nd':EB h0 a' y ks' is'){bp bq:Nat}{p q:ε}
  (hp:∀u∈p,0<=u/\u<x.items.length/\(x.kind=10->u<x.keys.length)) (hq:∀u∈q,0<=u/\u<y.items.length/\(x.kind=10->u<y.keys.length)) (hbig:p.length<1073741824)
  (hc:∀u,u∈x.keys\/u∈x.items->∀v,v∈y.keys\/v∈y.items->VK h0 t N fc u v):∀(n i:Nat) (h:ab) (R L:List bA),fc+(min p.length q.length-i)+1<=n->i<=min p.length q.length->bA.av bp (p.map vi) ar∈L->bA.av bq (q.map vi) ar∈L->uC t N L->Z h0 h (R++L) ->
  Wp ((cl n).iU (some (ai t.tb)) (some (ai t.tb)) none (some a) (some a') (arr bp p.length) (arr bq q.length) ((min p.length q.length:Nat):Int) (i:Int)) h λr h'=>
   r=(match D7 (pY N) x y (p.drop i) (q.drop i) with|some c=>.inr c|none=>.inl ())/\∃L',uC t N L'/\Ext L L'/\Z h0 h' (R++L'):=by
 intro n
 induction n with
 |zero=>intro i h R L h1;omega
 |succ n ih=>
  intro i h R L h1 h2 mp mq T z;show Wp (qT (cl n) n (some (ai t.tb)) (some (ai t.tb)) none (some a) (some a') (arr bp p.length) (arr bq q.length) ((min p.length q.length:Nat):Int) (i:Int)) h _;unfold qT;by_cases hi:i<min p.length q.length
  .rw[By (by simpa using hi)];obtain⟨u,hu⟩:=o5 (l:=p) (v:=(i:Int)) (by omega) (by omega);obtain⟨v,hv⟩:=o5 (l:=q) (v:=(i:Int)) (by omega) (by omega);obtain⟨u1,u2,u3⟩:=hp u (az hu);obtain⟨v1,v2,v3⟩:=hq v (az hv);rw[L7 hu,L7 hv];obtain⟨iu,hiu⟩:=o5 (l:=x.items) u1 u2;obtain⟨iv,hiv⟩:=o5 (l:=y.items) v1 v2;have next:∀(h:ab) (L:List bA),pY N iu iv=0->bA.av bp (p.map vi) ar∈L->bA.av bq (q.map vi) ar∈L->uC t N L->Z h0 h (R++L) ->
     Wp ((cl n).iU (some (ai t.tb)) (some (ai t.tb)) none (some a) (some a') (arr bp p.length) (arr bq q.length) ((min p.length q.length:Nat):Int) (IntKind.i64.wrap ((i:Int)+1))) h λr h'=>
      r=(match D7 (pY N) x y (p.drop (i+1)) (q.drop (i+1)) with|some c=>.inr c|none=>.inl ())/\∃L',uC t N L'/\Ext L L'/\Z h0 h' (R++L'):=by
    intro h L _ mp mq T z;rw[rR (B:=p.length) (by omega) hbig];exact ih (i+1) h R L (by omega) (by omega) mp mq T z
   have J0:∀(h:ab) (L:List bA),(x.kind=10->pY N (nth x.keys u) (nth y.keys v)=0)->bA.av bp (p.map vi) ar∈L->bA.av bq (q.map vi) ar∈L->uC t N L->Z h0 h (R++L) ->
     Wp (iw (cl n) n (some (ai t.tb)) (some (ai t.tb)) none (some a) (some a') (arr bp p.length) (arr bq q.length) (i:Int) ((min p.length q.length:Nat):Int) (i:Int)) h λr h'=>
      r=(match D7 (pY N) x y (u::p.drop (i+1)) (v::q.drop (i+1)) with|some c=>.inr c|none=>.inl ())/\∃L',uC t N L'/\Ext L L'/\Z h0 h' (R++L'):=by
    intro h L hk mp mq T z;unfold iw;refine bj (JF (by omega) (by omega) (bj (JF (by omega) (by omega) ?_)));have ndz:=nd.fr z.fr;have ndz':=nd'.fr z.fr;refine ndz.CI ?_;refine z.L4 (l:=li) (x:=u) (acQ _ mp) (L6 hu) rfl ?_;refine ndz.items.ix u1 (ay hiu).2 λ_ _ c1=>c1.rz (l:=li) rfl rfl ?_;refine ndz'.CI ?_;refine z.L4 (l:=li) (x:=v) (acQ _ mq) (L6 hv) rfl ?_;refine ndz'.items.ix v1 (ay hiv).2 λ_ _ c1=>c1.rz (l:=li) rfl rfl ?_;rw[ag];refine (hc iu (.inr (az hiu)) iv (.inr (az hiv)) n h R L (by omega) T z).mono λr h' hr=>?_;obtain⟨rfl,L',T',E',z'⟩:=hr;have e1:nth x.items u=iu:=(by unfold nth;rw[hiu];rfl);have e2:nth y.items v=iv:=(by unfold nth;rw[hiv];rfl);have eq:D7 (pY N) x y (u::p.drop (i+1)) (v::q.drop (i+1))=if pY N iu iv≠0 then some (pY N iu iv) else D7 (pY N) x y (p.drop (i+1)) (q.drop (i+1)):=by
     conv=>lhs;unfold D7
     grind
    rw[eq];by_cases h0':pY N iu iv=0
    .rw[AT (by simpa using h0'),AT (show ¬(pY N iu iv≠0) from λe=>e h0')];exact (next h' L' h0' (E' _ _ mp) (E' _ _ mq) T' z').mono λr h2 hr=>⟨hr.1,by obtain⟨L2,t2,e2,z2⟩:=hr.2;exact⟨L2,t2,E'.trans e2,z2⟩⟩
    .rw[By (by simpa using h0'),By h0'];exact af.2 ⟨rfl,L',T',E',z'⟩
   refine bj ?_;refine (nd.fr z.fr).NT ?_;by_cases hk:x.kind=10
   .rw[By (by simpa using hk)];refine bj (JF (by omega) (by omega) (bj (JF (by omega) (by omega) ?_)));have ndz:=nd.fr z.fr;have ndz':=nd'.fr z.fr;obtain⟨ku,hku⟩:=o5 (l:=x.keys) u1 (u3 hk);obtain⟨kv,hkv⟩:=o5 (l:=y.keys) v1 (v3 hk);refine ndz.Ip ?_;refine z.L4 (l:=li) (x:=u) (acQ _ mp) (L6 hu) rfl ?_;refine ndz.keys.ix u1 (ay hku).2 λ_ _ c1=>c1.rz (l:=li) rfl rfl ?_;refine ndz'.Ip ?_;refine z.L4 (l:=li) (x:=v) (acQ _ mq) (L6 hv) rfl ?_;refine ndz'.keys.ix v1 (ay hkv).2 λ_ _ c1=>c1.rz (l:=li) rfl rfl ?_;rw[ag];refine (hc ku (.inl (az hku)) kv (.inl (az hkv)) n h R L (by omega) T z).mono λr h' hr=>?_;obtain⟨rfl,L',T',E',z'⟩:=hr;have e1:nth x.keys u=ku:=(by unfold nth;rw[hku];rfl);have e2:nth y.keys v=kv:=(by unfold nth;rw[hkv];rfl);by_cases h0':pY N ku kv=0
    .rw[AT (by simpa using h0')];exact (J0 h' L' (λ_=>by rw[e1,e2];exact h0') (E' _ _ mp) (E' _ _ mq) T' z').mono λr h2 hr=>⟨hr.1,by obtain⟨L2,t2,e2,z2⟩:=hr.2;exact⟨L2,t2,E'.trans e2,z2⟩⟩
    .rw[By (by simpa using h0')];unfold D7;rw[e1,e2,By ⟨hk,h0'⟩];exact af.2 ⟨rfl,L',T',E',z'⟩
   .rw[AT (by simpa using hk)];exact J0 h L (λe=>absurd e hk) mp mq T z
  .rw[AT (by simpa using hi)];refine af.2 ⟨?_,L,T,.refl,z⟩;have:p.drop i=[]\/q.drop i=[]:=by
    grind
   rcases this with e|e
   .rw[e];cases q.drop i<;>rfl
   .rw[e];cases p.drop i<;>rfl
theorem ahu {t:Ta}(G:oj h0 t.s N)(d:Vd N root)(hB:Bd N B)(ht:∀x∈N,x.text.size<=65536){fc fe:Nat}{i j:Int}{x y:ah}(hx:gt N i=some x)(hy:gt N j=some y)(hi:KN N i)(hj:KN N j)
  (hfe:65600<=fe) (hfc:fc+B<=fe) (ei:ZA h0 t N fe i x.items.length) (ej:ZA h0 t N fe j y.items.length) (hc:∀u,u∈x.keys\/u∈x.items->∀v,v∈y.keys\/v∈y.items->VK h0 t N fc u v):VK h0 t N (fe+10) i j:=by
 intro n h R L hn T z;have hBB:=hB.2.1;obtain⟨n,rfl⟩:∃n',n=n'+2:=⟨n-2,by omega⟩;show Wp (tQ (cl (n+1)) (n+1) (some (ai t.tb)) i (some (ai t.tb)) j none) h _;unfold tQ;rw[ag];refine⟨((false,0):Bool×Int),h,rfl,?_⟩;show Wp (sh ((cl (n+1)).qU (some (ai t.tb)) i (some (ai t.tb)) j none) _) h _;rw[ag];rw[acL d hi hj hx hy];have main:Wp (vm (cl n) n (some (ai t.tb)) i (some (ai t.tb)) j none) h λr h'=>r=Oq (pY N) x y/\∃L',uC t N L'/\Ext L L'/\Z h0 h' (R++L'):=by
  unfold vm Oq;obtain⟨C,TC⟩:=T;have tabm:=acQ R TC.L8;refine bj (bj ?_);refine z.L4 (o:=0) (l:=.sl) (x:=t.s) tabm rfl rfl ?_;refine G.Yr z (ay hx).1 (ay hx).2 λa ks is nd=>?_;refine z.L4 (o:=0) (l:=.sl) (x:=t.s) tabm rfl rfl ?_;refine G.Yr z (ay hy).1 (ay hy).2 λa' ks' is' nd'=>?_;have ndz:=nd.fr z.fr;have ndz':=nd'.fr z.fr;refine bj (bj (ndz.NT (ndz'.NT ?_)));by_cases c1:x.kind<y.kind
  .rw[By (by simpa using c1),By c1];exact af.2 ⟨rfl,L,⟨C,TC⟩,.refl,z⟩
  rw[AT (by simpa using c1),AT c1];refine bj (bj (ndz.NT (ndz'.NT ?_)));by_cases c2:y.kind<x.kind
  .rw[By (by simpa using c2),By c2];exact af.2 ⟨rfl,L,⟨C,TC⟩,.refl,z⟩
  rw[AT (by simpa using c2),AT c2];have hk:x.kind=y.kind:=by omega
  refine bj (bj (ndz.ldO (ndz'.ldO ?_)));by_cases c3:x.ord=y.ord
  .rw[AT (by rw[c3];cases y.ord<;>decide),AT (by simpa using c3)];refine bj (bj (bj (ndz.NT (ndz.HS (ndz'.HS ?_)))));have hsx:=ht x (az hx);have hsy:=ht y (az hy);refine z.call (P:=λr _=>r=VH x.kind x.text y.text) (Zw hsx hsy (by omega) z.wf) λr h1 hr f1 z1=>?_;subst hr;by_cases c4:VH x.kind x.text y.text=0
   .rw[AT (by simpa using c4),AT (by simpa using c4)];rw[ag];refine (ei n h1 R L (by omega) ⟨C,TC⟩ z1).mono λr h2 hr=>?_;obtain⟨bp,L1,rfl,mp,T1,E1,z2⟩:=hr;rw[ag];refine (ej n h2 R L1 (by omega) T1 z2).mono λr h3 hr=>?_;obtain⟨bq,L2,rfl,mq,T2,E2,z3⟩:=hr;have lp:=pn hx;have lq:=pn hy;have hbx:=(hB.2.2 x (az hx)).2;have hby:=(hB.2.2 y (az hy)).2;have em:(if ((arr bq y.items.length).len:Int)<((arr bp x.items.length).len:Int) then ((arr bq y.items.length).len:Int) else ((arr bp x.items.length).len:Int))=((min (gI N i).length (gI N j).length:Nat):Int):=by
     rw[lp,lq];show (if (y.items.length:Int)<(x.items.length:Int) then (y.items.length:Int) else (x.items.length:Int))=_;split<;>omega
    rw[em];rw[ag];have ox:gI N i=xh (pY N) x:=(by unfold gI;rw[hx]);have oy:gI N j=xh (pY N) y:=(by unfold gI;rw[hy]);have key:=aht (p:=gI N i) (q:=gI N j) nd nd' (bp:=bp) (bq:=bq) (λu hu=>by
      rw[ox] at hu;have:=mX hu;exact⟨this.1,this.2,λe=>by rw[d.map (az hx) e];exact this.2⟩) (λu hu=>by
      rw[oy] at hu;have:=mX hu;exact⟨this.1,this.2,λe=>by rw[d.map (az hy) (hk▸e)];exact this.2⟩) (by omega) hc n 0 h3 R L2 (by omega) (by omega) (E2 _ _ mp) mq T2 z3
    rw[lp,lq] at key;rw[lp,lq];refine key.mono λr h4 hr=>?_;obtain⟨hr,L3,T3,E3,z4⟩:=hr;rw[ahZ,ahZ,ox,oy] at hr;have fin:∃L',uC t N L'/\Ext L L'/\Z h0 h4 (R++L'):=⟨L3,T3,(E1.trans E2).trans E3,z4⟩;cases hd:D7 (pY N) x y (xh (pY N) x) (xh (pY N) y) with
    |some c=>rw[hd] at hr;subst hr;exact af.2 ⟨rfl,fin⟩
    |none=>
     rw[hd] at hr;subst hr;show Wp (if decide ((x.items.length:Int)<(y.items.length:Int))=true then AI (-1) else if decide ((y.items.length:Int)<(x.items.length:Int))=true then AI 1 else AI 0) h4 _;by_cases l1:x.items.length<y.items.length
     .rw[By (by simpa using l1)];simp only[By l1];exact af.2 ⟨rfl,fin⟩
     .rw[AT (by simpa using l1)];simp only[AT l1];by_cases l2:y.items.length<x.items.length
      .rw[By (by simpa using l2)];simp only[By l2];exact af.2 ⟨rfl,fin⟩
      .rw[AT (by simpa using l2)];simp only[AT l2];exact af.2 ⟨rfl,fin⟩
   .rw[By (by simpa using c4),By c4];exact af.2 ⟨rfl,L,⟨C,TC⟩,.refl,z1⟩
  .rw[By (by cases hxo:x.ord<;>cases hyo:y.ord<;>simp_all),By c3];refine bj (ndz'.ldO ?_);cases y.ord
   .exact af.2 ⟨rfl,L,⟨C,TC⟩,.refl,z⟩
   .exact af.2 ⟨rfl,L,⟨C,TC⟩,.refl,z⟩
 refine main.mono λr h1 hr=>?_;rw[AT (by simp)];exact af.2 hr
def fuC (B d:Nat):Nat:=66000+d*(2*B+800)
theorem acN {t:Ta}(G:oj h0 t.s N)(d:Vd N root)(hB:Bd N B)(ht:∀x∈N,x.text.size<=65536)(hsm:∀x∈N,x.kind=10->x.items.length<50){H:Int->Nat}(hH:∀u v,KN N v->Edge N u v->H v<H u) :
  ∀(e:Nat),(∀i j,KN N i->KN N j->H i<e->H j<e->VK h0 t N (fuC B e) i j)/\∀k x,gt N k=some x->H k<=e->ZA h0 t N (fuC B e+700+B) k x.items.length:=by
 intro e
 induction e with
 |zero=>
  refine⟨λi j _ _ h1=>absurd h1 (by omega),λk x hx hk=>ZC G d hB hx (hsm x (az hx)) λu hu v hv=>?_⟩;have:=hH k u (.key (az hx) hu) ⟨x,hx,.inl hu⟩;omega
 |succ e ih=>
  have cmp:∀i j,KN N i->KN N j->H i<e+1->H j<e+1->VK h0 t N (fuC B (e+1)) i j:=λi j hi hj h1 h2=>by
   obtain⟨x,hx⟩:=dA (l:=N) rfl (hi.ir d.ix);obtain⟨y,hy⟩:=dA (l:=N) rfl (hj.ir d.ix);have:=ahu G d hB ht hx hy hi hj (fe:=fuC B e+700+B) (fc:=fuC B e) (by unfold fuC;omega) (by omega) (ih.2 i x hx (by omega)) (ih.2 j y hy (by omega)) λu hu v hv=>by
    have eu:Edge N i u:=⟨x,hx,hu⟩;have ev:Edge N j v:=⟨y,hy,hv⟩;have q1:=hH i u (.step hi eu) eu;have q2:=hH j v (.step hj ev) ev;exact ih.1 u v (.step hi eu) (.step hj ev) (by omega) (by omega)
   intro n h R L hn T z;refine this n h R L ?_ T z;unfold fuC at hn⊢;rw[ad8,aiT] at hn;omega
  refine⟨cmp,λk x hx hk=>?_⟩;refine ZC G d hB hx (hsm x (az hx)) λu hu v hv=>?_;have q1:=hH k u (.key (az hx) hu) ⟨x,hx,.inl hu⟩;have q2:=hH k v (.key (az hx) hv) ⟨x,hx,.inl hv⟩;exact cmp u v (.key (az hx) hu) (.key (az hx) hv) (by omega) (by omega)
def fuE (B:Nat):Nat:=fuC B B+700+B
theorem Q9 {t:Ta}(G:oj h0 t.s N)(d:Vd N root)(hB:Bd N B)(ht:∀x∈N,x.text.size<=65536)(hsm:∀x∈N,x.kind=10->x.items.length<50){k:Int}{x:ah}(hx:gt N k=some x):ZA h0 t N (fuE B) k x.items.length:=by
 obtain⟨H,hH1,hH2⟩:=d.Vy;have h1:=(acN G d hB ht hsm hH2 N.length).2 k x hx (hH1 k);intro n h R L hn T z;refine h1 n h R L ?_ T z;have h2:fuC B N.length<=fuC B B:=Nat.add_le_add_left (adr _ hB.1) _;unfold fuE at hn;omega
end
section
variable {N:List ah}{root:Int}{B:Nat}
structure NS where
 at':ε
 OY:Nat
 out:List ah
def nd0:ah:=⟨0,ofBytes [],false,[],[]⟩
def neg (l:ε):Nat:=l.countP (λv=>decide (v<0))
def alM (N:List ah)(m:Nat)(y:ah):Prop:=y=nd0\/∃x∈N,y.kind=x.kind/\y.text=x.text/\y.ord=x.ord/\y.items.length=x.items.length/\y.keys.length=x.keys.length/\(∀v∈y.keys,IR m v)/\∀v∈y.items,IR m v
structure NOK (N:List ah) (S:NS):Prop where
 la:S.at'.length=N.length
 lo:S.out.length=N.length
 le:∀v∈S.at',v<(S.OY:Int)
 sum:neg S.at'+S.OY=N.length
 fr:∀y∈S.out,alM N N.length y
end
section
variable {α β:Type}{h h' h0:ab}{L R J:List bA}{N:List ah}{root:Int}{B:Nat}{Q:β->ab->Prop}
theorem of_wp {s:Sl}{root:Int}(z:Z h0 h L)(hb:s.len<=cT){n:Nat} :
  Wp (Cw n (s,root)) h λr h'=>∃x5 b4,r=some (ai x5)/\Z h0 h' (.av x5 [aM s,vi root,aM (arr b4 s.len)] gY::.av b4 (List.replicate s.len bF) bt::L):=by
 unfold Cw;refine z.new λx0 h1 z _=>z.eU [4,6] (by decide) (by decide) λnb h2 z=>?_;refine z.fG 2 (ls:=[.sl,li]) (x:=(s,root)) ?_;refine z.ld 2 (o:=0) (l:=.sl) (x:=s) ?_;refine z.aa9 0 (by omega) (by omega) λh3 z=>?_;refine z.newAt 1 (cs:=[aM s,vi root,aM (arr (nb+4) s.len)]) λh4 z=>?_;rw[af];refine⟨nb+6,nb+4,rfl,?_⟩;rw[aab] at z;rw[NU] at z;have z:=Z.rU (pre:=[_,_,_]) z [1,0,2] (by simp only[aac,adf];decide);exact z.sub (List.Sublist.cons₂ _ (List.Sublist.cons₂ _ (ajE _ _)))
theorem acO {t:Ta}{L:List bA}(h1:bA.av t.tb [aM t.s,vi t.root,aM (arr t.sb N.length)] gY∈L)(h2:bA.av t.sb (List.replicate N.length bF) bt∈L):uC t N L:=by
 refine⟨List.replicate N.length none,by simp,h1,by rw[ajC];exact h2,λk b l hg=>?_⟩;have:=aiH (az hg);cases this
structure mf (N:List ah):Prop where
 len:N.length<=40
 map:∀x∈N,x.items.length<=80/\x.keys.length<=80
 txt:∀x∈N,x.text.size<=101
theorem mf.bd (f:mf N):Bd N 80:=⟨by have:=f.len;omega,by omega,λx hx=>⟨(f.map x hx).2,(f.map x hx).1⟩⟩
theorem mf.ht (f:mf N):∀x∈N,x.text.size<=65536:=λx hx=>by have:=f.txt x hx;omega
theorem mf.sm (f:mf N)(d:Vd N root):∀x∈N,x.kind=10->x.items.length<50:=λx hx hk=>by
 have h1:=d.ag8 hx;have h2:=d.map hx hk;have:=f.len;omega
end
end Go.Sh
