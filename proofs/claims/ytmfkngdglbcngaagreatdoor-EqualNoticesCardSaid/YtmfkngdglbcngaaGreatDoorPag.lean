
import Derived.Test.YtmfkngdglbcngaaGreatDoorPad
import Derived.Test.YtmfkngdglbcngaaGreatDoorPae
import Derived.Test.YtmfkngdglbcngaaGreatDoorPaf
set_option linter.all false
namespace Go.Sh
open Go Go.Ago Go.Proofs
variable {N:List ak}{root:Int}{B:Nat}
def nth (l:ε)(a:Int):Int:=(gt l a).getD 0
def iota (m:Nat):ε:=(List.range m).map (λi:Nat=>(i:Int))
theorem po (m:Nat):(iota m).length=m:=by simp[iota]
theorem qV {m i:Nat}(hi:i<m):(iota m)[i]?=some (i:Int):=by simp[iota,hi]
theorem sq (m:Nat):Good m (iota m):=⟨po m,λv hv=>by
 simp[iota] at hv;obtain⟨a,ha,rfl⟩:=hv;omega⟩
def inM (m:Nat)(cv:Int->Int->Int)(a b:Int):Int:=if 0<=a/\a<m/\0<=b/\b<m then cv a b else 0
noncomputable def Xe (cv:Int->Int->Int)(m:Nat):ε:=if h:m<50 then (QY cv h (sq m)).choose else iota m
noncomputable def Pt (cv:Int->Int->Int)(m:Nat):ε:=Xe (inM m cv) m
theorem Xf (cv:Int->Int->Int)(m:Nat):(Pt cv m).Perm (iota m):=by
 unfold Pt Xe
 grind
theorem aei {cv:Int->Int->Int}{c:Cx}{P:List bu}{h:af}{n:Nat}(hm:c.m<50)(ok:c.OK (inM c.m cv))(hn:c.k+600<=n)(st:c.St P h (iota c.m)):Wp ((cl n).dI (arr c.b c.m) c.x) h λ_ h'=>c.St P h' (Pt cv c.m):=by
 unfold Pt Xe;rw[dif_pos hm];exact (QY (inM c.m cv) hm (sq c.m)).choose_spec.2 c P h n rfl ok hn st
theorem Tx {cv cv':Int->Int->Int}{m:Nat}(h:∀a b:Int,0<=a->a<m->0<=b->b<m->cv a b=cv' a b):Pt cv m=Pt cv' m:=by
 have:inM m cv=inM m cv':=by
  funext a b;grind [inM]
 unfold Pt;rw[this]
noncomputable def tK (cv:Int->Int->Int)(x:ak):ε:=if x.kind=10/\x.ord=false then Pt (λa b=>cv (nth x.keys a) (nth x.keys b)) x.items.length else iota x.items.length
theorem ur (cv:Int->Int->Int)(x:ak):(tK cv x).Perm (iota x.items.length):=by
 grind [tK,Xf]
theorem Xg (cv:Int->Int->Int)(x:ak):(tK cv x).length=x.items.length:=by rw[(ur cv x).length_eq,po]
theorem kL {cv:Int->Int->Int}{x:ak}{a:Int}(ha:a∈tK cv x):0<=a/\a<x.items.length:=(sq _).2 a ((ur cv x).mem_iff.1 ha)
def CX (cv:Int->Int->Int)(x y:ak):ε->ε->Option Int
 |a::p,b::q=>if x.kind=10/\cv (nth x.keys a) (nth y.keys b)≠0 then some (cv (nth x.keys a) (nth y.keys b)) else if cv (nth x.items a) (nth y.items b)≠0 then some (cv (nth x.items a) (nth y.items b)) else CX cv x y p q
 |_,_=>none
noncomputable def MP (cv:Int->Int->Int)(x y:ak):Int:=
 if x.kind<y.kind then -1 else if y.kind<x.kind then 1 else if x.ord≠y.ord then (if y.ord then -1 else 1) else if Tw x.kind x.text y.text≠0 then Tw x.kind x.text y.text
 else match CX cv x y (tK cv x) (tK cv y) with
  |some c=>c
  |none=>if x.items.length<y.items.length then -1 else if y.items.length<x.items.length then 1 else 0
noncomputable def Xh (N:List ak)(cv:Int->Int->Int)(i j:Int):Int:=match gt N i,gt N j with
 |some x,some y=>MP cv x y
 |_,_=>0
noncomputable def Gv (N:List ak):Nat->Int->Int->Int
 |0,_,_=>0
 |f+1,i,j=>Xh N (Gv N f) i j
theorem gS {l:ε}{a:Int}(h0:0<=a)(h:a<l.length):nth l a∈l:=by
 obtain⟨v,hv⟩:=kW h0 h;unfold nth;rw[hv];exact aq hv
theorem A5 {cv cv':Int->Int->Int}{x:ak}(hl:x.kind=10->x.keys.length=x.items.length)(h:∀u∈x.keys,∀v∈x.keys,cv u v=cv' u v):tK cv x=tK cv' x:=by
 grind [tK,Tx,gS]
theorem Gw {cv cv':Int->Int->Int}{x y:ak}(h1:x.kind=10->∀u∈x.keys,∀v∈y.keys,cv u v=cv' u v)(h2:∀u∈x.items,∀v∈y.items,cv u v=cv' u v):∀{p q:ε},(∀a∈p,0<=a/\a<x.items.length/\(x.kind=10->a<x.keys.length))->(∀a∈q,0<=a/\a<y.items.length/\(x.kind=10->a<y.keys.length))->CX cv x y p q=CX cv' x y p q
 |[],q,_,_=>by cases q<;>rfl
 |a::p,[],_,_=>rfl
 |a::p,b::q,hp,hq=>by
  obtain⟨a1,a2,a3⟩:=hp a IS;obtain⟨b1,b2,b3⟩:=hq b IS;have e2:=h2 _ (gS a1 a2) _ (gS b1 b2);have ih:=Gw h1 h2 (p:=p) (q:=q) (λc hc=>hp c (BY _ hc)) λc hc=>hq c (BY _ hc);unfold CX;rw[e2,ih];by_cases hk:x.kind=10
  .rw[h1 hk _ (gS a1 (a3 hk)) _ (gS b1 (b3 hk))]
  .simp only[hk,false_and,aeL]
theorem xx {cv cv':Int->Int->Int}{x y:ak}(hx:x.kind=10->x.keys.length=x.items.length)(hy:y.kind=10->y.keys.length=y.items.length)
  (h:∀u v,(u∈x.keys\/u∈x.items\/u∈y.keys\/u∈y.items)->(v∈x.keys\/v∈x.items\/v∈y.keys\/v∈y.items)->cv u v=cv' u v):MP cv x y=MP cv' x y:=by
 unfold MP;split
 .rfl
 split
 .rfl
 rename_i c1 c2;have hk:x.kind=y.kind:=by omega
 split
 .rfl
 split
 .rfl
 rw[A5 hx λu hu v hv=>h u v (.inl hu) (.inl hv),A5 (x:=y) hy λu hu v hv=>h u v (.inr (.inr (.inl hu))) (.inr (.inr (.inl hv)))];rw[Gw (cv:=cv) (cv':=cv') (λ_ u hu v hv=>h u v (.inl hu) (.inr (.inr (.inl hv)))) (λu hu v hv=>h u v (.inr (.inl hu)) (.inr (.inr (.inr hv))))
  (λa ha=>⟨(kL ha).1,(kL ha).2,λe=>by rw[hx e];exact (kL ha).2⟩) (λa ha=>⟨(kL ha).1,(kL ha).2,λe=>by rw[hy (hk▸e)];exact (kL ha).2⟩)]
theorem Tz (d:Vd N root){H:Int->Nat}(hH:∀u v,KN N v->Edge N u v->H v<H u):∀(t f f':Nat),t<f->t<f'->∀i j,KN N i->KN N j->H i<=t->H j<=t->Gv N f i j=Gv N f' i j:=by
 intro t
 induction t with
 |zero=>
  intro f f' h1 h2 i j hi hj hti htj;obtain⟨f,rfl⟩:∃g,f=g+1:=⟨f-1,by omega⟩;obtain⟨f',rfl⟩:∃g,f'=g+1:=⟨f' - 1,by omega⟩;unfold Gv Xh;cases ex:gt N i with
  |none=>rfl
  |some x=>
   cases ey:gt N j with
   |none=>rfl
   |some y=>
    refine xx (d.map (aq ex)) (d.map (aq ey)) λu v hu hv=>?_;exfalso;rcases hu with h|h|h|h
    .have:=hH i u (.step hi ⟨x,ex,.inl h⟩) ⟨x,ex,.inl h⟩;omega
    .have:=hH i u (.step hi ⟨x,ex,.inr h⟩) ⟨x,ex,.inr h⟩;omega
    .have:=hH j u (.step hj ⟨y,ey,.inl h⟩) ⟨y,ey,.inl h⟩;omega
    .have:=hH j u (.step hj ⟨y,ey,.inr h⟩) ⟨y,ey,.inr h⟩;omega
 |succ t ih=>
  intro f f' h1 h2 i j hi hj hti htj;obtain⟨f,rfl⟩:∃g,f=g+1:=⟨f-1,by omega⟩;obtain⟨f',rfl⟩:∃g,f'=g+1:=⟨f' - 1,by omega⟩;unfold Gv Xh;cases ex:gt N i with
  |none=>rfl
  |some x=>
   cases ey:gt N j with
   |none=>rfl
   |some y=>
    have low:∀u,(u∈x.keys\/u∈x.items\/u∈y.keys\/u∈y.items)->KN N u/\H u<=t:=λu hu=>by
     rcases hu with h|h|h|h
     .have e:Edge N i u:=⟨x,ex,.inl h⟩;have:=hH i u (.step hi e) e;exact⟨.step hi e,by omega⟩
     .have e:Edge N i u:=⟨x,ex,.inr h⟩;have:=hH i u (.step hi e) e;exact⟨.step hi e,by omega⟩
     .have e:Edge N j u:=⟨y,ey,.inl h⟩;have:=hH j u (.step hj e) e;exact⟨.step hj e,by omega⟩
     .have e:Edge N j u:=⟨y,ey,.inr h⟩;have:=hH j u (.step hj e) e;exact⟨.step hj e,by omega⟩
    exact xx (d.map (aq ex)) (d.map (aq ey)) λu v hu hv=>ih f f' (by omega) (by omega) u v (low u hu).1 (low v hv).1 (low u hu).2 (low v hv).2
noncomputable def mV (N:List ak):Int->Int->Int:=Gv N (N.length+1)
noncomputable def eH (N:List ak)(i:Int):ε:=match gt N i with
 |some x=>tK (mV N) x
 |none=>[]
theorem qW {k:Int}{x:ak}(hx:gt N k=some x):(eH N k).length=x.items.length:=by
 unfold eH;rw[hx];exact Xg _ _
theorem Z2 (d:Vd N root){i j:Int}{x y:ak}(hi:KN N i)(hj:KN N j)(ex:gt N i=some x)(ey:gt N j=some y):mV N i j=MP (mV N) x y:=by
 obtain⟨H,hH1,hH2⟩:=d.Kq;have e:mV N i j=MP (Gv N N.length) x y:=by
  unfold mV Gv Xh;rw[ex,ey]
 rw[e];refine xx (d.map (aq ex)) (d.map (aq ey)) λu v hu hv=>?_;have low:∀u,(u∈x.keys\/u∈x.items\/u∈y.keys\/u∈y.items)->KN N u/\H u<N.length:=λu hu=>by
  have h1:=hH1 i;have h2:=hH1 j;rcases hu with h|h|h|h
  .have e:Edge N i u:=⟨x,ex,.inl h⟩;have:=hH2 i u (.step hi e) e;exact⟨.step hi e,by omega⟩
  .have e:Edge N i u:=⟨x,ex,.inr h⟩;have:=hH2 i u (.step hi e) e;exact⟨.step hi e,by omega⟩
  .have e:Edge N j u:=⟨y,ey,.inl h⟩;have:=hH2 j u (.step hj e) e;exact⟨.step hj e,by omega⟩
  .have e:Edge N j u:=⟨y,ey,.inr h⟩;have:=hH2 j u (.step hj e) e;exact⟨.step hj e,by omega⟩
 have h1:=(low u hu).2;exact Tz d hH2 (N.length-1) _ _ (by omega) (by omega) u v (low u hu).1 (low v hv).1 (by have:=(low u hu).2;omega) (by have:=(low v hv).2;omega)
end Go.Sh
namespace Go.Sh
open Go Go.Ago Go.Proofs
variable {N N':List ak}{root v:Int}{φ:Int->Int}
theorem Xi {n:Nat}{R:Nat->Nat->Prop}(h:∀a,a<n->∃b,b<n/\R a b)(inj:∀a a' b,a<n->a'<n->R a b->R a' b->a=a'):∀b,b<n->∃a,a<n/\R a b:=by
 have ex:∀a,∃b,a<n->b<n/\R a b:=λa=>by
  by_cases ha:a<n
  .grind
  .exact⟨0,λq=>absurd q ha⟩
 obtain⟨G,hG⟩:=ag5 ex;intro b hb;refine aeG λhn=>?_;have nd:((List.range n).map G).Nodup:=by
  refine List.pairwise_map.2 (ahF ?_ agP)
  grind
 have nm:b∉(List.range n).map G:=λhm=>by
  obtain⟨a,ha,rfl⟩:=List.mem_map.1 hm
  grind
 have hs:b::(List.range n).map G ⊆ List.range n:=λc hc=>by
  rcases List.mem_cons.1 hc with rfl|hc
  .exact List.mem_range.2 hb
  .obtain⟨a,ha,rfl⟩:=List.mem_map.1 hc
   grind
 have:=(List.nodup_cons.2 ⟨nm,nd⟩).length_le_of_subset hs;simp at this;omega
theorem uu (hM:∀x∈N,pX x):∀{f:Nat} {a b c:Int},xJ N f a b->xJ N f b c->xJ N f a c
 |0,a,b,c,h,_=>h.elim
 |f+1,a,b,c,⟨x,y,hx,hy,h1,h2,h3,h4,h5⟩,⟨y',z,hy',hz,g1,g2,g3,g4,g5⟩=>by
  rw[hy] at hy';cases hy';refine⟨x,z,hx,hz,h1.trans g1,h2.trans g2,h3.trans g3,h4.trans g4,?_⟩;split at h5
  .rename_i q;rw[AT q];rw[AT ⟨h1▸q.1,h3▸q.2⟩] at g5;intro a kx p q1 q2;obtain⟨b,ky,r,q3,q4,q5,q6⟩:=h5 a kx p q1 q2;obtain⟨c,kz,s,q7,q8,q9,q10⟩:=g5 b ky r q3 q4;exact⟨c,kz,s,q7,q8,uu hM q5 q9,uu hM q6 q10⟩
  .rename_i q;rw[By q];rw[By (λe=>q ⟨h1▸e.1,h3▸e.2⟩)] at g5;intro a p r q1 q2;obtain⟨w,hw⟩:=fY (l:=y.items) (i:=a) (by have:=aW q1;omega);obtain⟨e1,e2⟩:=h5 a p w q1 hw;obtain⟨e3,e4⟩:=g5 a w r hw q2;refine⟨uu hM e1 e3,λhk kx kz r1 r2=>?_⟩;obtain⟨ky,hky⟩:=fY (l:=y.keys) (i:=a) (by rw[hM y (aq hy) (h1▸hk)];exact aW hw);exact uu hM (e2 hk kx ky r1 hky) (e4 (h1▸hk) ky kz hky r2)
theorem u0 (hM:∀x∈N,pX x)(tw:∀x∈N,x.keys.Pairwise λy x=>¬SM N x y):∀{f:Nat} {a b:Int},xJ N f a b->xJ N f b a
 |0,a,b,h=>h.elim
 |f+1,a,b,⟨x,y,hx,hy,h1,h2,h3,h4,h5⟩=>by
  refine⟨y,x,hy,hx,h1.symm,h2.symm,h3.symm,h4.symm,?_⟩;split at h5
  .rename_i q;rw[AT ⟨h1▸q.1,h3▸q.2⟩];have lx:=hM x (aq hx) q.1;have ly:=hM y (aq hy) (h1▸q.1);have key:=Xi (n:=x.items.length) (R:=λa b=>∃kx ky p r,x.keys[a]?=some kx/\y.keys[b]?=some ky/\x.items[a]?=some p/\y.items[b]?=some r/\xJ N f kx ky/\xJ N f p r) (λa ha=>by
    obtain⟨kx,hkx⟩:=fY (l:=x.keys) (i:=a) (by omega);obtain⟨p,hp⟩:=fY (l:=x.items) (i:=a) ha;obtain⟨b,ky,r,e1,e2,e3,e4⟩:=h5 a kx p hkx hp;exact⟨b,by have:=aW e2;omega,kx,ky,p,r,hkx,e1,hp,e2,e3,e4⟩) (λa a' b ha ha' ⟨kx,ky,p,r,e1,e2,e3,e4,e5,e6⟩ ⟨kx',ky',p',r',g1,g2,g3,g4,g5,g6⟩=>by
    rw[e2] at g2;cases g2;refine aeG λhne=>?_;have s1:xJ N f kx kx':=uu hM e5 (u0 hM tw g5);have s2:xJ N f kx' kx:=uu hM g5 (u0 hM tw e5);have pw:=List.pairwise_iff_getElem.1 (tw x (aq hx));obtain⟨l1,e1⟩:=List.getElem?_eq_some_iff.1 e1;obtain⟨l2,g1⟩:=List.getElem?_eq_some_iff.1 g1;rcases Nat.lt_or_gt_of_ne hne with h|h
    .have:=pw a a' l1 l2 h;rw[e1,g1] at this;exact this ⟨f,s2⟩
    .have:=pw a' a l2 l1 h;rw[e1,g1] at this;exact this ⟨f,s1⟩)
   intro b ky r q1 q2;obtain⟨a,ha,kx,ky',p,r',e1,e2,e3,e4,e5,e6⟩:=key b (by have:=aW q2;omega);rw[q1] at e2;rw[q2] at e4;cases e2;cases e4;exact⟨a,kx,p,e1,e3,u0 hM tw e5,u0 hM tw e6⟩
  .rename_i q;rw[By (λe=>q ⟨h1▸e.1,h3▸e.2⟩)];intro a r p q1 q2;obtain⟨e1,e2⟩:=h5 a p r q2 q1;exact⟨u0 hM tw e1,λhk ky kx r1 r2=>u0 hM tw (e2 (h1▸hk) kx ky r2 r1)⟩
structure u4 (φ:Int->Int) (x x':ak):Prop where
 k:x'.kind=x.kind
 t:x'.text=x.text
 o:x'.ord=x.ord
 e:∃o:ε,o.Perm (iota x.items.length)/\(¬(x.kind=10/\x.ord=false)->o=iota x.items.length)/\x'.items=o.map (λa=>φ (nth x.items a))/\x'.keys=if x.kind=10 then o.map (λa=>φ (nth x.keys a)) else []
theorem iK {l:ε}{i:Nat}{p:Int}(h:l[i]?=some p):nth l (i:Int)=p:=by
 unfold nth gt
 grind
section
variable {x x':ak}
theorem u4.il (E:u4 φ x x'):x'.items.length=x.items.length:=by
 obtain⟨o,h1,_,h3,_⟩:=E.e;rw[h3,ac3,h1.length_eq,po]
theorem u4.kl (E:u4 φ x x')(hm:pX x)(hk:x.kind≠10->x.keys=[]):x'.keys.length=x.keys.length:=by
 obtain⟨o,h1,_,_,h4⟩:=E.e;rw[h4];by_cases h:x.kind=10
 .rw[AT h,ac3,h1.length_eq,po,hm h]
 .rw[By h,hk h]
theorem u4.to (E:u4 φ x x'){a:Nat}{p:Int}(h:x.items[a]?=some p):∃a':Nat,x'.items[a']?=some (φ p)/\(x.kind=10->∀k,x.keys[a]?=some k->x'.keys[a']?=some (φ k))/\(¬(x.kind=10/\x.ord=false)->a'=a):=by
 obtain⟨o,h1,h2,h3,h4⟩:=E.e;have hlt:=aW h;have hm:(a:Int)∈o:=h1.mem_iff.2 (by unfold iota;grind);by_cases hu:x.kind=10/\x.ord=false
 .obtain⟨a',ha'⟩:=List.mem_iff_getElem?.1 hm;refine⟨a',by grind [iK],λhk k hkk=>by rw[h4,AT hk,abo,ha'];simp[iK hkk],λq=>absurd hu q⟩
 .have:=h2 hu;subst this;refine⟨a,by grind [qV,iK],λhk k hkk=>by rw[h4,AT hk,abo,qV hlt];simp[iK hkk],λ_=>rfl⟩
theorem u4.of (E:u4 φ x x'){a':Nat}{p':Int}(h:x'.items[a']?=some p'):∃(a:Nat) (p:Int),x.items[a]?=some p/\p'=φ p/\(x.kind=10->∀k,x.keys[a]?=some k->x'.keys[a']?=some (φ k))/\(¬(x.kind=10/\x.ord=false)->a'=a):=by
 obtain⟨o,h1,h2,h3,h4⟩:=E.e;rw[h3,abo] at h;cases ho:o[a']? with
 |none=>rw[ho] at h;cases h
 |some b=>
  rw[ho] at h;have hb:b∈iota x.items.length:=h1.mem_iff.1 (IN ho);unfold iota at hb;obtain⟨a,ha,rfl⟩:=List.mem_map.1 hb;obtain⟨p,hp⟩:=fY (l:=x.items) (i:=a) (List.mem_range.1 ha);refine⟨a,p,hp,?_,λhk k hkk=>by rw[h4,AT hk,abo,ho];simp[iK hkk],λhu=>?_⟩
  .grind [nth,Option.some.inj,iK]
  grind [aW,po,qV,Option.some.inj]
theorem u4.form (E:u4 φ x x')(hm:pX x)(hk:x.kind≠10->x.keys=[]):jQ x'=jQ x:=by
 have h1:=E.il;have h2:=E.kl hm hk;have h3:=E.k;have h4:=E.t;have h5:=E.o
 grind [jQ]
end
structure Ba (N:List ak) (v:Int) (N':List ak) (φ:Int->Int):Prop where
 nd:∀u x,fZ N v u->gt N u=some x->∃x',gt N' (φ u)=some x'/\u4 φ x x'
 inj:∀u w,fZ N v u->fZ N v w->φ u=φ w->u=w
 sur:∀w,IR N'.length w->∃u,fZ N v u/\φ u=w
 len:N'.length<=N.length
section
variable (I:Ba N v N' φ)(g:GV N root)(hv:IR N.length v)
include I g hv
theorem Ba.ir {u:Int}(h:fZ N v u):IR N.length u/\IR N'.length (φ u):=by
 have h1:=h.ir g.ix hv;obtain⟨x,hx⟩:=ef (l:=N) rfl h1;obtain⟨x',hx',_⟩:=I.nd u x h hx;exact⟨h1,mT hx'⟩
theorem GV.map (g:GV N root){x:ak}(hx:x∈N):pX x:=BR (g.fm x hx)
end
theorem GV.tO (g:GV N root){x:ak}(hx:x∈N):pX x:=BR (g.fm x hx)
theorem nA {x:ak}(h:jQ x=some true)(hk:x.kind≠10):x.keys=[]:=by
 unfold jQ at h
 grind
end Go.Sh
namespace Go.Sh
open Go Go.Ago Go.Proofs
variable {N N':List ak}{root v:Int}{φ:Int->Int}{x x':ak}
theorem u4.toK (E:u4 φ x x')(hm:pX x)(hk:x.kind≠10->x.keys=[]){a:Nat}{k:Int}(h:x.keys[a]?=some k):∃a':Nat,x'.keys[a']?=some (φ k):=by
 have h10:x.kind=10:=aeG λq=>by rw[hk q] at h;simp at h
 obtain⟨p,hp⟩:=fY (l:=x.items) (i:=a) (by rw[<-hm h10];exact aW h);obtain⟨a',_,h2,_⟩:=E.to hp;exact⟨a',h2 h10 k h⟩
theorem u4.ofK (E:u4 φ x x')(hm:pX x)(hk:x.kind≠10->x.keys=[]){a':Nat}{k':Int}(h:x'.keys[a']?=some k'):∃(a:Nat) (k:Int),x.keys[a]?=some k/\k'=φ k:=by
 have hl:=E.kl hm hk;have h10:x.kind=10:=aeG λq=>by grind
 obtain⟨p',hp'⟩:=fY (l:=x'.items) (i:=a') (by rw[E.il,<-hm h10,<-hl];exact aW h);obtain⟨a,p,h1,_,h2,_⟩:=E.of hp';obtain⟨k,hk2⟩:=fY (l:=x.keys) (i:=a) (by rw[hm h10];exact aW h1)
 grind
section
variable (I:Ba N v N' φ)(g:GV N root)(hv:IR N.length v)
include I g
theorem Ba.Gm {u w:Int}(h:fZ N v u)(e:Edge N u w):Edge N' (φ u) (φ w):=by
 obtain⟨x,hx,hm⟩:=e;obtain⟨x',hx',E⟩:=I.nd u x h hx;refine⟨x',hx',?_⟩;rcases hm with hm|hm
 .obtain⟨a,ha⟩:=List.mem_iff_getElem?.1 hm;obtain⟨a',h1⟩:=E.toK (g.tO (aq hx)) (nA (g.fm x (aq hx))) ha;exact .inl (IN h1)
 .obtain⟨a,ha⟩:=List.mem_iff_getElem?.1 hm;obtain⟨a',h1,_⟩:=E.to ha;exact .inr (IN h1)
theorem Ba.Q6 {u w':Int}(h:fZ N v u)(hu:IR N.length u)(e:Edge N' (φ u) w'):∃w,Edge N u w/\φ w=w':=by
 obtain⟨x,hx⟩:=ef (l:=N) rfl hu;obtain⟨x',hx',E⟩:=I.nd u x h hx;obtain⟨y,hy,hm⟩:=e;rw[hx'] at hy;cases hy;rcases hm with hm|hm
 .obtain⟨a',ha⟩:=List.mem_iff_getElem?.1 hm;obtain⟨a,k,h1,rfl⟩:=E.ofK (g.tO (aq hx)) (nA (g.fm x (aq hx))) ha;exact⟨k,⟨x,hx,.inl (IN h1)⟩,rfl⟩
 .obtain⟨a',ha⟩:=List.mem_iff_getElem?.1 hm;obtain⟨a,p,h1,rfl,_⟩:=E.of ha;exact⟨p,⟨x,hx,.inr (IN h1)⟩,rfl⟩
theorem Ba.MK {u w:Int}(h:fZ N v u)(r:fZ N u w):fZ N' (φ u) (φ w):=by
 induction r with
 |refl=>exact .refl
 |step r e ih=>exact ih.step (I.Gm g (h.trans r) e)
include hv
theorem Ba.afX {u w':Int}(h:fZ N v u)(r:fZ N' (φ u) w'):∃w,fZ N u w/\φ w=w':=by
 induction r with
 |refl=>exact⟨u,.refl,rfl⟩
 |step r e ih=>
  obtain⟨w,h1,h2⟩:=ih;rw[<-h2] at e;obtain⟨z,h3,h4⟩:=I.Q6 g (h.trans h1) ((h.trans h1).ir g.ix hv) e;exact⟨z,h1.step h3,h4⟩
theorem Ba.Z3 {u w:Int}(hu:fZ N v u)(hw:fZ N v w):fZ N' (φ u) (φ w)↔fZ N u w:=by
 constructor
 .intro r;obtain⟨z,h1,h2⟩:=I.afX g hv hu r;rw[<-I.inj z w (hu.trans h1) hw h2];exact h1
 .exact I.MK g hu
theorem Q7 {n n':Nat}{P P':Nat->Bool}(f:Nat->Nat)(h1:∀a,a<n->P a=true->f a<n'/\P' (f a)=true)(h2:∀a b,a<n->b<n->P a=true->P b=true->f a=f b->a=b):(List.range n).countP P<=(List.range n').countP P':=by
 rw[ahX,ahX];have nd:(((List.range n).filter P).map f).Nodup:=by
  grind [List.Pairwise.imp_of_mem,List.nodup_range]
 have:=nd.length_le_of_subset (l₂:=(List.range n').filter P') λc hc=>by
  grind
 simpa using this
theorem Ba.back:∃ψ:Int->Int,(∀w,IR N'.length w->fZ N v (ψ w)/\φ (ψ w)=w)/\∀u,fZ N v u->ψ (φ u)=u:=by
 have ex:∀w,∃u,IR N'.length w->fZ N v u/\φ u=w:=λw=>by
  by_cases h:IR N'.length w
  .obtain⟨u,hu⟩:=I.sur w h;exact⟨u,λ_=>hu⟩
  .exact⟨0,λq=>absurd q h⟩
 obtain⟨ψ,h⟩:=ag5 ex;refine⟨ψ,h,λu hu=>?_⟩;obtain⟨h1,h2⟩:=h (φ u) (I.ir g hv hu).2;exact I.inj _ _ h1 hu h2
theorem Ba.wt {u:Int}(hu:fZ N v u):wt N' (φ u)=wt N u:=by
 obtain⟨ψ,p1,p2⟩:=I.back g hv;have nn:∀{n:Nat} {w:Int},IR n w->w.toNat<n/\(w.toNat:Int)=w:=λh=>by unfold IR at h;omega
 unfold Sh.wt
 congr 1
 apply Nat.le_antisymm
 .refine Q7 I g hv (λw:Nat=>(ψ (w:Int)).toNat) (λw hw h=>?_) λa b ha hb _ _ e=>?_
  .obtain⟨q1,q2⟩:=p1 (w:Int) ⟨by omega,by omega⟩;have q3:=nn (I.ir g hv q1).1;refine⟨q3.1,?_⟩;simp only[OF] at h⊢;rw[q3.2];rw[<-q2] at h;exact⟨(I.Z3 g hv hu q1).1 h.1,(I.Z3 g hv q1 hu).1 h.2⟩
  .obtain⟨q1,q2⟩:=p1 (a:Int) ⟨by omega,by omega⟩;obtain⟨r1,r2⟩:=p1 (b:Int) ⟨by omega,by omega⟩;have q3:=nn (I.ir g hv q1).1;have r3:=nn (I.ir g hv r1).1
   grind
 .have rc:∀w:Nat,fZ N u (w:Int)->fZ N v (w:Int):=λw h=>hu.trans h;refine Q7 I g hv (λw:Nat=>(φ (w:Int)).toNat) (λw hw h=>?_) λa b ha hb h1 h2 e=>?_
  .simp only[OF] at h⊢;have q3:=nn (I.ir g hv (rc w h.1)).2;rw[q3.2];exact⟨q3.1,(I.Z3 g hv hu (rc w h.1)).2 h.1,(I.Z3 g hv (rc w h.1) hu).2 h.2⟩
  .simp only[OF] at h1 h2;have q3:=nn (I.ir g hv (rc a h1.1)).2;have r3:=nn (I.ir g hv (rc b h2.1)).2
   grind
theorem Ba.df {f:Int->Int}(hf:DF N f):∃f',DF N' f'/\f' (φ v)=f v:=by
 obtain⟨ψ,p1,p2⟩:=I.back g hv;refine⟨λw=>f (ψ w),λw hw=>?_,by simp only;rw[p2 v .refl]⟩;obtain⟨q1,q2⟩:=p1 w hw;obtain⟨h1,h2⟩:=hf (ψ w) (I.ir g hv q1).1;have hwt:=I.wt g hv q1;rw[q2] at hwt;refine⟨by rw[hwt];exact h1,λz hz=>?_⟩;rw[<-q2] at hz;obtain⟨y,r1,rfl⟩:=I.afX g hv q1 hz;have hy:=q1.trans r1;obtain⟨h3,h4⟩:=h2 y r1;simp only;rw[p2 y hy,hwt];exact⟨h3,λhn=>h4 λr=>hn (by rw[<-q2];exact I.MK g hy r)⟩
theorem Ba.node {x':ak}(h:x'∈N'):∃u x,fZ N v u/\gt N u=some x/\gt N' (φ u)=some x'/\u4 φ x x':=by
 obtain⟨j,hj⟩:=List.mem_iff_getElem?.1 h;have hlt:=aW hj;obtain⟨u,hu,e⟩:=I.sur (j:Int) ⟨by omega,by omega⟩;obtain⟨x,hx⟩:=ef (l:=N) rfl (I.ir g hv hu).1;obtain⟨y,hy,E⟩:=I.nd u x hu hx;have:gt N' (φ u)=some x':=by rw[e];unfold gt;grind
 grind
theorem Ba.kn {w:Int}(h:KN N' w):∃u,fZ N v u/\φ u=w/\KN N u:=by
 induction h with
 |key hx hw=>
  obtain⟨u,x,hu,hgx,_,E⟩:=I.node g hv hx;obtain⟨a',ha⟩:=List.mem_iff_getElem?.1 hw;obtain⟨a,k,h1,h2⟩:=E.ofK (g.tO (aq hgx)) (nA (g.fm x (aq hgx))) ha;have hk:=IN h1;exact⟨k,hu.step ⟨x,hgx,.inl hk⟩,h2.symm,.key (aq hgx) hk⟩
 |step _ e ih=>
  obtain⟨u,hu,rfl,hk⟩:=ih;obtain⟨w,h1,h2⟩:=I.Q6 g hu (I.ir g hv hu).1 e;exact⟨w,hu.step h1,h2,hk.step h1⟩
theorem Ba.sm:∀(f:Nat) (a b:Int),fZ N v a->fZ N v b->(xJ N' f (φ a) (φ b)↔xJ N f a b)
 |0,a,b,_,_=>Iff.rfl
 |f+1,a,b,ha,hb=>by
  obtain⟨x,hx⟩:=ef (l:=N) rfl (I.ir g hv ha).1;obtain⟨y,hy⟩:=ef (l:=N) rfl (I.ir g hv hb).1;obtain⟨x',hx',E⟩:=I.nd a x ha hx;obtain⟨y',hy',G⟩:=I.nd b y hb hy;have mx:=g.tO (aq hx);have my:=g.tO (aq hy);have ed:∀{u:Int} {z:ak} {l:ε} {i:Nat} {p:Int},fZ N v u->gt N u=some z->(l=z.keys\/l=z.items)->l[i]?=some p->fZ N v p:=λhu hz hl hp=>hu.step ⟨_,hz,by
   grind⟩
  have kz:∀{z:ak} {i:Nat} {p:Int},pX z->z.kind=10->z.items[i]?=some p->∃k,z.keys[i]?=some k:=λhm hk hp=>fY (by rw[hm hk];exact aW hp);constructor
  .rintro⟨x2,y2,e1,e2,h1,h2,h3,h4,h5⟩;rw[hx'] at e1;rw[hy'] at e2;cases e1;cases e2;rw[E.k,G.k] at h1;rw[E.t,G.t] at h2;rw[E.o,G.o] at h3;rw[E.il,G.il] at h4;refine⟨x,y,hx,hy,h1,h2,h3,h4,?_⟩;rw[E.k,E.o] at h5;split at h5
   .rename_i q;rw[AT q];intro i kx p q1 q2;obtain⟨i',r1,r2,_⟩:=E.to q2;obtain⟨j',ky',p',s1,s2,s3,s4⟩:=h5 i' _ _ (r2 q.1 kx q1) r1;obtain⟨j,pj,t1,rfl,t2,_⟩:=G.of s2;obtain⟨ky,hky⟩:=kz my (h1▸q.1) t1;have:=t2 (h1▸q.1) ky hky;rw[s1] at this;cases this;exact⟨j,ky,pj,hky,t1,(Ba.sm f kx ky (ed ha hx (.inl rfl) q1) (ed hb hy (.inl rfl) hky)).1 s3,(Ba.sm f p pj (ed ha hx (.inr rfl) q2) (ed hb hy (.inr rfl) t1)).1 s4⟩
   .rename_i q;rw[By q];intro i p r q1 q2;obtain⟨i',r1,r2,r3⟩:=E.to q1;obtain⟨j',s1,s2,s3⟩:=G.to q2;have:=r3 q;subst this;have:=s3 (λe=>q ⟨h1▸e.1,h3▸e.2⟩);subst this;obtain⟨u1,u2⟩:=h5 _ _ _ r1 s1;exact⟨(Ba.sm f p r (ed ha hx (.inr rfl) q1) (ed hb hy (.inr rfl) q2)).1 u1,λhk kx ky v1 v2=>(Ba.sm f kx ky (ed ha hx (.inl rfl) v1) (ed hb hy (.inl rfl) v2)).1 (u2 hk _ _ (r2 hk kx v1) (s2 (h1▸hk) ky v2))⟩
  .rintro⟨x2,y2,e1,e2,h1,h2,h3,h4,h5⟩;rw[hx] at e1;rw[hy] at e2;cases e1;cases e2;refine⟨x',y',hx',hy',by rw[E.k,G.k,h1],by rw[E.t,G.t,h2],by rw[E.o,G.o,h3],by rw[E.il,G.il,h4],?_⟩;rw[E.k,E.o];split at h5
   .rename_i q;rw[AT q];intro i' kx' p' q1 q2;obtain⟨i,p,r1,rfl,r2,_⟩:=E.of q2;obtain⟨kx,hkx⟩:=kz mx q.1 r1;have:=r2 q.1 kx hkx;rw[q1] at this;cases this;obtain⟨j,ky,r,s1,s2,s3,s4⟩:=h5 i kx p hkx r1;obtain⟨j',t1,t2,_⟩:=G.to s2;exact⟨j',_,_,t2 (h1▸q.1) ky s1,t1,(Ba.sm f kx ky (ed ha hx (.inl rfl) hkx) (ed hb hy (.inl rfl) s1)).2 s3,(Ba.sm f p r (ed ha hx (.inr rfl) r1) (ed hb hy (.inr rfl) s2)).2 s4⟩
   .rename_i q;rw[By q];intro i p' r' q1 q2;obtain⟨i',p,r1,rfl,r2,r3⟩:=E.of q1;obtain⟨j',r,s1,rfl,s2,s3⟩:=G.of q2;have:=r3 q;subst this;have:=s3 (λe=>q ⟨h1▸e.1,h3▸e.2⟩);subst this;obtain⟨u1,u2⟩:=h5 _ _ _ r1 s1;refine⟨(Ba.sm f p r (ed ha hx (.inr rfl) r1) (ed hb hy (.inr rfl) s1)).2 u1,λhk kx' ky' v1 v2=>?_⟩;obtain⟨kx,hkx⟩:=kz mx hk r1;obtain⟨ky,hky⟩:=kz my (h1▸hk) s1;have:=r2 hk kx hkx;rw[v1] at this;cases this;have:=s2 (h1▸hk) ky hky;rw[v2] at this;cases this;exact (Ba.sm f kx ky (ed ha hx (.inl rfl) hkx) (ed hb hy (.inl rfl) hky)).2 (u2 hk kx ky hkx hky)
end
end Go.Sh
namespace Go.Sh
open Go Go.Ago Go.Proofs
variable {N N':List ak}{root v:Int}{φ:Int->Int}{x x':ak}
theorem zy {γ:Type}{ψ:Int->γ}:∀(l:ε),(iota l.length).map (λa=>ψ (nth l a))=l.map ψ:=λl=>by
 refine aha λi=>?_
 grind [fY,qV,iK,List.getElem?_eq_none,po]
theorem u4.items (E:u4 φ x x'):x'.items.Perm (x.items.map φ):=by
 obtain⟨o,h1,_,h3,_⟩:=E.e
 grind [nth,zy]
theorem u4.keys (E:u4 φ x x')(hm:pX x)(hk:x.kind≠10->x.keys=[]):∃l:ε,l.Perm x.keys/\x'.keys=l.map φ:=by
 obtain⟨o,h1,_,_,h4⟩:=E.e;by_cases h:x.kind=10
 .refine⟨o.map (λa=>nth x.keys a),?_,by rw[h4,AT h,agT];rfl⟩;have:=h1.map (λa=>nth x.keys a);rw[<-hm h,zy (ψ:=λa=>a),List.map_id'] at this;exact this
 simp_all
theorem BV {u:Int}:∀{l:ε},(∀w∈l,φ w=φ u->w=u)->(l.map φ).count (φ u)=l.count u
 |[],_=>rfl
 |a::l,h=>by
  rw[acw,afl,afl,BV λw hw=>h w (BY _ hw)]
  grind
theorem H2 {u:Int}:∀{X:List ak} {i:Nat} {x:ak},X[i]?=some x->(refs x).count u=1->(∀(j:Nat) y,X[j]?=some y->u∈refs y->j=i)->(X.flatMap refs).count u=1
 |[],i,x,h,_,_=>by simp at h
 |y::X,0,x,h,h1,h2=>by
  simp at h;subst h;rw[adr,afH,h1];have:(X.flatMap refs).count u=0:=List.count_eq_zero.2 λhm=>by
   obtain⟨z,hz,hu⟩:=List.mem_flatMap.1 hm;obtain⟨j,hj⟩:=List.mem_iff_getElem?.1 hz;have:=h2 (j+1) z (by simpa using hj) hu;omega
  omega
 |y::X,i+1,x,h,h1,h2=>by
  rw[adr,afH,H2 (X:=X) (i:=i) (x:=x) (by simpa using h) h1 λj z hj hu=>by
   have:=h2 (j+1) z (by simpa using hj) hu;omega]
  have:(refs y).count u=0:=List.count_eq_zero.2 λhm=>by
   have:=h2 0 y rfl hm;omega
  omega
theorem sH {u:Int}:∀{X:List ak} {x:ak},x∈X->(refs x).count u<=(X.flatMap refs).count u
 |y::X,x,h=>by
  rw[adr,afH];rcases List.mem_cons.1 h with rfl|h
  .omega
  .have:=sH (u:=u) h;omega
section
variable (I:Ba N v N' φ)(g:GV N root)(d:Vd N root)(hv:IR N.length v)
include I g d hv
theorem Ba.one {u:Int}(hu:fZ N v u)(kn:KN N u):(φ v::N'.flatMap refs).count (φ u)=1:=by
 have c1:=g.one u kn;obtain⟨H,_,hH⟩:=d.Kq;rw[afl];have who:∀(j:Nat) y,N'[j]?=some y->φ u∈refs y->∃p,fZ N v p/\φ p=(j:Int)/\Edge N p u:=λj y hj hm=>by
  obtain⟨p,hp,e⟩:=I.sur (j:Int) ⟨by omega,by have:=aW hj;omega⟩;have hgj:gt N' (φ p)=some y:=by rw[e];unfold gt;grind
  have hed:Edge N' (φ p) (φ u):=⟨y,hgj,by grind [refs]⟩;obtain⟨w,h1,h2⟩:=I.Q6 g hp (I.ir g hv hp).1 hed;rw[I.inj w u (hp.step h1) hu h2] at h1;exact⟨p,hp,e,h1⟩
 by_cases e:u=v
 .subst e;have:(N'.flatMap refs).count (φ u)=0:=List.count_eq_zero.2 λhm=>by
   obtain⟨y,hy,hu'⟩:=List.mem_flatMap.1 hm;obtain⟨j,hj⟩:=List.mem_iff_getElem?.1 hy;obtain⟨p,h1,_,h3⟩:=who j y hj hu';have mono:∀w,fZ N u w->KN N w/\H w<=H u:=λw r=>by
    induction r with
    |refl=>exact⟨kn,aao _⟩
    |step _ e ih=>exact⟨ih.1.step e,by have:=hH _ _ (ih.1.step e) e;omega⟩
   grind
  rw[this];simp
 .have hne:φ v≠φ u:=λq=>e (I.inj v u .refl hu q).symm;rw[By (by simpa using hne)];obtain⟨p,hp,hpu⟩:∃p,fZ N v p/\Edge N p u:=by
   cases hu with
   |refl=>exact absurd rfl e
   |step r ed=>exact⟨_,r,ed⟩
  obtain⟨x,hx,hm⟩:=id hpu;obtain⟨x',hx',E⟩:=I.nd p x hp hx;obtain⟨l,hl1,hl2⟩:=E.keys (g.tO (aq hx)) (nA (g.fm x (aq hx)));have pr:(refs x').Perm ((refs x).map φ):=by
   unfold refs;rw[hl2,afL];exact (hl1.map φ).append E.items
  have cx:(refs x).count u=1:=by
   have h1:=sH (u:=u) (aq hx)
   grind [refs,List.count_pos_iff]
  have h1:(refs x').count (φ u)=1:=by
   rw[pr.count_eq,BV λw hw q=>I.inj w u (hp.step ⟨x,hx,by grind [refs]⟩) hu q,cx]
  obtain⟨_,g2⟩:=aD hx'
  grind [H2,vt,Int.toNat_natCast]
theorem Ba.gv:GV N' (φ v):=by
 have hroot:=g.MK v hv;refine⟨abX I.len g.le,(I.ir g hv .refl).2,λx' hx'=>?_,λx' hx'=>?_,λw hw=>?_,λw kw=>?_,λx' hx'=>?_,?_⟩
 .obtain⟨u,x,hu,hx,hg,E⟩:=I.node g hv hx';have ok:∀w',Edge N' (φ u) w'->IR N'.length w':=λw' e=>by
   obtain⟨w,h1,rfl⟩:=I.Q6 g hu (I.ir g hv hu).1 e;exact (I.ir g hv (hu.step h1)).2
  exact⟨λw hw=>ok w ⟨x',hg,.inl hw⟩,λw hw=>ok w ⟨x',hg,.inr hw⟩⟩
 .obtain⟨u,x,hu,hx,hg,E⟩:=I.node g hv hx';rw[E.form (g.tO (aq hx)) (nA (g.fm x (aq hx)))];exact g.fm x (aq hx)
 .obtain⟨u,hu,rfl⟩:=I.sur w hw;exact I.MK g .refl hu
 .obtain⟨u,hu,rfl,k⟩:=I.kn g hv kw;exact I.one g d hv hu k
 .obtain⟨u,x,hu,hx,hg,E⟩:=I.node g hv hx';obtain⟨l,hl1,hl2⟩:=E.keys (g.tO (aq hx)) (nA (g.fm x (aq hx)));have hM:∀x∈N,pX x:=λx hx=>g.tO hx;have pw:l.Pairwise λy x=>¬SM N x y:=(hl1.pairwise_iff λ{a b} h q=>h (by
   obtain⟨f,q⟩:=q;exact⟨f,u0 hM g.tw q⟩)).2 (g.tw x (aq hx))
  rw[hl2,aid];refine pw.imp_of_mem λ{a b} ha hb h q=>h ?_;obtain⟨f,q⟩:=q;have ra:∀w∈l,fZ N v w:=λw hw=>hu.step ⟨x,hx,.inl (hl1.mem_iff.1 hw)⟩;exact⟨f,(I.sm g hv f b a (ra b hb) (ra a ha)).1 q⟩
 .obtain⟨f,hf,hr⟩:=g.dp;obtain⟨f',h1,h2⟩:=I.df g hv hf;have:=((hf root g.rt).2 v hroot).1;exact⟨f',h1,by omega⟩
end
end Go.Sh
namespace Go.Sh
open Go Go.Ago Go.Proofs
variable {α β:Type}{h h' h0:af}{L R:List bu}{N:List ak}{root:Int}{B:Nat}{Q:β->af->Prop}
theorem _root_.Go.Ago.Z.ET (z:Z h0 h L){b o:Nat}{cs:δ}{e:κ}{l:eN}{v:ξ}{x:l.den}{f:l.den->M β}(hm:bu.au b cs e∈L)(hv:cs[o]?=some v)(hx:Al l v=some x)(q:Wp (f x) h Q):Wp (sh (ar l ⟨b,o,none⟩) f) h Q:=by
 obtain⟨i,hi⟩:=List.mem_iff_getElem?.1 hm;exact z.ld i q hi hv hx
theorem _root_.Go.Ago.Z.stM (z:Z h0 h (R++L)){b o:Nat}{cs vs cs':δ}{e:κ}{f:Unit->M β}(hm:bu.au b cs e∈L)(hc:bf cs o vs=cs')(ho:o+vs.length<=cs.length)(hs:vs.all eZ=true)
  (q:∀(i:Nat) h',L[i]?=some (.au b cs e)->Z h0 h' (R++L.set i (.au b cs' e))->Wp (f ()) h' Q):Wp (sh (bF ⟨b,o,none⟩ vs) f) h Q:=by
 obtain⟨i,hi⟩:=List.mem_iff_getElem?.1 hm;have hi2:(R++L)[R.length+i]?=some (.au b cs e):=by grind
 refine z.st (R.length+i) (cs':=cs') (λh1 z1=>q i h1 hi ?_) hi2 hc ho hs
 grind
theorem bt {a:Addr}{f:Addr->M β}(q:Wp (f a) h Q):Wp (sh (nn (some a)) f) h Q:=by
 rw[ah];exact⟨a,h,rfl,q⟩
theorem _root_.Go.Ago.Z.rdM (z:Z h0 h L){b m:Nat}{e:κ}{c:ε}{a v:Int}{f:Int->M β}(hm:bu.au b (c.map vi) e∈L)(hg:gt c a=some v)(hl:c.length=m)(q:Wp (f v) h Q):Wp (sh (aw (arr b m) a 1) λp=>sh (ar li p) f) h Q:=by
 obtain⟨i,hi⟩:=List.mem_iff_getElem?.1 hm;exact z.Hn i hg hl q hi
structure Pv where
 tb:Nat
 sb:Nat
 s:Sl
 root:Int
abbrev cs:Option (Nat×ε)->ξ
 |none=>aT
 |some (b,l)=>aH (arr b l.length)
structure Tab (t:Pv) (N:List ak) (C:List (Option (Nat×ε))) (L:List bu):Prop where
 len:C.length=N.length
 Kv:bu.au t.tb [aH t.s,vi t.root,aH (arr t.sb N.length)] dn∈L
 Pt:bu.au t.sb (C.map cs) aQ∈L
 ok:∀k b l,gt C k=some (some (b,l))->l=eH N k/\bu.au b (l.map vi) av∈L
def o6 (t:Pv)(N:List ak)(L:List bu):Prop:=∃C,Tab t N C L
def Ext (L L':List bu):Prop:=∀b (l:ε),bu.au b (l.map vi) av∈L->bu.au b (l.map vi) av∈L'
theorem Ext.refl {L:List bu}:Ext L L:=λ_ _ h=>h
theorem Ext.trans {L1 L2 L3:List bu}(a:Ext L1 L2)(b:Ext L2 L3):Ext L1 L3:=λx l h=>b x l (a x l h)
theorem Pw {γ:Type}{l:List γ}{i:Nat}{x y o:γ}(hi:l[i]?=some x)(ho:o∈l)(hne:o≠x):o∈l.set i y:=by
 obtain⟨j,hj⟩:=List.mem_iff_getElem?.1 ho;have hij:i≠j:=λe=>by subst e;rw[hi] at hj;exact hne (ab0 hj).symm
 exact List.mem_iff_getElem?.2 ⟨j,by rw[ahx hij];exact hj⟩
theorem Ks {γ:Type}{l:List γ}{i:Nat}{x y:γ}(hi:l[i]?=some x):y∈l.set i y:=by
 have hlt:=(List.getElem?_eq_some_iff.1 hi).1;exact List.mem_iff_getElem?.2 ⟨i,by simp[hlt]⟩
theorem Tab.put {t:Pv}{C:List (Option (Nat×ε))}(T:Tab t N C L){i b:Nat}(hi:L[i]?=some (.au t.sb (C.map cs) aQ)){k:Int}(hk:IR N.length k) :
  Tab t N (C.set k.toNat (some (b,eH N k))) (.au b ((eH N k).map vi) av::L.set i (.au t.sb ((C.set k.toNat (some (b,eH N k))).map cs) aQ)) /\
  Ext L (.au b ((eH N k).map vi) av::L.set i (.au t.sb ((C.set k.toNat (some (b,eH N k))).map cs) aQ)):=by
 have ne1:∀(b:Nat) (c:δ),bu.au b c av≠.au t.sb (C.map cs) aQ:=λb c e=>by injection e with e1 e2 e3;cases e3
 have ne2:∀(b:Nat) (c:δ),bu.au b c dn≠.au t.sb (C.map cs) aQ:=λb c e=>by injection e with e1 e2 e3;cases e3
 have ext:∀{o:bu},o∈L->o≠.au t.sb (C.map cs) aQ->o∈bu.au b ((eH N k).map vi) av::L.set i (.au t.sb ((C.set k.toNat (some (b,eH N k))).map cs) aQ):=
  λh1 h2=>BY _ (Pw hi h1 h2)
 refine⟨⟨by rw[aeN];exact T.len,ext T.Kv (ne2 _ _),BY _ (Ks hi),λk' b' l hg=>?_⟩,λb' l hm=>ext hm (ne1 _ _)⟩;rw[fP (by rw[T.len];exact hk)] at hg;split at hg
 .grind
 .obtain⟨h1,h2⟩:=T.ok k' b' l hg;exact⟨h1,ext h2 (ne1 _ _)⟩
theorem aej {m b:Nat}(hm:m<1073741824)(a0:Int)(a1 a2:Addr) :
  ∀(n i:Nat) (h:af) (L:List bu),m-i<n->i<=m->Z h0 h (.au b (((iota m).take i++List.replicate (m-i) 0).map vi) av::L) ->
   Wp ((cl n).fj a0 a1 a2 (arr b m) (m:Int) (i:Int)) h λ_ h'=>Z h0 h' (.au b ((iota m).map vi) av::L):=by
 intro n
 induction n with
 |zero=>intro i h L h1;omega
 |succ n ih=>
  intro i h L h1 h2 z;show Wp (kR (cl n) n a0 a1 a2 (arr b m) (m:Int) (i:Int)) h _;unfold kR;have hl:=po m;by_cases hi:i<m
  .rw[AT (by simp;omega)];refine G4 (b:=b) (n:=m) (by omega) (by omega) ?_;rw[IT,ac0];refine z.As 0 (xs:=(iota m).take i++List.replicate (m-i) 0) (enc:=vi) (v:=(i:Int)) (by grind) (λh3 z=>?_);have hf:=fill (qV hi);rw[hl] at hf;rw[hf] at z;rw[vq h2 (by omega)];exact ih (i+1) h3 L (by omega) (by omega) z
  .rw[By (by simp;omega),ag]
   grind
def TA (h0:af)(t:Pv)(N:List ak)(fc:Nat)(i j:Int):Prop:=∀(n:Nat) (h:af) (R L:List bu),fc<=n->o6 t N L->Z h0 h (R++L) ->
 Wp ((cl n).kT (some (an t.tb)) i (some (an t.tb)) j none) h λr h'=>r=mV N i j/\∃L',o6 t N L'/\Ext L L'/\Z h0 h' (R++L')
def Xj (h0:af)(t:Pv)(N:List ak)(fe:Nat)(k:Int)(m:Nat):Prop:=∀(n:Nat) (h:af) (R L:List bu),fe<=n->o6 t N L->Z h0 h (R++L) ->
 Wp ((cl n).dZ (some (an t.tb)) k) h λr h'=>∃b L',r=arr b m/\bu.au b ((eH N k).map vi) av∈L'/\o6 t N L'/\Ext L L'/\Z h0 h' (R++L')
theorem Xk {C:List (Option (Nat×ε))}{k:Int}{c:Option (Nat×ε)}(hc:gt C k=some c):(C.map cs)[k.toNat*1]?=some (cs c):=by
 rw[ac0,abo,(aD hc).2];rfl
theorem y9 {γ:Type}{a:γ}{R L:List γ}:(a::(R++L)).Perm (R++a::L):=List.perm_middle.symm
theorem Xl {t:Pv}(G:kX h0 t.s N)(d:Vd N root)(hB:Bd N B){fc:Nat}{k:Int}{x:ak}(hx:gt N k=some x)(hsm:x.kind=10->x.items.length<50)(hc:∀u∈x.keys,∀v∈x.keys,TA h0 t N fc u v) :
  Xj h0 t N (fc+700+B) k x.items.length:=by
 intro n h R L hn ⟨C,T⟩ z;have hNB:=hB.2.1;obtain⟨_,hBi⟩:=hB.2.2 x (aq hx);have hkr:IR N.length k:=mT hx;obtain⟨n,rfl⟩:∃n',n=n'+1:=⟨n-1,by omega⟩;show Wp (nJ (cl n) n (some (an t.tb)) k) h _;unfold nJ;refine z.new λx0 h1 z _=>?_;refine z.ld 0 (o:=0) (l:=.ptr) (x:=some (an t.tb)) (bt ?_);refine z.ET (o:=0) (l:=.sl) (x:=t.s) (BY _ (abW _ T.Kv)) rfl rfl ?_;obtain⟨g1,g2⟩:=aD hx;refine G.NW z g1 g2 λa ks is nd=>?_;refine z.new λx5 h2 z _=>?_;refine z.st 0 (cs':=[Value.pointer (some a)]) λh3 z=>?_;have z:Z h0 h3 (.au x5 [Value.pointer (some a)] eW::.au x0 [Value.pointer (some (an t.tb))] bJ::(R++L)):=z;have memL:∀{o:bu},o∈L->o∈bu.au x5 [Value.pointer (some a)] eW::.au x0 [Value.pointer (some (an t.tb))] bJ::(R++L):=λh=>BY _ (BY _ (abW _ h));refine z.ld 1 (o:=0) (l:=.ptr) (x:=some (an t.tb)) (bt ?_);refine z.ET (o:=2) (l:=.sl) (x:=arr t.sb N.length) (memL T.Kv) rfl rfl ?_;obtain⟨c,hcC⟩:=ef (l:=C) T.len hkr;refine G4 (b:=t.sb) (n:=N.length) g1 hkr.2 ?_;cases c with
 |some e=>
  obtain⟨b,l⟩:=e;obtain⟨hl,hm⟩:=T.ok k b l hcC;refine z.ET (l:=.sl) (x:=arr b l.length) (memL T.Pt) (Xk hcC) rfl ?_;rw[AT (by rfl)];refine z.ld 1 (o:=0) (l:=.ptr) (x:=some (an t.tb)) (bt ?_);refine z.ET (o:=2) (l:=.sl) (x:=arr t.sb N.length) (memL T.Kv) rfl rfl ?_;refine G4 (b:=t.sb) (n:=N.length) g1 hkr.2 ?_;refine z.ET (l:=.sl) (x:=arr b l.length) (memL T.Pt) (Xk hcC) rfl (ag.2 ?_);subst hl;exact⟨b,L,by rw[qW hx],hm,⟨C,T⟩,.refl,z.drop.drop⟩
 |none=>
  refine z.ET (l:=.sl) (x:=nP) (memL T.Pt) (Xk hcC) rfl ?_;rw[By (by simp)];refine z.ld 0 (o:=0) (l:=.ptr) (x:=some a) (bt ?_);refine (nd.fr z.fr).Bz ?_;have hlen:is.len=x.items.length:=nd.items.len;rw[hlen];refine z.Mc (by omega) (by unfold cF;omega) λb h4 z _=>?_;rw[IT] at z⊢;rw[oD (enc:=vi) (x:=(0:Int))] at z;have z0:Z h0 h4 (.au b (((iota x.items.length).take 0++List.replicate (x.items.length-0) 0).map vi) av::.au x5 [Value.pointer (some a)] eW::.au x0 [Value.pointer (some (an t.tb))] bJ::(R++L)):=by simpa using z
  rw[ah];refine (aej (by omega) k (an x0) (an x5) n 0 h4 _ (by omega) (by omega) z0).mono λ_ h5 z=>?_;refine z.ld 1 (o:=0) (l:=.ptr) (x:=some a) (bt ?_);refine (nd.fr z.fr).KJ ?_;have store:∀(h:af) (L:List bu) (C:List (Option (Nat×ε))) (l:ε),l=eH N k->Tab t N C L->Z h0 h (.au b (l.map vi) av::.au x5 [Value.pointer (some a)] eW::.au x0 [Value.pointer (some (an t.tb))] bJ::(R++L)) ->
    Wp (sh (ar .ptr (an x0)) λ(x20:θ)=>sh (nn x20) λx21=>sh (ar .sl (x21.plus 2)) λ(x22:Sl)=>sh (aw x22 k 1) λx23=>sh (bF x23 [aH (arr b x.items.length)]) λx24=>AI (arr b x.items.length)) h λr h'=>
     ∃b L',r=arr b x.items.length/\bu.au b ((eH N k).map vi) av∈L'/\o6 t N L'/\Ext L L'/\Z h0 h' (R++L'):=by
   intro h L C l hl T z;subst hl;refine z.ld 2 (o:=0) (l:=.ptr) (x:=some (an t.tb)) (bt ?_);refine z.ET (o:=2) (l:=.sl) (x:=arr t.sb N.length) (BY _ (BY _ (BY _ (abW _ T.Kv)))) rfl rfl ?_;refine G4 (b:=t.sb) (n:=N.length) g1 hkr.2 ?_;have hsp:bf (C.map cs) (k.toNat*1) [aH (arr b x.items.length)]=(C.set k.toNat (some (b,eH N k))).map cs:=by
    rw[ac0,<-Aw (enc:=cs) (by rw[T.len];have:=hkr.1;have:=hkr.2;omega)];simp only[cs,qW hx]
   refine Z.stM (R:=.au b ((eH N k).map vi) av::.au x5 [Value.pointer (some a)] eW::.au x0 [Value.pointer (some (an t.tb))] bJ::R) z T.Pt hsp (by rw[ac3,T.len,ac0];have:=hkr.1;have:=hkr.2;simp;omega) rfl λi h' hi z=>ag.2 ?_;obtain⟨T',E'⟩:=T.put (b:=b) hi hkr;refine⟨b,_,rfl,IS,⟨_,T'⟩,E',Z.perm (Z.sub z ?_) y9⟩
   simp_all
  by_cases hk:x.kind=10
  .rw[AT (by simpa using hk)];refine z.ld 1 (o:=0) (l:=.ptr) (x:=some a) (bt ?_);refine (nd.fr z.fr).ldO ?_;have hkl:=d.map (aq hx) hk;cases ho:x.ord with
   |true=>
    rw[Gq];have e:iota x.items.length=eH N k:=by
     unfold eH tK;rw[hx];simp only[ho];rw[By (by simp)]
    exact store h5 L C _ e T z
   |false=>
    rw[Gp];unfold kS
    let cx:Cx:=⟨h0,b,x.items.length,Value.func (Fn.func iE) #[] #[Value.pointer (some (an x0)),Value.pointer (some (an x5))],fc+1,λLx=>∃L1,Lx=.au x5 [Value.pointer (some a)] eW::.au x0 [Value.pointer (some (an t.tb))] bJ::L1/\o6 t N L1/\Ext L L1⟩
    have okc:cx.OK (inM cx.m λu v=>mV N (nth x.keys u) (nth x.keys v)):=by
     intro n u v h R2 Lx hn hu hu2 hv hv2 ⟨L1,e,T1,E1⟩ z;subst e;have hu2:u<(x.items.length:Int):=hu2;have hv2:v<(x.items.length:Int):=hv2;obtain⟨n,rfl⟩:∃n',n=n'+1:=⟨n-1,by have:fc+1<=n:=hn;omega⟩;have hn:fc+1<=n+1:=hn;show Wp (aA (cl (n+1)) (n+1) (Value.func (Fn.func iE) #[] #[Value.pointer (some (an x0)),Value.pointer (some (an x5))]) u v) h _;unfold aA;rw[AT (by rfl),ah];refine kB (c:=((an x0,an x5):Addr×Addr)) rfl ?_;show Wp (lV (cl n) n u v (an x0) (an x5)) h _;unfold lV;have m5:bu.au x5 [Value.pointer (some a)] eW∈R2++(.au x5 [Value.pointer (some a)] eW::.au x0 [Value.pointer (some (an t.tb))] bJ::L1):=abW _ IS;have m0:bu.au x0 [Value.pointer (some (an t.tb))] bJ∈R2++(.au x5 [Value.pointer (some a)] eW::.au x0 [Value.pointer (some (an t.tb))] bJ::L1):=abW _ (BY _ IS);obtain⟨ku,hku⟩:=kW (l:=x.keys) hu (by omega);obtain⟨kv,hkv⟩:=kW (l:=x.keys) hv (by omega);have ndz:=nd.fr z.fr;refine z.ET (o:=0) (l:=.ptr) (x:=some (an t.tb)) m0 rfl rfl ?_;refine z.ET (o:=0) (l:=.ptr) (x:=some a) m5 rfl rfl (bt ?_);refine ndz.G5 (ndz.keys.ix hu (aD hku).2 λ_ _ c1=>c1.sy (l:=li) rfl rfl ?_);refine z.ET (o:=0) (l:=.ptr) (x:=some (an t.tb)) m0 rfl rfl ?_;refine z.ET (o:=0) (l:=.ptr) (x:=some a) m5 rfl rfl (bt ?_);refine ndz.G5 (ndz.keys.ix hv (aD hkv).2 λ_ _ c1=>c1.sy (l:=li) rfl rfl ?_);rw[ah];have z2:Z h0 h ((R2++[.au x5 [Value.pointer (some a)] eW,.au x0 [Value.pointer (some (an t.tb))] bJ])++L1):=(by simpa using z);refine (hc ku (aq hku) kv (aq hkv) n h _ L1 (by omega) T1 z2).mono λr h' hr=>ag.2 ?_;obtain⟨rfl,L2,T2,E2,z3⟩:=hr;refine⟨?_,_,⟨L2,rfl,T2,E1.trans E2⟩,by simpa using z3⟩;unfold inM nth
     grind
    have st:cx.St R h5 (iota cx.m):=by
     refine⟨_,⟨L,rfl,⟨C,T⟩,.refl⟩,?_⟩;refine Z.perm z (List.Perm.cons _ ?_);exact (List.Perm.cons _ y9).trans y9
    rw[ah];refine (aei (cv:=λu v=>mV N (nth x.keys u) (nth x.keys v)) (c:=cx) (hsm hk) okc (by show fc+1+600<=n;omega) st).mono λ_ h6 hs=>?_;obtain⟨Lx,⟨L1,rfl,⟨C1,T1⟩,E1⟩,z6⟩:=hs;have z6:Z h0 h6 (.au b ((Pt (λu v=>mV N (nth x.keys u) (nth x.keys v)) x.items.length).map vi) av::.au x5 [Value.pointer (some a)] eW::.au x0 [Value.pointer (some (an t.tb))] bJ::(R++L1)):=by
     refine Z.perm z6 (List.Perm.cons _ ?_);exact ((List.Perm.cons _ y9).trans y9).symm
    have e:Pt (λu v=>mV N (nth x.keys u) (nth x.keys v)) x.items.length=eH N k:=by
     unfold eH tK;rw[hx];simp only;rw[AT ⟨hk,ho⟩]
    exact (store h6 L1 C1 _ e T1 z6).mono λr h7 hr=>by
     obtain⟨b',L',q1,q2,q3,q4,q5⟩:=hr;exact⟨b',L',q1,q2,q3,E1.trans q4,q5⟩
  .rw[By (by simpa using hk)];have e:iota x.items.length=eH N k:=by
    unfold eH tK;rw[hx];simp only;rw[By (λq=>hk q.1)]
   exact store h5 L C _ e T z
end Go.Sh
namespace Go.Sh
open Go Go.Ago Go.Proofs
variable {α β:Type}{h h' h0:af}{L R:List bu}{N:List ak}{root:Int}{B:Nat}{Q:β->af->Prop}
theorem Kt {c:ε}{a v:Int}(hg:gt c a=some v):(c.map vi)[a.toNat*1]?=some (vi v):=by
 rw[ac0,abo,(aD hg).2];rfl
theorem zA {c:ε}{i:Nat}{v:Int}(hg:gt c (i:Int)=some v):c.drop i=v::c.drop (i+1):=by
 have:=(aD hg).2;rw[IT] at this;exact drop_cons this
theorem aek {t:Pv}{fc:Nat}{x y:ak}{a a':Addr}{ks is ks' is':Sl}(nd:Cu h0 a x ks is)(nd':Cu h0 a' y ks' is'){bp bq:Nat}{p q:ε}
  (hp:∀u∈p,0<=u/\u<x.items.length/\(x.kind=10->u<x.keys.length)) (hq:∀u∈q,0<=u/\u<y.items.length/\(x.kind=10->u<y.keys.length)) (hbig:p.length<1073741824)
  (hc:∀u,u∈x.keys\/u∈x.items->∀v,v∈y.keys\/v∈y.items->TA h0 t N fc u v):∀(n i:Nat) (h:af) (R L:List bu),fc+(min p.length q.length-i)+1<=n->i<=min p.length q.length->bu.au bp (p.map vi) av∈L->bu.au bq (q.map vi) av∈L->o6 t N L->Z h0 h (R++L) ->
  Wp ((cl n).iV (some (an t.tb)) (some (an t.tb)) none (some a) (some a') (arr bp p.length) (arr bq q.length) ((min p.length q.length:Nat):Int) (i:Int)) h λr h'=>
   r=(match CX (mV N) x y (p.drop i) (q.drop i) with|some c=>.inr c|none=>.inl ())/\∃L',o6 t N L'/\Ext L L'/\Z h0 h' (R++L'):=by
 intro n
 induction n with
 |zero=>intro i h R L h1;omega
 |succ n ih=>
  intro i h R L h1 h2 mp mq T z;show Wp (qH (cl n) n (some (an t.tb)) (some (an t.tb)) none (some a) (some a') (arr bp p.length) (arr bq q.length) ((min p.length q.length:Nat):Int) (i:Int)) h _;unfold qH;by_cases hi:i<min p.length q.length
  .rw[AT (by simpa using hi)];obtain⟨u,hu⟩:=kW (l:=p) (v:=(i:Int)) (by omega) (by omega);obtain⟨v,hv⟩:=kW (l:=q) (v:=(i:Int)) (by omega) (by omega);obtain⟨u1,u2,u3⟩:=hp u (aq hu);obtain⟨v1,v2,v3⟩:=hq v (aq hv);rw[zA hu,zA hv];obtain⟨iu,hiu⟩:=kW (l:=x.items) u1 u2;obtain⟨iv,hiv⟩:=kW (l:=y.items) v1 v2;have next:∀(h:af) (L:List bu),mV N iu iv=0->bu.au bp (p.map vi) av∈L->bu.au bq (q.map vi) av∈L->o6 t N L->Z h0 h (R++L) ->
     Wp ((cl n).iV (some (an t.tb)) (some (an t.tb)) none (some a) (some a') (arr bp p.length) (arr bq q.length) ((min p.length q.length:Nat):Int) (IntKind.i64.wrap ((i:Int)+1))) h λr h'=>
      r=(match CX (mV N) x y (p.drop (i+1)) (q.drop (i+1)) with|some c=>.inr c|none=>.inl ())/\∃L',o6 t N L'/\Ext L L'/\Z h0 h' (R++L'):=by
    intro h L _ mp mq T z;rw[vq (B:=p.length) (by omega) hbig];exact ih (i+1) h R L (by omega) (by omega) mp mq T z
   have J0:∀(h:af) (L:List bu),(x.kind=10->mV N (nth x.keys u) (nth y.keys v)=0)->bu.au bp (p.map vi) av∈L->bu.au bq (q.map vi) av∈L->o6 t N L->Z h0 h (R++L) ->
     Wp (iw (cl n) n (some (an t.tb)) (some (an t.tb)) none (some a) (some a') (arr bp p.length) (arr bq q.length) (i:Int) ((min p.length q.length:Nat):Int) (i:Int)) h λr h'=>
      r=(match CX (mV N) x y (u::p.drop (i+1)) (v::q.drop (i+1)) with|some c=>.inr c|none=>.inl ())/\∃L',o6 t N L'/\Ext L L'/\Z h0 h' (R++L'):=by
    intro h L hk mp mq T z;unfold iw;refine bt (G4 (by omega) (by omega) (bt (G4 (by omega) (by omega) ?_)));have ndz:=nd.fr z.fr;have ndz':=nd'.fr z.fr;refine ndz.Bz ?_;refine z.ET (l:=li) (x:=u) (abW _ mp) (Kt hu) rfl ?_;refine ndz.items.ix u1 (aD hiu).2 λ_ _ c1=>c1.sy (l:=li) rfl rfl ?_;refine ndz'.Bz ?_;refine z.ET (l:=li) (x:=v) (abW _ mq) (Kt hv) rfl ?_;refine ndz'.items.ix v1 (aD hiv).2 λ_ _ c1=>c1.sy (l:=li) rfl rfl ?_;rw[ah];refine (hc iu (.inr (aq hiu)) iv (.inr (aq hiv)) n h R L (by omega) T z).mono λr h' hr=>?_;obtain⟨rfl,L',T',E',z'⟩:=hr;have e1:nth x.items u=iu:=(by unfold nth;rw[hiu];rfl);have e2:nth y.items v=iv:=(by unfold nth;rw[hiv];rfl);have eq:CX (mV N) x y (u::p.drop (i+1)) (v::q.drop (i+1))=if mV N iu iv≠0 then some (mV N iu iv) else CX (mV N) x y (p.drop (i+1)) (q.drop (i+1)):=by
     conv=>lhs;unfold CX
     grind
    rw[eq];by_cases h0':mV N iu iv=0
    .rw[By (by simpa using h0'),By (show ¬(mV N iu iv≠0) from λe=>e h0')];exact (next h' L' h0' (E' _ _ mp) (E' _ _ mq) T' z').mono λr h2 hr=>⟨hr.1,by obtain⟨L2,t2,e2,z2⟩:=hr.2;exact⟨L2,t2,E'.trans e2,z2⟩⟩
    .rw[AT (by simpa using h0'),AT h0'];exact ag.2 ⟨rfl,L',T',E',z'⟩
   refine bt ?_;refine (nd.fr z.fr).KJ ?_;by_cases hk:x.kind=10
   .rw[AT (by simpa using hk)];refine bt (G4 (by omega) (by omega) (bt (G4 (by omega) (by omega) ?_)));have ndz:=nd.fr z.fr;have ndz':=nd'.fr z.fr;obtain⟨ku,hku⟩:=kW (l:=x.keys) u1 (u3 hk);obtain⟨kv,hkv⟩:=kW (l:=y.keys) v1 (v3 hk);refine ndz.G5 ?_;refine z.ET (l:=li) (x:=u) (abW _ mp) (Kt hu) rfl ?_;refine ndz.keys.ix u1 (aD hku).2 λ_ _ c1=>c1.sy (l:=li) rfl rfl ?_;refine ndz'.G5 ?_;refine z.ET (l:=li) (x:=v) (abW _ mq) (Kt hv) rfl ?_;refine ndz'.keys.ix v1 (aD hkv).2 λ_ _ c1=>c1.sy (l:=li) rfl rfl ?_;rw[ah];refine (hc ku (.inl (aq hku)) kv (.inl (aq hkv)) n h R L (by omega) T z).mono λr h' hr=>?_;obtain⟨rfl,L',T',E',z'⟩:=hr;have e1:nth x.keys u=ku:=(by unfold nth;rw[hku];rfl);have e2:nth y.keys v=kv:=(by unfold nth;rw[hkv];rfl);by_cases h0':mV N ku kv=0
    .rw[By (by simpa using h0')];exact (J0 h' L' (λ_=>by rw[e1,e2];exact h0') (E' _ _ mp) (E' _ _ mq) T' z').mono λr h2 hr=>⟨hr.1,by obtain⟨L2,t2,e2,z2⟩:=hr.2;exact⟨L2,t2,E'.trans e2,z2⟩⟩
    .rw[AT (by simpa using h0')];unfold CX;rw[e1,e2,AT ⟨hk,h0'⟩];exact ag.2 ⟨rfl,L',T',E',z'⟩
   .rw[By (by simpa using hk)];exact J0 h L (λe=>absurd e hk) mp mq T z
  .rw[By (by simpa using hi)];refine ag.2 ⟨?_,L,T,.refl,z⟩;have:p.drop i=[]\/q.drop i=[]:=by
    grind
   rcases this with e|e
   .rw[e];cases q.drop i<;>rfl
   .rw[e];cases p.drop i<;>rfl
theorem ael {t:Pv}(G:kX h0 t.s N)(d:Vd N root)(hB:Bd N B)(ht:∀x∈N,x.text.size<=65536){fc fe:Nat}{i j:Int}{x y:ak}(hx:gt N i=some x)(hy:gt N j=some y)(hi:KN N i)(hj:KN N j)
  (hfe:65600<=fe) (hfc:fc+B<=fe) (ei:Xj h0 t N fe i x.items.length) (ej:Xj h0 t N fe j y.items.length) (hc:∀u,u∈x.keys\/u∈x.items->∀v,v∈y.keys\/v∈y.items->TA h0 t N fc u v):TA h0 t N (fe+10) i j:=by
 intro n h R L hn T z;have hBB:=hB.2.1;obtain⟨n,rfl⟩:∃n',n=n'+2:=⟨n-2,by omega⟩;show Wp (tu (cl (n+1)) (n+1) (some (an t.tb)) i (some (an t.tb)) j none) h _;unfold tu;rw[ah];refine⟨((false,0):Bool×Int),h,rfl,?_⟩;show Wp (sh ((cl (n+1)).qI (some (an t.tb)) i (some (an t.tb)) j none) _) h _;rw[ah];rw[Z2 d hi hj hx hy];have main:Wp (uP (cl n) n (some (an t.tb)) i (some (an t.tb)) j none) h λr h'=>r=MP (mV N) x y/\∃L',o6 t N L'/\Ext L L'/\Z h0 h' (R++L'):=by
  unfold uP MP;obtain⟨C,TC⟩:=T;have tabm:=abW R TC.Kv;refine bt (bt ?_);refine z.ET (o:=0) (l:=.sl) (x:=t.s) tabm rfl rfl ?_;refine G.NW z (aD hx).1 (aD hx).2 λa ks is nd=>?_;refine z.ET (o:=0) (l:=.sl) (x:=t.s) tabm rfl rfl ?_;refine G.NW z (aD hy).1 (aD hy).2 λa' ks' is' nd'=>?_;have ndz:=nd.fr z.fr;have ndz':=nd'.fr z.fr;refine bt (bt (ndz.KJ (ndz'.KJ ?_)));by_cases c1:x.kind<y.kind
  .rw[AT (by simpa using c1),AT c1];exact ag.2 ⟨rfl,L,⟨C,TC⟩,.refl,z⟩
  rw[By (by simpa using c1),By c1];refine bt (bt (ndz.KJ (ndz'.KJ ?_)));by_cases c2:y.kind<x.kind
  .rw[AT (by simpa using c2),AT c2];exact ag.2 ⟨rfl,L,⟨C,TC⟩,.refl,z⟩
  rw[By (by simpa using c2),By c2];have hk:x.kind=y.kind:=by omega
  refine bt (bt (ndz.ldO (ndz'.ldO ?_)));by_cases c3:x.ord=y.ord
  .rw[By (by rw[c3];cases y.ord<;>decide),By (by simpa using c3)];refine bt (bt (bt (ndz.KJ (ndz.GJ (ndz'.GJ ?_)))));have hsx:=ht x (aq hx);have hsy:=ht y (aq hy);refine z.call (P:=λr _=>r=Tw x.kind x.text y.text) (Xd hsx hsy (by omega) z.wf) λr h1 hr f1 z1=>?_;subst hr;by_cases c4:Tw x.kind x.text y.text=0
   .rw[By (by simpa using c4),By (by simpa using c4)];rw[ah];refine (ei n h1 R L (by omega) ⟨C,TC⟩ z1).mono λr h2 hr=>?_;obtain⟨bp,L1,rfl,mp,T1,E1,z2⟩:=hr;rw[ah];refine (ej n h2 R L1 (by omega) T1 z2).mono λr h3 hr=>?_;obtain⟨bq,L2,rfl,mq,T2,E2,z3⟩:=hr;have lp:=qW hx;have lq:=qW hy;have hbx:=(hB.2.2 x (aq hx)).2;have hby:=(hB.2.2 y (aq hy)).2;have em:(if ((arr bq y.items.length).len:Int)<((arr bp x.items.length).len:Int) then ((arr bq y.items.length).len:Int) else ((arr bp x.items.length).len:Int))=((min (eH N i).length (eH N j).length:Nat):Int):=by
     rw[lp,lq];show (if (y.items.length:Int)<(x.items.length:Int) then (y.items.length:Int) else (x.items.length:Int))=_;split<;>omega
    rw[em];rw[ah];have ox:eH N i=tK (mV N) x:=(by unfold eH;rw[hx]);have oy:eH N j=tK (mV N) y:=(by unfold eH;rw[hy]);have key:=aek (p:=eH N i) (q:=eH N j) nd nd' (bp:=bp) (bq:=bq) (λu hu=>by
      rw[ox] at hu;have:=kL hu;exact⟨this.1,this.2,λe=>by rw[d.map (aq hx) e];exact this.2⟩) (λu hu=>by
      rw[oy] at hu;have:=kL hu;exact⟨this.1,this.2,λe=>by rw[d.map (aq hy) (hk▸e)];exact this.2⟩) (by omega) hc n 0 h3 R L2 (by omega) (by omega) (E2 _ _ mp) mq T2 z3
    rw[lp,lq] at key;rw[lp,lq];refine key.mono λr h4 hr=>?_;obtain⟨hr,L3,T3,E3,z4⟩:=hr;rw[afj,afj,ox,oy] at hr;have fin:∃L',o6 t N L'/\Ext L L'/\Z h0 h4 (R++L'):=⟨L3,T3,(E1.trans E2).trans E3,z4⟩;cases hd:CX (mV N) x y (tK (mV N) x) (tK (mV N) y) with
    |some c=>rw[hd] at hr;subst hr;exact ag.2 ⟨rfl,fin⟩
    |none=>
     rw[hd] at hr;subst hr;show Wp (if decide ((x.items.length:Int)<(y.items.length:Int))=true then AI (-1) else if decide ((y.items.length:Int)<(x.items.length:Int))=true then AI 1 else AI 0) h4 _;by_cases l1:x.items.length<y.items.length
     .rw[AT (by simpa using l1)];simp only[AT l1];exact ag.2 ⟨rfl,fin⟩
     .rw[By (by simpa using l1)];simp only[By l1];by_cases l2:y.items.length<x.items.length
      .rw[AT (by simpa using l2)];simp only[AT l2];exact ag.2 ⟨rfl,fin⟩
      .rw[By (by simpa using l2)];simp only[By l2];exact ag.2 ⟨rfl,fin⟩
   .rw[AT (by simpa using c4),AT c4];exact ag.2 ⟨rfl,L,⟨C,TC⟩,.refl,z1⟩
  .rw[AT (by cases hxo:x.ord<;>cases hyo:y.ord<;>simp_all),AT c3];refine bt (ndz'.ldO ?_);cases y.ord
   .exact ag.2 ⟨rfl,L,⟨C,TC⟩,.refl,z⟩
   .exact ag.2 ⟨rfl,L,⟨C,TC⟩,.refl,z⟩
 refine main.mono λr h1 hr=>?_;rw[By (by simp)];exact ag.2 hr
def XZ (B d:Nat):Nat:=66000+d*(2*B+800)
theorem Z4 {t:Pv}(G:kX h0 t.s N)(d:Vd N root)(hB:Bd N B)(ht:∀x∈N,x.text.size<=65536)(hsm:∀x∈N,x.kind=10->x.items.length<50){H:Int->Nat}(hH:∀u v,KN N v->Edge N u v->H v<H u) :
  ∀(e:Nat),(∀i j,KN N i->KN N j->H i<e->H j<e->TA h0 t N (XZ B e) i j)/\∀k x,gt N k=some x->H k<=e->Xj h0 t N (XZ B e+700+B) k x.items.length:=by
 intro e
 induction e with
 |zero=>
  refine⟨λi j _ _ h1=>absurd h1 (by omega),λk x hx hk=>Xl G d hB hx (hsm x (aq hx)) λu hu v hv=>?_⟩;have:=hH k u (.key (aq hx) hu) ⟨x,hx,.inl hu⟩;omega
 |succ e ih=>
  have cmp:∀i j,KN N i->KN N j->H i<e+1->H j<e+1->TA h0 t N (XZ B (e+1)) i j:=λi j hi hj h1 h2=>by
   obtain⟨x,hx⟩:=ef (l:=N) rfl (hi.ir d.ix);obtain⟨y,hy⟩:=ef (l:=N) rfl (hj.ir d.ix);have:=ael G d hB ht hx hy hi hj (fe:=XZ B e+700+B) (fc:=XZ B e) (by unfold XZ;omega) (by omega) (ih.2 i x hx (by omega)) (ih.2 j y hy (by omega)) λu hu v hv=>by
    have eu:Edge N i u:=⟨x,hx,hu⟩;have ev:Edge N j v:=⟨y,hy,hv⟩;have q1:=hH i u (.step hi eu) eu;have q2:=hH j v (.step hj ev) ev;exact ih.1 u v (.step hi eu) (.step hj ev) (by omega) (by omega)
   intro n h R L hn T z;refine this n h R L ?_ T z;unfold XZ at hn⊢;rw[aen,ag1] at hn;omega
  refine⟨cmp,λk x hx hk=>?_⟩;refine Xl G d hB hx (hsm x (aq hx)) λu hu v hv=>?_;have q1:=hH k u (.key (aq hx) hu) ⟨x,hx,.inl hu⟩;have q2:=hH k v (.key (aq hx) hv) ⟨x,hx,.inl hv⟩;exact cmp u v (.key (aq hx) hu) (.key (aq hx) hv) (by omega) (by omega)
def fuE (B:Nat):Nat:=XZ B B+700+B
theorem Gx {t:Pv}(G:kX h0 t.s N)(d:Vd N root)(hB:Bd N B)(ht:∀x∈N,x.text.size<=65536)(hsm:∀x∈N,x.kind=10->x.items.length<50){k:Int}{x:ak}(hx:gt N k=some x):Xj h0 t N (fuE B) k x.items.length:=by
 obtain⟨H,hH1,hH2⟩:=d.Kq;have h1:=(Z4 G d hB ht hsm hH2 N.length).2 k x hx (hH1 k);intro n h R L hn T z;refine h1 n h R L ?_ T z;have h2:XZ B N.length<=XZ B B:=Nat.add_le_add_left (ad0 _ hB.1) _;unfold fuE at hn;omega
end Go.Sh
namespace Go.Ago
open Go
variable {α β:Type}{h h' h0:af}{L:List bu}
theorem Z.Px (z:Z h0 h L)(i:Nat){st:Bool}{s:Sl}{sz n:Nat}{e:κ}{cs new:δ}{g:Nat}{f:Sl->M β}{Q:β->af->Prop}(hi:L[i]?=some (.sl s sz e cs g))(hn:n≠0)(hl:new.length=n*sz)(hb:s.len+n<=cF)
  (q:∀s' h' g',s'.len=s.len+n->Z h0 h' (L.set i (.sl s' sz e (cs++new) g'))->Fr (·=g) h h'->Wp (f s') h' Q):Wp (sh (Ago.app st s sz e n new) f) h Q:=by
 rw[ah];have o:rL h s sz e cs g:=z.get i hi;refine o.app z.wf hn hl hb λs' h' g' h1 hcap h2 h3 h4=>q s' h' g' h1 ?_ h4;by_cases hg:g=0
 .have h3:=h3.resolve_left (λx=>x.2 hg);have f0:Fr (λ_=>False) h h':=⟨h4.wf,h4.next,λj c g2 b e2 hj _=>h4.cells j c g2 b e2 hj λe3=>by rw[e3,hg],λg2 h5 _=>h4.oV g2 h5 λe3=>by rw[e3,hg],h4.used,h4.none,λj x hj _=>h4.maps j x hj (by omega)⟩
  have z1:=z.add f0 (o:=.sl s' sz e (cs++new) g') h2 (.inr (by simp only[bu.dY];omega));refine⟨z1.IV,z1.fr,λx hx=>z1.own x ?_,Cr ql (List.pairwise_cons.1 z1.sP).2 λj y hj hne e2=>(List.pairwise_cons.1 z1.sP).1 y (IN hj) e2⟩
  grind
 .refine z.sr (o:=.sl s sz e cs g) hi hg h4 h2 ?_
  grind [bu.dY]
theorem Z.nC (z:Z h0 h L)(i:Nat){m:Nat}{kt:κ}{fn:ξ->Option ξ}{n:Nat}{k v:ξ}{f:Unit->M β}{Q:β->af->Prop}(hi:L[i]?=some (.map m kt fn n))
  (q:∀h' n',Z h0 h' (L.set i (.map m kt (xM fn k v) n'))->Wp (f ()) h' Q):Wp (sh (Df kt (some m) k v) f) h Q:=by
 rw[ah];exact MB.ahh (z.get i hi) z.wf λh' l fr=>q h' _ (z.sr (o:=.map m kt fn n) hi (by simp[bu.dY]) fr l (.inl rfl))
end Go.Ago
namespace Go.Sh
open Go Go.Ago Go.Proofs
variable {N:List ak}{root:Int}{B:Nat}
structure NS where
 at':ε
 iX:Nat
 out:List ak
def mO (F:Int->NS->Option (Int×NS))(x:ak):ε->NS->Option ((ε×ε)×NS)
 |[],S=>some (([],[]),S)
 |k::r,S=>if x.kind=10 then (match F (nth x.keys k) S with
   |none=>none
   |some (a,S1)=>match F (nth x.items k) S1 with
    |none=>none
    |some (b,S2)=>match mO F x r S2 with
     |none=>none
     |some ((ks,is),S3)=>some ((a::ks,b::is),S3))
  else match F (nth x.items k) S with
   |none=>none
   |some (b,S2)=>match mO F x r S2 with
    |none=>none
    |some ((ks,is),S3)=>some ((ks,b::is),S3)
noncomputable def nv (N:List ak):Nat->Int->NS->Option (Int×NS)
 |0,_,_=>none
 |f+1,k,S=>match gt S.at' k,gt N k with
  |some v,some x=>if 0<=v then some (v,S) else match mO (nv N f) x (eH N k) ⟨S.at'.set k.toNat S.iX,S.iX+1,S.out⟩ with
   |none=>none
   |some ((ks,is),S2)=>some ((S.iX:Int),⟨S2.at',S2.iX,S2.out.set S.iX ⟨x.kind,x.text,x.ord,ks,is⟩⟩)
  |_,_=>none
def nd0:ak:=⟨0,ofBytes [],false,[],[]⟩
def Q8 (m:Nat):NS:=⟨List.replicate m (-1),0,List.replicate m nd0⟩
noncomputable def jN (N:List ak)(root:Int):List ak:=match nv N (N.length+1) root (Q8 N.length) with
 |some (_,S)=>S.out
 |none=>[]
def neg (l:ε):Nat:=l.countP (λv=>decide (v<0))
theorem Ku:∀{l:ε} {i:Nat} {v w:Int},l[i]?=some v->v<0->0<=w->neg (l.set i w)+1=neg l
 |[],i,v,w,h,_,_=>by simp at h
 |a::l,0,v,w,h,h1,h2=>by
  simp at h;subst h;unfold neg
  grind
 |a::l,i+1,v,w,h,h1,h2=>by
  grind [neg]
theorem neg_pos {l:ε}{i:Nat}{v:Int}(h:l[i]?=some v)(hv:v<0):0<neg l:=by
 grind [neg,List.countP_pos_iff,List.mem_of_getElem?]
def af0 (N:List ak)(m:Nat)(y:ak):Prop:=y=nd0\/∃x∈N,y.kind=x.kind/\y.text=x.text/\y.ord=x.ord/\y.items.length=x.items.length/\y.keys.length=x.keys.length/\(∀v∈y.keys,IR m v)/\∀v∈y.items,IR m v
structure CY (N:List ak) (S:NS):Prop where
 la:S.at'.length=N.length
 lo:S.out.length=N.length
 le:∀v∈S.at',v<(S.iX:Int)
 sum:neg S.at'+S.iX=N.length
 fr:∀y∈S.out,af0 N N.length y
theorem CY.cle {S:NS}(o:CY N S):S.iX<=N.length:=by have:=o.sum;omega
theorem xy {F:Int->NS->Option (Int×NS)}{x:ak}{n:Nat}(hF:∀k S,CY N S->neg S.at'<=n->IR N.length k->∃v S',F k S=some (v,S')/\CY N S'/\neg S'.at'<=neg S.at'/\IR N.length v)
  (hk:x.kind=10->x.keys.length=x.items.length) (hI:(∀v∈x.keys,IR N.length v)/\∀v∈x.items,IR N.length v):∀(l:ε) (S:NS),(∀a∈l,0<=a/\a<x.items.length)->CY N S->neg S.at'<=n ->
   ∃ks is S',mO F x l S=some ((ks,is),S')/\CY N S'/\neg S'.at'<=neg S.at'/\is.length=l.length/\ks.length=(if x.kind=10 then l.length else 0)/\(∀v∈ks,IR N.length v)/\∀v∈is,IR N.length v
 |[],S,_,o,hn=>⟨[],[],S,rfl,o,aao _,rfl,by simp,by simp,by simp⟩
 |a::l,S,ha,o,hn=>by
  obtain⟨a1,a2⟩:=ha a IS;unfold mO;by_cases hx:x.kind=10
  .rw[AT hx];obtain⟨v,S1,e1,o1,n1,r1⟩:=hF (nth x.keys a) S o hn (hI.1 _ (gS a1 (by rw[hk hx];exact a2)));rw[e1];obtain⟨w,S2,e2,o2,n2,r2⟩:=hF (nth x.items a) S1 o1 (by omega) (hI.2 _ (gS a1 a2));simp only[e2];obtain⟨ks,is,S3,e3,o3,n3,l1,l2,q1,q2⟩:=xy hF hk hI l S2 (λb hb=>ha b (BY _ hb)) o2 (by omega);simp only[e3];refine⟨v::ks,w::is,S3,rfl,o3,by omega,by simp[l1],by rw[AT hx] at l2⊢;simp[l2],λu hu=>?_,λu hu=>?_⟩
   .grind
   grind
  .rw[By hx];obtain⟨w,S2,e2,o2,n2,r2⟩:=hF (nth x.items a) S o hn (hI.2 _ (gS a1 a2));simp only[e2];obtain⟨ks,is,S3,e3,o3,n3,l1,l2,q1,q2⟩:=xy hF hk hI l S2 (λb hb=>ha b (BY _ hb)) o2 (by omega);simp only[e3];refine⟨ks,w::is,S3,rfl,o3,by omega,by simp[l1],by rw[By hx] at l2⊢;exact l2,q1,λu hu=>?_⟩
   grind
theorem vw {γ:Type}{l:List γ}{i:Nat}{x y:γ}(h:y∈l.set i x):y∈l\/y=x:=by
 grind
theorem Gy (d:Vd N root):∀(f:Nat) (k:Int) (S:NS),CY N S->neg S.at'<f->IR N.length k->∃v S',nv N f k S=some (v,S')/\CY N S'/\neg S'.at'<=neg S.at'/\IR N.length v:=by
 intro f
 induction f with
 |zero=>intro k S _ h;omega
 |succ f ih=>
  intro k S o hf hk;obtain⟨v,hv⟩:=ef (l:=S.at') o.la hk;obtain⟨x,hx⟩:=ef (l:=N) rfl hk;unfold nv;rw[hv,hx];simp only;have hlt:=o.le v (aq hv);have hcl:=o.cle;by_cases h0:0<=v
  .rw[AT h0];exact⟨v,S,rfl,o,aao _,h0,by omega⟩
  .rw[By h0];have hn:=Ku (aD hv).2 (w:=(S.iX:Int)) (by omega) (by omega);have hp:=neg_pos (aD hv).2 (by omega);have hsum:=o.sum;have o1:CY N ⟨S.at'.set k.toNat S.iX,S.iX+1,S.out⟩:=⟨by rw[aeN];exact o.la,o.lo,λw hw=>by
    rcases vw hw with hw|rfl
    .have:=o.le w hw;show w<((S.iX+1:Nat):Int);omega
    grind,by simp only;omega,o.fr⟩
   have hord:eH N k=tK (mV N) x:=by unfold eH;rw[hx]
   obtain⟨ks,is,S2,e2,o2,n2,l1,l2,q1,q2⟩:=xy (n:=f-1) (F:=nv N f) (x:=x) (λk S o hn hk=>ih k S o (by omega) hk) (d.map (aq hx)) (d.ix x (aq hx)) (eH N k) _ (λa ha=>by rw[hord] at ha;exact kL ha) o1 (by simp only;omega);rw[e2];simp only at n2⊢;refine⟨_,_,rfl,⟨o2.la,by rw[aeN];exact o2.lo,o2.le,o2.sum,λy hy=>?_⟩,by simp only;omega,by omega,by omega⟩;rcases vw hy with hy|rfl
   .exact o2.fr y hy
   .refine .inr ⟨x,aq hx,rfl,rfl,rfl,by show is.length=_;rw[l1,qW hx],?_,q1,q2⟩;show ks.length=_;rw[l2,qW hx];by_cases h10:x.kind=10
    .rw[AT h10,d.map (aq hx) h10]
    .rw[By h10,d.keys (aq hx) h10];rfl
theorem EU (m:Nat):neg (List.replicate m (-1))=m:=by
 unfold neg;rw[List.countP_replicate];simp
theorem Py:CY N (Q8 N.length):=⟨by simp[Q8],by simp[Q8],λv hv=>by
 have:=aep hv;subst this;show (-1:Int)<((0:Nat):Int);omega,by show neg (List.replicate _ _)+0=_;rw[EU];rfl,λy hy=>.inl (aep hy)⟩
theorem EV (d:Vd N root):∃v S,nv N (N.length+1) root (Q8 N.length)=some (v,S)/\jN N root=S.out/\CY N S/\IR N.length v:=by
 obtain⟨v,S,e,o,_,r⟩:=Gy d (N.length+1) root (Q8 N.length) Py (by show neg (List.replicate _ _)<_;rw[EU];omega) d.rt;exact⟨v,S,e,by unfold jN;rw[e],o,r⟩
theorem qX (d:Vd N root):(jN N root).length=N.length:=by
 obtain⟨v,S,_,e,o,_⟩:=EV d;rw[e];exact o.lo
theorem zB (d:Vd N root){y:ak}(hy:y∈jN N root):af0 N N.length y:=by
 obtain⟨v,S,_,e,o,_⟩:=EV d;rw[e] at hy;exact o.fr y hy
theorem EW (d:Vd N root):mN (jN N root) (jN N root).length:=λy hy=>by
 rw[qX d];rcases zB d hy with rfl|⟨x,_,_,_,_,_,_,h1,h2⟩
 .exact⟨by simp[nd0],by simp[nd0]⟩
 .exact⟨h1,h2⟩
theorem MQ (d:Vd N root){y:ak}(hy:y∈jN N root):y.keys.length=(if y.kind=10 then y.items.length else 0):=by
 rcases zB d hy with rfl|⟨x,hx,h1,_,_,h4,h5,_⟩
 .rfl
 .rw[h5,h1,h4];by_cases h10:x.kind=10
  .rw[AT h10,d.map hx h10]
  .rw[By h10,d.keys hx h10];rfl
theorem Z5 (d:Vd N root)(hB:Bd N B):Bd (jN N root) B:=⟨by rw[qX d];exact hB.1,hB.2.1,λy hy=>by
 rcases zB d hy with rfl|⟨x,hx,_,_,_,h4,h5,_⟩
 .exact⟨agQ _,agQ _⟩
 .rw[h4,h5];exact hB.2.2 x hx⟩
end Go.Sh
namespace Go.Sh
open Go Go.Ago Go.Proofs
variable {N:List ak}{root:Int}{S S1 S2 S':NS}
def zC (S:NS)(u:Int):Int:=(gt S.at' u).getD 0
def Hq (S:NS)(u:Int):Prop:=∃a,gt S.at' u=some a/\0<=a
theorem Hq.gt {u:Int}(h:Hq S u):gt S.at' u=some (zC S u)/\0<=zC S u:=by
 obtain⟨a,h1,h2⟩:=h;unfold zC;rw[h1];exact⟨rfl,h2⟩
def MR (N:List ak)(S:NS)(u:Int):Prop:=∃x,Sh.gt N u=some x/\Hq S u/\(∀c,Edge N u c->Hq S c) /\
 Sh.gt S.out (zC S u)=some ⟨x.kind,x.text,x.ord,if x.kind=10 then (eH N u).map (λa=>zC S (nth x.keys a)) else [],(eH N u).map (λa=>zC S (nth x.items a))⟩
def TB (S:NS):Prop:=∀u w a,Sh.gt S.at' u=some a->Sh.gt S.at' w=some a->0<=a->u=w
structure NX (N:List ak) (S S':NS):Prop where
 ok:CY N S'
 ng:neg S'.at'<=neg S.at'
 inj:TB S'
 ext:∀u a,Sh.gt S.at' u=some a->0<=a->Sh.gt S'.at' u=some a
 An:∀j,j<S.iX->S'.out[j]?=S.out[j]?
 iX:S.iX<=S'.iX
 new:∀u,Hq S' u->Hq S u\/MR N S' u
theorem NX.num (h:NX N S S'){u:Int}(hu:Hq S u):Hq S' u/\zC S' u=zC S u:=by
 obtain⟨h1,h2⟩:=hu.gt;have:=h.ext u _ h1 h2;exact⟨⟨_,this,h2⟩,by unfold zC at *;rw[this];rfl⟩
theorem H3 {u:Int}{x:ak}(hx:gt N u=some x)(hm:pX x){a:Int}(ha:a∈eH N u):nth x.items a∈x.items/\(x.kind=10->nth x.keys a∈x.keys):=by
 have ho:eH N u=tK (mV N) x:=by unfold eH;rw[hx]
 rw[ho] at ha;obtain⟨h1,h2⟩:=kL ha;exact⟨gS h1 h2,λhk=>gS h1 (by rw[hm hk];exact h2)⟩
theorem MR.mono (d:Vd N root)(ok:CY N S)(h:NX N S S'){u:Int}(o:MR N S u):MR N S' u:=by
 obtain⟨x,hx,hu,hc,hy⟩:=o;obtain⟨n1,n2⟩:=h.num hu;obtain⟨g1,g2⟩:=hu.gt;have ce:∀c,Edge N u c->zC S' c=zC S c:=λc e=>(h.num (hc c e)).2;refine⟨x,hx,n1,λc e=>(h.num (hc c e)).1,?_⟩;have e1:(eH N u).map (λa=>zC S' (nth x.items a))=(eH N u).map (λa=>zC S (nth x.items a)):=ahD λa ha=>ce _ ⟨x,hx,.inr (H3 hx (d.map (aq hx)) ha).1⟩;rw[n2,e1];have e2:(if x.kind=10 then (eH N u).map (λa=>zC S' (nth x.keys a)) else [])=if x.kind=10 then (eH N u).map (λa=>zC S (nth x.keys a)) else []:=by
  by_cases hk:x.kind=10
  .rw[AT hk,AT hk];exact ahD λa ha=>ce _ ⟨x,hx,.inl ((H3 hx (d.map (aq hx)) ha).2 hk)⟩
  .rw[By hk,By hk]
 rw[e2,<-hy];have hlt:=ok.le _ (aq g1);unfold Sh.gt;rw[AT g2,AT g2];exact h.An _ (by omega)
theorem NX.refl (ok:CY N S)(inj:TB S):NX N S S:=⟨ok,aao _,inj,λ_ _ h _=>h,λ_ _=>rfl,aao _,λ_ h=>.inl h⟩
theorem NX.trans (d:Vd N root)(h:NX N S S1)(h':NX N S1 S2):NX N S S2:=
 ⟨h'.ok,abX h'.ng h.ng,h'.inj,λu a h1 h2=>h'.ext u a (h.ext u a h1 h2) h2,λj hj=>(h'.An j (afW hj h.iX)).trans (h.An j hj),abX h.iX h'.iX,λu hu=>by
  rcases h'.new u hu with q|q
  .rcases h.new u q with q|q
   .exact .inl q
   .exact .inr (q.mono d h.ok h')
  .exact .inr q⟩
theorem Gz (d:Vd N root){f:Nat}{x:ak}(hx:x∈N)(hF:∀k S v S',CY N S->TB S->neg S.at'<f->IR N.length k->nv N f k S=some (v,S')->NX N S S'/\gt S'.at' k=some v/\0<=v) :
  ∀(l:ε) (S:NS) (ks is:ε) (S':NS),(∀a∈l,0<=a/\a<x.items.length)->CY N S->TB S->neg S.at'<f->mO (nv N f) x l S=some ((ks,is),S') ->
   NX N S S'/\is=l.map (λa=>zC S' (nth x.items a))/\(ks=if x.kind=10 then l.map (λa=>zC S' (nth x.keys a)) else [])/\∀a∈l,Hq S' (nth x.items a)/\(x.kind=10->Hq S' (nth x.keys a))
 |[],S,ks,is,S',_,ok,inj,_,h=>by
  cases h;exact⟨.refl ok inj,rfl,by simp,λa ha=>(by cases ha)⟩
 |a::l,S,ks,is,S',hl,ok,inj,hn,h=>by
  obtain⟨a1,a2⟩:=hl a IS;have hI:=d.ix x hx;have one:∀{k v:Int} {T T':NS},gt T.at' k=some v->0<=v->NX N T T'->Hq T' k/\v=zC T' k:=λh1 h2 h3=>by
   have:=h3.ext _ _ h1 h2;exact⟨⟨_,this,h2⟩,by unfold zC;rw[this];rfl⟩
  unfold mO at h;by_cases hk:x.kind=10
  .rw[AT hk] at h;cases e1:nv N f (nth x.keys a) S with
   |none=>rw[e1] at h;cases h
   |some q1=>
   obtain⟨v1,S1⟩:=q1;rw[e1] at h;simp only at h;cases e2:nv N f (nth x.items a) S1 with
   |none=>rw[e2] at h;cases h
   |some q2=>
   obtain⟨v2,S2⟩:=q2;rw[e2] at h;simp only at h;cases e3:mO (nv N f) x l S2 with
   |none=>rw[e3] at h;cases h
   |some q3=>
   obtain⟨⟨ks2,is2⟩,S3⟩:=q3;rw[e3] at h;cases h;obtain⟨x1,g1,p1⟩:=hF _ S v1 S1 ok inj hn (hI.1 _ (gS a1 (by rw[d.map hx hk];exact a2))) e1;obtain⟨x2,g2,p2⟩:=hF _ S1 v2 S2 x1.ok x1.inj (agV x1.ng hn) (hI.2 _ (gS a1 a2)) e2;obtain⟨x3,h1,h2,h3⟩:=Gz d hx hF l S2 ks2 is2 _ (λb hb=>hl b (BY _ hb)) x2.ok x2.inj (agV (abX x2.ng x1.ng) hn) e3;obtain⟨r1,r2⟩:=one g1 p1 (x2.trans d x3);obtain⟨r3,r4⟩:=one g2 p2 x3;rw[AT hk] at h2;refine⟨(x1.trans d x2).trans d x3,by rw[acw,<-h1,<-r4],by grind,λb hb=>?_⟩;rcases List.mem_cons.1 hb with rfl|hb
   .exact⟨r3,λ_=>r1⟩
   .exact h3 b hb
  .rw[By hk] at h;cases e2:nv N f (nth x.items a) S with
   |none=>rw[e2] at h;cases h
   |some q2=>
   obtain⟨v2,S2⟩:=q2;rw[e2] at h;simp only at h;cases e3:mO (nv N f) x l S2 with
   |none=>rw[e3] at h;cases h
   |some q3=>
   obtain⟨⟨ks2,is2⟩,S3⟩:=q3;rw[e3] at h;cases h;obtain⟨x2,g2,p2⟩:=hF _ S v2 S2 ok inj hn (hI.2 _ (gS a1 a2)) e2;obtain⟨x3,h1,h2,h3⟩:=Gz d hx hF l S2 _ is2 _ (λb hb=>hl b (BY _ hb)) x2.ok x2.inj (agV x2.ng hn) e3;obtain⟨r3,r4⟩:=one g2 p2 x3;rw[By hk] at h2;refine⟨x2.trans d x3,by rw[acw,<-h1,<-r4],by rw[By hk];exact h2,λb hb=>?_⟩
   grind
theorem af1 (d:Vd N root):∀(f:Nat) (k:Int) (S:NS) (v:Int) (S':NS),CY N S->TB S->neg S.at'<f->IR N.length k->nv N f k S=some (v,S')->NX N S S'/\gt S'.at' k=some v/\0<=v
 |0,k,S,v,S',_,_,h,_,_=>by omega
 |f+1,k,S,v,S',ok,inj,hf,hk,h=>by
  obtain⟨v0,T,e0,ok',ng',_⟩:=Gy d (f+1) k S ok hf hk;rw[h] at e0;cases e0;obtain⟨w,hw⟩:=ef (l:=S.at') ok.la hk;obtain⟨x,hx⟩:=ef (l:=N) rfl hk;unfold nv at h;rw[hw,hx] at h;simp only at h;have hlt:=ok.le w (aq hw);have hcl:=ok.cle;by_cases h0:0<=w
  .rw[AT h0] at h;cases h;exact⟨.refl ok inj,hw,h0⟩
  .rw[By h0] at h;have hn:=Ku (aD hw).2 (w:=(S.iX:Int)) (by omega) (by omega);have hp:=neg_pos (aD hw).2 (by omega);have hsum:=ok.sum;have o1:CY N ⟨S.at'.set k.toNat S.iX,S.iX+1,S.out⟩:=⟨by rw[aeN];exact ok.la,ok.lo,λw hw=>by
    rcases vw hw with hw|rfl
    .have:=ok.le w hw
     grind
    grind,by simp only;omega,ok.fr⟩
   have gs:∀u,gt (S.at'.set k.toNat (S.iX:Int)) u=if u=k then some (S.iX:Int) else gt S.at' u:=λu=>fP (mT hw);have i1:TB ⟨S.at'.set k.toNat S.iX,S.iX+1,S.out⟩:=λu w a h1 h2 h3=>by
    simp only at h1 h2;rw[gs] at h1 h2;split at h1<;>split at h2
    .rename_i e1 e2;rw[e1,e2]
    .cases h1;have:=ok.le _ (aq h2);omega
    .cases h2;have:=ok.le _ (aq h1);omega
    .exact inj u w a h1 h2 h3
   cases hlp:mO (nv N f) x (eH N k) ⟨S.at'.set k.toNat S.iX,S.iX+1,S.out⟩ with
   |none=>rw[hlp] at h;cases h
   |some q=>
   obtain⟨⟨ks,is⟩,S2⟩:=q;rw[hlp] at h;cases h;have hord:eH N k=tK (mV N) x:=by unfold eH;rw[hx]
   obtain⟨X,hi,hks,hnum⟩:=Gz d (aq hx) (λk S v S' a b c e=>af1 d f k S v S' a b c e) (eH N k) _ ks is S2 (λa ha=>by rw[hord] at ha;exact kL ha) o1 i1 (by simp only;omega) hlp;have gk:gt S2.at' k=some (S.iX:Int):=X.ext k _ (by simp only;rw[gs,AT rfl]) (by omega);have nk:zC S2 k=(S.iX:Int):=by unfold zC;rw[gk];rfl
   have hc2:=X.iX;simp only at hc2;have lo2:=X.ok.lo;have nmbe:∀u,zC ⟨S2.at',S2.iX,S2.out.set S.iX ⟨x.kind,x.text,x.ord,ks,is⟩⟩ u=zC S2 u:=λ_=>rfl;have nume:∀u,Hq S2 u->Hq ⟨S2.at',S2.iX,S2.out.set S.iX ⟨x.kind,x.text,x.ord,ks,is⟩⟩ u:=λ_ h=>h;have chld:∀c,Edge N k c->Hq S2 c:=λc ⟨y,hy,hm⟩=>by
    rw[hx] at hy;cases hy;have pos:∀{i:Nat},i<x.items.length->(i:Int)∈eH N k:=λ{i} hi=>by
     rw[hord];exact (ur (mV N) x).mem_iff.2 (IN (qV hi))
    rcases hm with hm|hm
    .obtain⟨i,hi'⟩:=List.mem_iff_getElem?.1 hm;have hk10:x.kind=10:=aeG λq=>(by rw[d.keys (aq hx) q] at hi';simp at hi');have:=(hnum i (pos (by rw[<-d.map (aq hx) hk10];exact aW hi'))).2 hk10;rw[iK hi'] at this;exact this
    .obtain⟨i,hi'⟩:=List.mem_iff_getElem?.1 hm
     grind [aW,iK]
   refine⟨⟨ok',ng',X.inj,λu a h1 h2=>?_,λj hj=>?_,by simp only;omega,λu hu=>?_⟩,gk,by omega⟩
   .have hne:u≠k:=λe=>(by rw[e,hw] at h1;cases h1;exact h0 h2);exact X.ext u a (by simp only;rw[gs,By hne];exact h1) h2
   .simp only;rw[ahx (by omega)];exact X.An j (by simp only;omega)
   .by_cases e:u=k
    .subst e;refine .inr ⟨x,hx,⟨_,gk,by omega⟩,chld,?_⟩;rw[nmbe,nk];unfold Sh.gt
     grind
    .rcases X.new u hu with q|⟨y,hy,q1,q2,q3⟩
     .obtain⟨a,r1,r2⟩:=q;simp only at r1;rw[gs,By e] at r1;exact .inl ⟨a,r1,r2⟩
     .refine .inr ⟨y,hy,q1,q2,?_⟩;obtain⟨r1,r2⟩:=q1.gt;have hne:zC S2 u≠(S.iX:Int):=λe2=>e (X.inj u k _ (by rw[<-e2];exact r1) gk (by omega));rw[nmbe];unfold Sh.gt at q3⊢
      grind
theorem MS (g:GV N root)(d:Vd N root):∃φ,Ba N root (jN N root) φ/\φ root=0/\∀u x,gt N u=some x->∃x',gt (jN N root) (φ u)=some x'/\x'.items=(eH N u).map (λa=>φ (nth x.items a))/\(x.kind=10->x'.keys=(eH N u).map (λa=>φ (nth x.keys a))):=by
 obtain⟨v,S,e,e2,ok,hv⟩:=EV d;have n0:∀u,¬Hq (Q8 N.length) u:=λu ⟨a,h1,h2⟩=>by
  have:=aep (aq h1);omega
 obtain⟨X,gr,_⟩:=af1 d (N.length+1) root (Q8 N.length) v S Py (λu w a h1 _ h2=>absurd ⟨a,h1,h2⟩ (n0 u)) (by show neg (List.replicate _ _)<_;rw[EU];omega) d.rt e;have v0:v=0:=by
  obtain⟨w,hw⟩:=ef (l:=(Q8 N.length).at') (n:=N.length) (by simp[Q8]) d.rt;obtain⟨x,hx⟩:=ef (l:=N) rfl d.rt;have hw1:=aep (aq hw);unfold nv at e;rw[hw,hx] at e;simp only at e;rw[By (by omega)] at e;split at e
  .cases e
  .cases e;rfl
 subst v0;have oo:∀u,Hq S u->MR N S u:=λu h=>(X.new u h).resolve_left (n0 u);have all:∀u,fZ N root u->Hq S u:=λu r=>by
  induction r with
  |refl=>exact⟨0,gr,agD _⟩
  |step _ e ih=>obtain⟨_,_,_,h,_⟩:=oo _ ih;exact h _ e
 have nir:∀u,IR N.length u->Hq S u:=λu hu=>all u (g.MK u hu);have hlt:∀u,Hq S u->zC S u<(N.length:Int):=λu h=>by
  have:=ok.le _ (aq h.gt.1);have:=ok.cle;omega
 have inj:∀u w,Hq S u->Hq S w->zC S u=zC S w->u=w:=λu w h1 h2 e=>X.inj u w _ h1.gt.1 (by rw[e];exact h2.gt.1) h1.gt.2;have out:∀u x,gt N u=some x->gt (jN N root) (zC S u)=some ⟨x.kind,x.text,x.ord,if x.kind=10 then (eH N u).map (λa=>zC S (nth x.keys a)) else [],(eH N u).map (λa=>zC S (nth x.items a))⟩:=λu x hx=>by
  obtain⟨y,hy,_,_,h⟩:=oo u (nir u (mT hx));rw[hx] at hy;cases hy;rw[e2];exact h
 refine⟨zC S,⟨λu x _ hx=>⟨_,out u x hx,rfl,rfl,rfl,eH N u,?_,?_,rfl,rfl⟩,λu w h1 h2=>inj u w (all u h1) (all w h2),λw hw=>?_,by rw[qX d];exact aao _⟩,by unfold zC;rw[gr];rfl,λu x hx=>⟨_,out u x hx,rfl,λhk=>by simp only;rw[AT hk]⟩⟩
 .unfold eH;rw[hx];exact ur _ _
 .intro hn;unfold eH;rw[hx];simp only;unfold tK;rw[By hn]
 .rw[qX d] at hw;obtain⟨a,ha,e3⟩:=Xi (n:=N.length) (R:=λa b=>zC S (a:Int)=(b:Int)) (λa ha=>by
   have h1:=nir (a:Int) ⟨by omega,by omega⟩;have h2:=hlt _ h1;have h3:=h1.gt.2;exact⟨(zC S (a:Int)).toNat,by omega,by omega⟩) (λa a' b ha ha' h1 h2=>by
   have:=inj _ _ (nir (a:Int) ⟨by omega,by omega⟩) (nir (a':Int) ⟨by omega,by omega⟩) (h1.trans h2.symm);omega) w.toNat (by have:=hw.1;have:=hw.2;omega)
  exact⟨(a:Int),g.MK _ ⟨by omega,by omega⟩,by rw[e3];have:=hw.1;omega⟩
end Go.Sh
namespace Go.Sh
open Go Go.Ago Go.Proofs
variable {α β:Type}{h h' h0:af}{L R J:List bu}{N:List ak}{root:Int}{B:Nat}{Q:β->af->Prop}
structure NC where
 ab:Nat
 x8:Nat
 pT:Nat
 x0:Nat
 x4:Nat
 rF:Nat
 nb:Nat
 iY:Nat
 m:Nat
 t:Pv
 B:Nat
abbrev NC.fn (c:NC):ξ:=Value.func (Fn.func oz) #[] #[Value.pointer (some (an c.x8)),Value.pointer (some (an c.pT)),Value.pointer (some (an c.x0)),Value.pointer (some (an c.x4)),Value.pointer (some (an c.rF)),Value.pointer (some (an c.iY))]
def ML (c:NC)(S:NS)(O:List aY):List bu:=[.au c.pT [vi S.iX] av,.au c.ab (S.at'.map vi) av,.au c.nb (O.flatMap aY.enc) az,.au c.x8 [aH (arr c.ab c.m)] aQ,.au c.x0 [aH c.t.s,vi c.t.root] aj,
 .au c.x4 [Value.pointer (some (an c.t.tb))] bJ,.au c.rF [c.fn] o9,.au c.iY [aH (arr c.nb c.m),vi 0] aj]
def RO (r:aY)(J:List bu):Prop:=((r.ks.len=0/\r.kl=[])\/bu.sl r.ks 1 av (r.kl.map vi) r.kg∈J)/\((r.is.len=0/\r.il=[])\/bu.sl r.is 1 av (r.il.map vi) r.ig∈J)
theorem RO.mono {r:aY}{J J':List bu}(hr:RO r J)(hs:∀o∈J,o∈J'):RO r J':=⟨hr.1.imp id (hs _),hr.2.imp id (hs _)⟩
def Q9 (h0:af)(c:NC)(S:NS)(h:af)(R J L:List bu):Prop:=∃O:List aY,O.map aY.v=S.out/\(∀r∈O,RO r J)/\Z h0 h (ML c S O++(R++(J++L)))
def Z6 (B f:Nat):Nat:=fuE B+f*(B+5)+5
def af2 (h0:af)(c:NC)(N:List ak)(f:Nat):Prop:=∀(n:Nat) (h:af) (k:Int) (S:NS) (v:Int) (S':NS) (R J L:List bu),Z6 c.B f<=n->nv N f k S=some (v,S')->CY N S->neg S.at'<f->o6 c.t N L->Q9 h0 c S h R J L ->
 Wp ((aZ.at n).gP k (an c.x8) (an c.pT) (an c.x0) (an c.x4) (an c.rF) (an c.iY)) h λr h'=>r=v/\∃J' L',o6 c.t N L'/\Ext L L'/\Q9 h0 c S' h' R J' L'
def FR (mb:Nat)(x:ak)(ksl isl:Sl)(kl il:ε)(gk gi:Nat):List bu:=[.au mb [vi x.kind,.string x.text,.bool x.ord,aH ksl,aH isl] az,.sl ksl 1 av (kl.map vi) gk,.sl isl 1 av (il.map vi) gi]
theorem zD {M F R X:List bu}:(M++((F++R)++X)).Perm (F++(M++(R++X))):=by
 grind [List.append_assoc,List.perm_append_comm_assoc]
theorem af3 {s:Sl}{kl:ε}{g:Nat}{o:rL h s 1 av (kl.map vi) g}:s.len=kl.length:=by have:=o.1;simp at this;omega
theorem af4 {f:Nat}{k:Int}{S:NS}{v:Int}{S':NS}(h:nv N f k S=some (v,S')):∃w x,gt S.at' k=some w/\gt N k=some x:=by
 cases f with
 |zero=>cases h
 |succ f=>
  grind [nv]
theorem TD (d:Vd N root){f:Nat}{x:ak}(hx:x∈N){l:ε}(hl:∀a∈l,0<=a/\a<x.items.length){S S':NS}{ks is:ε}(o:CY N S)(hn:neg S.at'<f)(h:mO (nv N f) x l S=some ((ks,is),S')):CY N S'/\neg S'.at'<=neg S.at'/\is.length=l.length/\ks.length<=l.length:=by
 obtain⟨ks',is',S2,e,o2,n2,l1,l2,_⟩:=xy (n:=f-1) (F:=nv N f) (x:=x) (λk S o hn hk=>Gy d f k S o (by omega) hk) (d.map hx) (d.ix x hx) l S hl o (by omega)
 grind
theorem aem (d:Vd N root){c:NC}(hm:c.B<1073741824){f:Nat}(V:af2 h0 c N f){x:ak}(hx:x∈N){a:Addr}{ks0 is0:Sl}(nd:Cu h0 a x ks0 is0){mb be:Nat}{l:ε}(hl:∀a∈l,0<=a/\a<x.items.length)(hll:l.length<=c.B)(me:Int) :
  ∀(n i:Nat) (S S':NS) (ks is kl il:ε) (ksl isl:Sl) (gk gi:Nat) (h:af) (J L:List bu),Z6 c.B f+(l.length-i)+1<=n->i<=l.length->mO (nv N f) x (l.drop i) S=some ((ks,is),S')->CY N S->neg S.at'<f->kl.length<=i->il.length<=i->bu.au be (l.map vi) av∈L->o6 c.t N L ->
   Q9 h0 c S h (FR mb x ksl isl kl il gk gi++R) J L ->
   Wp ((aZ.at n).iI (an c.rF) (an c.iY) me (some a) (an mb) (arr be l.length) (l.length:Int) (i:Int)) h λ_ h'=>∃ksl isl gk gi J' L',o6 c.t N L'/\Ext L L'/\Q9 h0 c S' h' (FR mb x ksl isl (kl++ks) (il++is) gk gi++R) J' L':=by
 intro n
 induction n with
 |zero=>intro i S S' ks is kl il ksl isl gk gi h J L h1;omega
 |succ n ih=>
  intro i S S' ks is kl il ksl isl gk gi h J L h1 h2 hv ok hneg hkl hil hbe T ⟨O,hO,hRO,z⟩;show Wp (oZ (aZ.at n) n (an c.rF) (an c.iY) me (some a) (an mb) (arr be l.length) (l.length:Int) (i:Int)) h _;unfold oZ;by_cases hi:i<l.length
  .rw[AT (by simpa using hi)];obtain⟨u,hu⟩:=kW (l:=l) (v:=(i:Int)) (by omega) (by omega);obtain⟨u1,u2⟩:=hl u (aq hu);rw[zA hu] at hv;obtain⟨iu,hiu⟩:=kW (l:=x.items) u1 u2;have ei:nth x.items u=iu:=by unfold nth;rw[hiu];rfl
   refine z.rdM (abW _ (abW _ (abW _ hbe))) hu rfl ?_;refine bt ((nd.fr z.fr).KJ ?_);have call:∀(h:af) (k:Int) (S1:NS) (v:Int) (S2:NS) (ksl isl:Sl) (kl il:ε) (gk gi:Nat) (J L:List bu) (ads:Addr) (fv:ξ) (Q:Int->af->Prop) (γ:Type) (K:Int->M γ) (Q2:γ->af->Prop),ads.block=mb->fv=c.fn->nv N f k S1=some (v,S2)->CY N S1->neg S1.at'<f->o6 c.t N L ->
     Q9 h0 c S1 h (FR mb x ksl isl kl il gk gi++R) J L->(∀h' J' L',o6 c.t N L'->Ext L L'->Q9 h0 c S2 h' (FR mb x ksl isl kl il gk gi++R) J' L'->Wp (K v) h' Q2) ->
     Wp (sh (Ago.mY [some ads] (iA (aZ.at n) n fv k)) K) h Q2:=by
    intro h k S1 v S2 ksl isl kl il gk gi J L ads fv Q γ K Q2 ha hf hv ok hng T st q;subst hf;have lb:∀{S:NS} {h:af} {J L:List bu},Q9 h0 c S h (FR mb x ksl isl kl il gk gi++R) J L->LB h mb [vi x.kind,.string x.text,.bool x.ord,aH ksl,aH isl] az:=λ⟨O,_,_,z⟩=>by
     have:=(z.own (.au mb [vi x.kind,.string x.text,.bool x.ord,aH ksl,aH isl] az) (abW _ (ab3 _ (ab3 _ IS)))).1;exact this
    refine Gl (P:=λr h'=>r=v/\∃J' L',o6 c.t N L'/\Ext L L'/\Q9 h0 c S2 h' (FR mb x ksl isl kl il gk gi++R) J' L') (λb hb=>?_) ?_ λr h' hr=>?_
    .grind
    .unfold iA;rw[AT (by rfl),ah];refine kB (c:=((an c.x8,an c.pT,an c.x0,an c.x4,an c.rF,an c.iY):Addr×Addr×Addr×Addr×Addr×Addr)) rfl ?_;exact V n h k S1 v S2 _ J L (by omega) hv ok hng T st
    .obtain⟨rfl,J',L',T',E',st'⟩:=hr;exact q h' J' L' T' E' st'
   have J0:∀(h:af) (S1:NS) (kl:ε) (ksl:Sl) (gk:Nat) (J L:List bu) (b:Int) (S2:NS) (ks is:ε),nv N f iu S1=some (b,S2)->mO (nv N f) x (l.drop (i+1)) S2=some ((ks,is),S')->CY N S1->neg S1.at'<f->kl.length<=i+1->bu.au be (l.map vi) av∈L->o6 c.t N L ->
     Q9 h0 c S1 h (FR mb x ksl isl kl il gk gi++R) J L->Wp (gO (aZ.at n) n (an c.rF) (an c.iY) me (some a) (an mb) u (arr be l.length) (l.length:Int) (i:Int)) h λ_ h'=>∃ksl isl gk gi J' L',o6 c.t N L'/\Ext L L'/\Q9 h0 c S' h' (FR mb x ksl isl (kl++ks) (il++(b::is)) gk gi++R) J' L':=by
    intro h S1 kl ksl gk J L b S2 ks is hv1 hv2 ok hneg hkl hbe T st;unfold gO;obtain⟨O,hO,hRO,z⟩:=st;refine bt ?_;refine z.ET (o:=4) (l:=.sl) (x:=isl) (abW _ (ab3 _ (ab3 _ IS))) rfl rfl ?_;refine z.ET (o:=0) (l:=.raw) (x:=c.fn) (b:=c.rF) (cs:=[c.fn]) (e:=o9) (ab3 _ (by simp[ML])) rfl rfl ?_;refine (nd.fr z.fr).Bz ((nd.fr z.fr).items.ix u1 (aD hiu).2 λ_ _ c1=>c1.sy (l:=li) rfl rfl ?_);refine call h iu S1 b S2 ksl isl kl il gk gi J L _ _ (λ_ _=>True) _ _ _ rfl rfl hv1 ok hneg T ⟨O,hO,hRO,z⟩ λh' J' L' T' E' st'=>?_;obtain⟨O',hO',hRO',z'⟩:=st';have zf:=Z.perm z' zD;have ilen:isl.len=il.length:=by
     have o:rL h' isl 1 av (il.map vi) gi:=zf.get 2 rfl;have:=o.1;simp at this;omega
    refine Z.Px zf 2 rfl (by omega) rfl (by rw[ilen];unfold cF;omega) λs' h2 g' hs' z2 _=>?_;have z2:Z h0 h2 ([.au mb [vi x.kind,.string x.text,.bool x.ord,aH ksl,aH isl] az,.sl ksl 1 av (kl.map vi) gk,.sl s' 1 av (il.map vi++[vi b]) g']++(ML c S2 O'++(R++(J'++L')))):=z2;refine z2.st 0 (cs':=[vi x.kind,.string x.text,.bool x.ord,aH ksl,aH s']) λh3 z3=>?_;have z3:Z h0 h3 (FR mb x ksl s' kl (il++[b]) gk g'++(ML c S2 O'++(R++(J'++L')))):=by
     show Z h0 h3 (_::_::.sl s' 1 av ((il++[b]).map vi) g'::_);rw[afL];exact z3
    have hok:CY N S2/\neg S2.at'<=neg S1.at':=by
     obtain⟨v',S'',e,o,n',_⟩:=Gy d f iu S1 ok hneg ((d.ix x hx).2 iu (aq hiu));rw[hv1] at e;cases e;exact⟨o,n'⟩
    rw[vq (B:=c.B) (by omega) hm];have st3:Q9 h0 c S2 h3 (FR mb x ksl s' kl (il++[b]) gk g'++R) J' L':=⟨O',hO',hRO',Z.perm z3 zD.symm⟩;refine (ih (i+1) S2 S' ks is kl (il++[b]) ksl s' gk g' h3 J' L' (by omega) (by omega) hv2 hok.1 (by omega) hkl (by simp;omega) (E' _ _ hbe) T' st3).mono λ_ h4 hr=>?_;obtain⟨ksl,isl,gk,gi,J2,L2,T2,E2,st4⟩:=hr;refine⟨ksl,isl,gk,gi,J2,L2,T2,E'.trans E2,?_⟩;rw[acu] at st4;exact st4
   unfold mO at hv;by_cases hk:x.kind=10
   .rw[AT hk] at hv;rw[AT (by simpa using hk)];obtain⟨ku,hku⟩:=kW (l:=x.keys) u1 (by rw[d.map hx hk];exact u2);have ek:nth x.keys u=ku:=(by unfold nth;rw[hku];rfl);rw[ek,ei] at hv;cases e1:nv N f ku S with
    |none=>rw[e1] at hv;cases hv
    |some q1=>
    obtain⟨a1,S1⟩:=q1;rw[e1] at hv;simp only at hv;cases e2:nv N f iu S1 with
    |none=>rw[e2] at hv;cases hv
    |some q2=>
    obtain⟨b1,S2⟩:=q2;rw[e2] at hv;simp only at hv;cases e3:mO (nv N f) x (l.drop (i+1)) S2 with
    |none=>rw[e3] at hv;cases hv
    |some q3=>
    obtain⟨⟨ks2,is2⟩,S3⟩:=q3;rw[e3] at hv;cases hv;have hok:CY N S1/\neg S1.at'<=neg S.at':=by
     obtain⟨v',S'',e,o,n',_⟩:=Gy d f ku S ok hneg ((d.ix x hx).1 ku (aq hku));rw[e1] at e;cases e;exact⟨o,n'⟩
    refine bt ?_;refine z.ET (o:=3) (l:=.sl) (x:=ksl) (abW _ (ab3 _ (ab3 _ IS))) rfl rfl ?_;refine z.ET (o:=0) (l:=.raw) (x:=c.fn) (b:=c.rF) (cs:=[c.fn]) (e:=o9) (ab3 _ (by simp[ML])) rfl rfl ?_;refine (nd.fr z.fr).G5 ((nd.fr z.fr).keys.ix u1 (aD hku).2 λ_ _ c1=>c1.sy (l:=li) rfl rfl ?_);refine call h ku S a1 S1 ksl isl kl il gk gi J L _ _ (λ_ _=>True) _ _ _ rfl rfl e1 ok hneg T ⟨O,hO,hRO,z⟩ λh' J' L' T' E' st'=>?_;obtain⟨O',hO',hRO',z'⟩:=st';have zf:=Z.perm z' zD;have klen:ksl.len=kl.length:=by
     have o:rL h' ksl 1 av (kl.map vi) gk:=zf.get 1 rfl;have:=o.1;simp at this;omega
    refine Z.Px zf 1 rfl (by omega) rfl (by rw[klen];unfold cF;omega) λs' h2 g' hs' z2 _=>?_;have z2:Z h0 h2 ([.au mb [vi x.kind,.string x.text,.bool x.ord,aH ksl,aH isl] az,.sl s' 1 av (kl.map vi++[vi a1]) g',.sl isl 1 av (il.map vi) gi]++(ML c S1 O'++(R++(J'++L')))):=z2;refine z2.st 0 (cs':=[vi x.kind,.string x.text,.bool x.ord,aH s',aH isl]) λh3 z3=>?_;have z3:Z h0 h3 (FR mb x s' isl (kl++[a1]) il g' gi++(ML c S1 O'++(R++(J'++L')))):=by
     show Z h0 h3 (_::.sl s' 1 av ((kl++[a1]).map vi) g'::_);rw[afL];exact z3
    refine (J0 h3 S1 (kl++[a1]) s' g' J' L' b1 S2 ks2 is2 e2 e3 hok.1 (by omega) (by simp;omega) (E' _ _ hbe) T' ⟨O',hO',hRO',Z.perm z3 zD.symm⟩).mono λ_ h4 hr=>?_;obtain⟨ksl,isl,gk,gi,J2,L2,T2,E2,st4⟩:=hr;refine⟨ksl,isl,gk,gi,J2,L2,T2,E'.trans E2,?_⟩;rw[acu] at st4;exact st4
   .rw[By hk] at hv;rw[By (by simpa using hk)];rw[ei] at hv;cases e2:nv N f iu S with
    |none=>rw[e2] at hv;cases hv
    |some q2=>
    obtain⟨b1,S2⟩:=q2;rw[e2] at hv;simp only at hv;cases e3:mO (nv N f) x (l.drop (i+1)) S2 with
    |none=>rw[e3] at hv;cases hv
    |some q3=>
    obtain⟨⟨ks2,is2⟩,S3⟩:=q3;rw[e3] at hv;cases hv;exact J0 h S kl ksl gk J L b1 S2 ks is2 e2 e3 ok hneg (by omega) hbe T ⟨O,hO,hRO,z⟩
  .rw[By (by simpa using hi)];rw[abV (by omega)] at hv;unfold mO at hv;cases hv;refine ag.2 ⟨ksl,isl,gk,gi,J,L,T,.refl,?_⟩;rw[aeF,aeF];exact⟨O,hO,hRO,z⟩
end Go.Sh
namespace Go.Sh
open Go Go.Ago Go.Proofs
variable {α β:Type}{h h' h0:af}{L R J:List bu}{N:List ak}{root:Int}{B:Nat}{Q:β->af->Prop}
theorem Xm (B f:Nat):Z6 B (f+1)=Z6 B f+(B+5):=by unfold Z6;rw[aen];omega
theorem Pz {O:List aY}{i:Nat}{r:aY}:(O.set i r).map aY.v=(O.map aY.v).set i r.v:=by rw[aho]
theorem Xn (d:Vd N root)(hB:Bd N B)(ht:∀x∈N,x.text.size<=65536)(hsm:∀x∈N,x.kind=10->x.items.length<50){c:NC}(G:kX h0 c.t.s N)(hm:c.m=N.length)(hBm:∀x∈N,x.items.length<=c.B)(hBc:Bd N c.B):∀f,f<=N.length+1->af2 h0 c N f:=by
 intro f
 induction f with
 |zero=>intro _ n h k S v S' R J L _ hv;cases hv
 |succ f ih=>
  intro hf n h k S v S' R J L hn hv ok hng T st;have V:=ih (by omega);rw[Xm] at hn;obtain⟨w,x,hw,hx⟩:=af4 hv;have hkr:IR N.length k:=mT hx;have hBB:=hBc.2.1;obtain⟨n,rfl⟩:∃n',n=n'+1:=⟨n-1,by omega⟩;show Wp (r7 (aZ.at n) n k (an c.x8) (an c.pT) (an c.x0) (an c.x4) (an c.rF) (an c.iY)) h _;unfold r7;obtain⟨O,hO,hRO,z⟩:=st;have lo:O.length=N.length:=by have:=agw List.length hO;rw[ac3,ok.lo] at this;exact this
  have mML:∀{o:bu} {S:NS} {O:List aY},o∈ML c S O->o∈ML c S O++(R++(J++L)):=λh=>ab3 _ h;refine z.ld 3 (o:=0) (l:=.sl) (x:=arr c.ab c.m) ?_;refine z.Hn 1 hw (by rw[ok.la,hm]) ?_;unfold nv at hv;rw[hw,hx] at hv;simp only at hv;by_cases h0':0<=w
  .rw[AT h0'] at hv;cases hv;rw[AT (by simpa using h0')];refine z.ld 3 (o:=0) (l:=.sl) (x:=arr c.ab c.m) ?_;refine z.Hn 1 hw (by rw[ok.la,hm]) (ag.2 ⟨rfl,J,L,T,.refl,O,hO,hRO,z⟩)
  .rw[By h0'] at hv;rw[By (by simpa using h0')];cases hlp:mO (nv N f) x (eH N k) ⟨S.at'.set k.toNat S.iX,S.iX+1,S.out⟩ with
   |none=>rw[hlp] at hv;cases hv
   |some q=>
   obtain⟨⟨ks,is⟩,S2⟩:=q;rw[hlp] at hv;cases hv;have hlt:=ok.le w (aq hw);have hcl:=ok.cle;have hn':=Ku (aD hw).2 (w:=(S.iX:Int)) (by omega) (by omega);have hp:=neg_pos (aD hw).2 (by omega);have hsum:=ok.sum;refine z.ld 0 (o:=0) (x:=(S.iX:Int)) ?_;refine z.ld 3 (o:=0) (l:=.sl) (x:=arr c.ab c.m) ?_;refine G4 (b:=c.ab) (n:=c.m) hkr.1 (by rw[hm];exact hkr.2) ?_;rw[ac0];refine z.As 1 (xs:=S.at') (enc:=vi) (v:=(S.iX:Int)) (by rw[ok.la];have:=hkr.1;have:=hkr.2;omega) λh1 z=>?_;refine z.ld 0 (o:=0) (x:=(S.iX:Int)) ?_;rw[vq (B:=c.B) (by have:=hBc.1;omega) hBB];refine z.st 0 (cs':=[vi ((S.iX+1:Nat):Int)]) λh2 z=>?_;have z:Z h0 h2 (ML c ⟨S.at'.set k.toNat S.iX,S.iX+1,S.out⟩ O++(R++(J++L))):=z;refine z.ld 4 (o:=0) (l:=.sl) (x:=c.t.s) ?_;refine G.NW z (aD hx).1 (aD hx).2 λa ks0 is0 nd=>?_;refine z.eC (n:=15) [13] (by decide) (by simp) λkb h3 z=>?_;refine bt (bt (bt ?_));have ndz:=nd.fr z.fr;refine ndz.KJ (ndz.GJ (ndz.ldO ?_));refine z.newAt 0 (k:=kb+13) λh4 z=>?_;refine z.st 0 (cs':=[vi x.kind,.string x.text,.bool x.ord,aT,aT]) λh5 z=>?_;have z:Z h0 h5 (.au (kb+13) [vi x.kind,.string x.text,.bool x.ord,aT,aT] az::(ML c ⟨S.at'.set k.toNat S.iX,S.iX+1,S.out⟩ O++(R++(J++L)))):=z;refine z.ld 6 (o:=0) (l:=.ptr) (x:=some (an c.t.tb)) ?_;have z1:Z h0 h5 ((.au (kb+13) [vi x.kind,.string x.text,.bool x.ord,aT,aT] az::(ML c ⟨S.at'.set k.toNat S.iX,S.iX+1,S.out⟩ O++(R++J)))++L):=by simpa using z
   rw[ah];refine (Gx G d hBc ht hsm hx n h5 _ L (by unfold Z6 at hn;omega) T z1).mono λr h6 hr=>?_;obtain⟨be,L1,rfl,hbe,T1,E1,z2⟩:=hr;have z2:Z h0 h6 (.au (kb+13) [vi x.kind,.string x.text,.bool x.ord,aT,aT] az::(ML c ⟨S.at'.set k.toNat S.iX,S.iX+1,S.out⟩ O++(R++(J++L1)))):=by simpa using z2
   have zn:Z h0 h6 (FR (kb+13) x nP nP [] [] 0 0++(ML c ⟨S.at'.set k.toNat S.iX,S.iX+1,S.out⟩ O++(R++(J++L1)))):=by
    have q1:=Z.add z2.drop (Fr.refl z2.wf) (o:=.sl nP 1 av [] 0) rL.nil (.inl rfl);have q2:=Z.add z2 (Fr.refl z2.wf) (o:=.sl nP 1 av [] 0) rL.nil (.inl rfl);have q3:=Z.add q2 (Fr.refl z2.wf) (o:=.sl nP 1 av [] 0) rL.nil (.inl rfl);exact Z.td (pre:=[_,_,_]) q3 [2,0,1] (by simp only[aas,acW];decide)
   have o1:CY N ⟨S.at'.set k.toNat S.iX,S.iX+1,S.out⟩:=⟨by rw[aeN];exact ok.la,ok.lo,λw hw=>by
    rcases vw hw with hw|rfl
    .have:=ok.le w hw;show w<((S.iX+1:Nat):Int);omega
    grind,by simp only;omega,ok.fr⟩
   have hord:eH N k=tK (mV N) x:=by unfold eH;rw[hx]
   have hol:∀a∈eH N k,0<=a/\a<x.items.length:=λa ha=>by rw[hord] at ha;exact kL ha
   have hlen:=qW hx;have st0:Q9 h0 c ⟨S.at'.set k.toNat S.iX,S.iX+1,S.out⟩ h6 (FR (kb+13) x nP nP [] [] 0 0++R) J L1:=⟨O,hO,hRO,Z.perm zn zD.symm⟩;have hfn:neg (S.at'.set k.toNat S.iX)<f:=by omega
   .rw[<-hlen,ah];refine (aem (R:=R) d (by omega) V (aq hx) nd hol (by rw[hlen];exact hBm x (aq hx)) (S.iX:Int) n 0 _ S2 ks is [] [] nP nP 0 0 h6 J L1 (by rw[hlen];have:=hBm x (aq hx);omega) (by omega) (by rw[afj];exact hlp) o1 hfn (by simp) (by simp) hbe T1 st0).mono λ_ h7 hr=>?_;obtain⟨ksl,isl,gk,gi,J2,L2,T2,E2,O2,hO2,hRO2,z7⟩:=hr;rw[aeQ,aeQ] at z7;obtain⟨o2,n2,l1,_⟩:=TD d (aq hx) hol o1 hfn hlp;have lo2:O2.length=N.length:=(by have:=agw List.length hO2;rw[ac3,o2.lo] at this;exact this);have zf:=Z.perm z7 zD;refine zf.ET (o:=0) (l:=.sl) (x:=arr c.nb c.m) (b:=c.iY) (cs:=[aH (arr c.nb c.m),vi 0]) (e:=aj) (abW _ (ab3 _ (by simp[ML]))) rfl rfl ?_;refine zf.fC 0 (x:=((x.kind,x.text,x.ord,ksl,isl):bS [li,.str,.bool,.sl,.sl])) ?_;refine G4 (b:=c.nb) (n:=c.m) (by omega) (by omega) ?_;rw[IT]
    let r:aY:=⟨x.kind,x.text,x.ord,ksl,ks,gk,isl,is,gi⟩
    obtain⟨y,hy⟩:=fY (l:=O2) (i:=S.iX) (by omega);have hsp:bf (O2.flatMap aY.enc) (S.iX*5) [vi x.kind,.string x.text,.bool x.ord,aH ksl,aH isl]=(O2.set S.iX r).flatMap aY.enc:=by
     have:=Dv (enc:=aY.enc) (sz:=5) aY.lh (x':=r) hy (o:=0) (vs:=[vi x.kind,.string x.text,.bool x.ord,aH ksl,aH isl]) (by simp) (by unfold bf aY.enc;rfl);rw[agF] at this;exact this
    have hfl:(O2.flatMap aY.enc).length=N.length*5:=(by rw[ie aY.lh,lo2]);refine zf.st 5 (cs':=(O2.set S.iX r).flatMap aY.enc) (λh8 z8=>ag.2 ?_) rfl hsp (by rw[hfl];simp;omega) rfl;have z8:Z h0 h8 (FR (kb+13) x ksl isl ks is gk gi++(ML c ⟨S2.at',S2.iX,S2.out.set S.iX r.v⟩ (O2.set S.iX r)++(R++(J2++L2)))):=z8;refine⟨rfl,.sl ksl 1 av (ks.map vi) gk::.sl isl 1 av (is.map vi) gi::J2,L2,T2,E1.trans E2,O2.set S.iX r,?_,λr' hr'=>?_,?_⟩
    .rw[Pz,hO2];rfl
    .rcases vw hr' with h9|rfl
     .exact (hRO2 r' h9).mono λo ho=>BY _ (BY _ ho)
     .exact⟨.inr IS,.inr (BY _ IS)⟩
    .have z9:=Z.drop (L:=.sl ksl 1 av (ks.map vi) gk::.sl isl 1 av (is.map vi) gi::(ML c ⟨S2.at',S2.iX,S2.out.set S.iX r.v⟩ (O2.set S.iX r)++(R++(J2++L2)))) z8;have pm:(.sl ksl 1 av (ks.map vi) gk::.sl isl 1 av (is.map vi) gi::(ML c ⟨S2.at',S2.iX,S2.out.set S.iX r.v⟩ (O2.set S.iX r)++(R++(J2++L2)))).Perm (ML c ⟨S2.at',S2.iX,S2.out.set S.iX r.v⟩ (O2.set S.iX r)++(R++((.sl ksl 1 av (ks.map vi) gk::.sl isl 1 av (is.map vi) gi::J2)++L2))):=by
      have p1:=agW [bu.sl ksl 1 av (ks.map vi) gk,.sl isl 1 av (is.map vi) gi] (ML c ⟨S2.at',S2.iX,S2.out.set S.iX r.v⟩ (O2.set S.iX r)) (R++(J2++L2));have p2:=agW [bu.sl ksl 1 av (ks.map vi) gk,.sl isl 1 av (is.map vi) gi] R (J2++L2);exact p1.trans (ahq _ p2)
     exact Z.perm z9 pm
theorem Q9.read {c:NC}{S:NS}(st:Q9 h0 c S h R J L)(hm:c.m=S.out.length):kX h (arr c.nb c.m) S.out:=by
 obtain⟨O,hO,hRO,z⟩:=st;have l:LB h c.nb (O.flatMap aY.enc) az:=z.get 2 rfl;have lo:O.length=c.m:=by rw[hm,<-hO,ac3]
 refine⟨O,c.nb+1,hO,l.B5 (by rw[ie aY.lh,lo]),λr hr=>?_⟩;obtain⟨h1,h2⟩:=hRO r hr;have one:∀{s:Sl} {kl:ε} {g:Nat},(s.len=0/\kl=[])\/bu.sl s 1 av (kl.map vi) g∈J->IL h s kl:=λ{s kl g} hh=>by
  rcases hh with⟨e1,e2⟩|hm
  .subst e2;exact⟨0,rk.nil e1⟩
  .have o:rL h s 1 av (kl.map vi) g:=(z.own _ (abW _ (abW _ (ab3 _ hm)))).1;exact⟨g,o.B5⟩
 exact⟨one h1,one h2⟩
theorem Xo {m b:Nat}(hm:m<1073741824){x8:Nat}(a0 a1 a2:Addr) :
  ∀(n i:Nat) (h:af) (L:List bu),m-i<n->i<=m->Z h0 h (.au x8 [aH (arr b m)] aQ::.au b ((List.replicate i (-1)++List.replicate (m-i) 0).map vi) av::L) ->
   Wp (ko n a0 a1 a2 (an x8) (m:Int) (i:Int)) h λ_ h'=>Z h0 h' (.au x8 [aH (arr b m)] aQ::.au b ((List.replicate m (-1:Int)).map vi) av::L):=by
 intro n
 induction n with
 |zero=>intro i h L h1;omega
 |succ n ih=>
  intro i h L h1 h2 z;rw[yV];unfold qP;by_cases hi:i<m
  .rw[AT (by simp;omega)];refine z.ld 0 (o:=0) (l:=.sl) (x:=arr b m) ?_;refine G4 (b:=b) (n:=m) (by omega) (by omega) ?_;rw[IT,ac0];refine z.As 1 (xs:=List.replicate i (-1)++List.replicate (m-i) 0) (enc:=vi) (v:=(-1:Int)) (by simp;omega) (λh3 z=>?_);have hf:(List.replicate i (-1:Int)++List.replicate (m-i) 0).set i (-1)=List.replicate (i+1) (-1)++List.replicate (m-(i+1)) 0:=by
    rw[agz _ _ (by simp),aeD,agk,show m-i=(m-(i+1))+1 by omega,agc,afn,ahv (n:=i),acu];rfl
   rw[hf] at z;rw[vq h2 (by omega)];exact ih (i+1) h3 L (by omega) (by omega) z
  .rw[By (by simp;omega),ag];have:i=m:=by omega
   subst this;simpa using z
theorem of_wp {s:Sl}{root:Int}(z:Z h0 h L)(hb:s.len<=cF){n:Nat} :
  Wp (yR n (s,root)) h λr h'=>∃x5 b4,r=some (an x5)/\Z h0 h' (.au x5 [aH s,vi root,aH (arr b4 s.len)] dn::.au b4 (List.replicate s.len aT) aQ::L):=by
 unfold yR;refine z.new λx0 h1 z _=>z.eC [4,6] (by decide) (by decide) λnb h2 z=>?_;refine z.fC 2 (ls:=[.sl,li]) (x:=(s,root)) ?_;refine z.ld 2 (o:=0) (l:=.sl) (x:=s) ?_;refine z.YP 0 (by omega) (by omega) λh3 z=>?_;refine z.newAt 1 (cs:=[aH s,vi root,aH (arr (nb+4) s.len)]) λh4 z=>?_;rw[ag];refine⟨nb+6,nb+4,rfl,?_⟩;rw[IT] at z;rw[Mh] at z;have z:=Z.td (pre:=[_,_,_]) z [1,0,2] (by simp only[aas,acW];decide);exact z.sub (List.Sublist.cons₂ _ (List.Sublist.cons₂ _ (ag9 _ _)))
theorem Rb {t:Pv}{L:List bu}(h1:bu.au t.tb [aH t.s,vi t.root,aH (arr t.sb N.length)] dn∈L)(h2:bu.au t.sb (List.replicate N.length aT) aQ∈L):o6 t N L:=by
 refine⟨List.replicate N.length none,by simp,h1,by rw[agy];exact h2,λk b l hg=>?_⟩;have:=aep (aq hg);cases this
def ro0:aY:=⟨0,ofBytes [],false,nP,[],0,nP,[],0⟩
theorem Xp (m:Nat):(List.replicate m ro0).flatMap aY.enc=(List.replicate m [vi 0,Value.string (ofBytes []),Value.bool false,aT,aT]).flatten:=by
 rw[List.flatMap_def,agy];rfl
structure eK (N:List ak):Prop where
 len:N.length<=40
 map:∀x∈N,x.items.length<=80/\x.keys.length<=80
 txt:∀x∈N,x.text.size<=101
theorem eK.bd (f:eK N):Bd N 80:=⟨by have:=f.len;omega,by omega,λx hx=>⟨(f.map x hx).2,(f.map x hx).1⟩⟩
theorem eK.ht (f:eK N):∀x∈N,x.text.size<=65536:=λx hx=>by have:=f.txt x hx;omega
theorem eK.sm (f:eK N)(d:Vd N root):∀x∈N,x.kind=10->x.items.length<50:=λx hx hk=>by
 have h1:=d.adY hx;have h2:=d.map hx hk;have:=f.len;omega
end Go.Sh
namespace Go.Sh
open Go Go.Ago Go.Proofs
variable {α β:Type}{h h' h0:af}{L R J:List bu}{N:List ak}{root:Int}{B:Nat}{Q:β->af->Prop}
def fuN:Nat:=Z6 80 60+100
def OG (nb:Nat)(O:List aY)(J:List bu):List bu:=.au nb (O.flatMap aY.enc) az::J
theorem OG.read {nb:Nat}{O:List aY}{J X:List bu}(z:Z h0 h X)(hs:∀o∈OG nb O J,o∈X)(hRO:∀r∈O,RO r J):kX h (arr nb O.length) (O.map aY.v):=by
 have l:LB h nb (O.flatMap aY.enc) az:=(z.own _ (hs _ IS)).1;refine⟨O,nb+1,rfl,l.B5 (by rw[ie aY.lh]),λr hr=>?_⟩;obtain⟨h1,h2⟩:=hRO r hr;have one:∀{s:Sl} {kl:ε} {g:Nat},(s.len=0/\kl=[])\/bu.sl s 1 av (kl.map vi) g∈J->IL h s kl:=λ{s kl g} hh=>by
  rcases hh with⟨e1,e2⟩|hm
  .subst e2;exact⟨0,rk.nil e1⟩
  .have o:rL h s 1 av (kl.map vi) g:=(z.own _ (hs _ (BY _ hm))).1;exact⟨g,o.B5⟩
 exact⟨one h1,one h2⟩
def Made (h0 h:af)(s:Sl)(N':List ak)(L:List bu):Prop:=∃nb O J,s=arr nb O.length/\O.map aY.v=N'/\(∀r∈O,RO r J)/\Z h0 h (OG nb O J++L)
theorem Made.z {s:Sl}{N':List ak}{L:List bu}(m:Made h0 h s N' L):Z h0 h L:=by
 obtain⟨nb,O,J,_,_,_,z⟩:=m;exact z.sub (agB _ _)
theorem Made.read {s:Sl}{N':List ak}{L:List bu}(m:Made h0 h s N' L):kX h s N':=by
 obtain⟨nb,O,J,rfl,rfl,hr,z⟩:=m;exact OG.read z (λo ho=>ab3 _ ho) hr
theorem Made.sub {s:Sl}{N':List ak}{L L':List bu}(m:Made h0 h s N' L)(hs:L'.Sublist L):Made h0 h s N' L':=by
 obtain⟨nb,O,J,e1,e2,hr,z⟩:=m;exact⟨nb,O,J,e1,e2,hr,z.sub ((afe _).append hs)⟩
theorem Made.on {s:Sl}{N':List ak}{L:List bu}(m:Made h0 h s N' L){γ:Type}{M:M γ}{Q:γ->af->Prop}(q:∀X,Z h0 h (L++X)->(∀h' L',Z h0 h' (L'++X)->Made h0 h' s N' L')->Wp M h Q):Wp M h Q:=by
 obtain⟨nb,O,J,e1,e2,hr,z⟩:=m;exact q (OG nb O J) (z.perm afQ) λh' L' z'=>⟨nb,O,J,e1,e2,hr,z'.perm afQ⟩
theorem TE {s:Sl}(z:Z h0 h L)(G:kX h0 s N)(f:eK N)(d:Vd N root){n:Nat}(hn:fuN<=n) :
  Wp (ud n (s,root)) h λr h'=>r.2=0/\Made h0 h' r.1 (jN N root) L:=by
 have hl:=f.len;have hfu:Z6 80 (N.length+1)<=n:=by
  grind [Z6,Nat.mul_le_mul_right,fuN]
 have hn100:100<=n:=by unfold fuN at hn;omega
 unfold ud;refine z.new λx0 h1 z _=>z.new λx1 h2 z _=>?_;refine z.fC 1 (ls:=[.sl,li]) (x:=(s,root)) ?_;have hsl:s.len=N.length:=G.len;rw[ah];refine (of_wp (s:=s) (root:=root) z (by rw[hsl];unfold cF;omega)).mono λx3 h3 hx=>?_;obtain⟨tb,sb,rfl,z⟩:=hx;rw[hsl] at z;refine z.new λx4 h4 z _=>z.st 0 (cs':=[Value.pointer (some (an tb))]) λh5 z=>?_;refine z.ld 4 (o:=0) (l:=.sl) (x:=s) ?_;rw[hsl];refine z.Mc (by omega) (by unfold cF;omega) λab h6 z _=>?_;rw[IT] at z⊢;rw[oD (enc:=vi) (x:=(0:Int))] at z;refine z.new λx8 h7 z _=>z.st 0 (cs':=[aH (arr ab N.length)]) λh8 z=>?_;refine z.ld 0 (o:=0) (l:=.sl) (x:=arr ab N.length) ?_;rw[ah];have z0:Z h0 h8 (.au x8 [aH (arr ab N.length)] aQ::.au ab ((List.replicate 0 (-1)++List.replicate (N.length-0) 0).map vi) av::.au x4 [Value.pointer (some (an tb))] bJ::.au tb [aH s,vi root,aH (arr sb N.length)] dn::.au sb (List.replicate N.length aT) aQ::.au x1 [aT,vi 0] aj::.au x0 [aH s,vi root] aj::L):=by simpa using z
 refine (Xo (by omega) (an x0) (an x1) (an x4) n 0 h8 _ (by omega) (by omega) z0).mono λ_ h9 z=>?_;refine z.ld 6 (o:=0) (l:=.sl) (x:=s) ?_;rw[hsl];refine z.Mc (by omega) (by unfold cF;omega) λnb h10 z _=>?_;rw[IT] at z⊢;rw[<-Xp] at z;refine z.new λiY h11 z _=>z.st 0 (cs':=[aH (arr nb N.length),vi 0]) λh12 z=>?_;refine z.new λpT h13 z _=>z.st 0 (cs':=[vi 0]) λh14 z=>?_;refine z.new λrF h15 z _=>?_
 let c:NC:=⟨ab,x8,pT,x0,x4,rF,nb,iY,N.length,⟨tb,sb,s,root⟩,80⟩
 refine z.st 0 (cs':=[c.fn]) λh16 z=>?_;have z:Z h0 h16 ([.au rF [c.fn] o9,.au pT [vi 0] av,.au iY [aH (arr nb N.length),vi 0] aj,.au nb ((List.replicate N.length ro0).flatMap aY.enc) az,.au x8 [aH (arr ab N.length)] aQ,.au ab ((List.replicate N.length (-1)).map vi) av,
  .au x4 [Value.pointer (some (an tb))] bJ,.au tb [aH s,vi root,aH (arr sb N.length)] dn,.au sb (List.replicate N.length aT) aQ,.au x1 [aT,vi 0] aj,.au x0 [aH s,vi root] aj]++L):=z
 have z:=Z.td (pre:=[_,_,_,_,_,_,_,_,_,_,_]) z [1,5,3,4,10,6,0,2,9,7,8] (by simp only[aas,acW];decide);have z:Z h0 h16 (ML c (Q8 N.length) (List.replicate N.length ro0)++([.au x1 [aT,vi 0] aj]++([.au tb [aH s,vi root,aH (arr sb N.length)] dn,.au sb (List.replicate N.length aT) aQ]++L))):=z;have z:Z h0 h16 (ML c (Q8 N.length) (List.replicate N.length ro0)++((.au x1 [aT,vi 0] aj::L)++([]++[.au tb [aH s,vi root,aH (arr sb N.length)] dn,.au sb (List.replicate N.length aT) aQ]))):=z.perm (ahq _ (List.Perm.cons _ (show ([bu.au tb [aH s,vi root,aH (arr sb N.length)] dn,bu.au sb (List.replicate N.length aT) aQ]++L).Perm (L++[bu.au tb [aH s,vi root,aH (arr sb N.length)] dn,bu.au sb (List.replicate N.length aT) aQ]) from afQ)));obtain⟨v,S,e,en,o,hv⟩:=EV d;refine z.ld 6 (o:=0) (l:=.raw) (x:=c.fn) ?_;refine z.ld 4 (o:=1) (x:=root) ?_;unfold r8;rw[AT (by rfl),ah,ah];refine kB (c:=((an c.x8,an c.pT,an c.x0,an c.x4,an c.rF,an c.iY):Addr×Addr×Addr×Addr×Addr×Addr)) rfl ?_;have yb:=Xn (c:=c) (h0:=h0) d f.bd f.ht (f.sm d) G rfl (λx hx=>(f.map x hx).1) f.bd (N.length+1) (aao _);refine (yb n h16 root (Q8 N.length) v S _ [] _ hfu e Py (by show neg (List.replicate _ _)<_;rw[EU];omega) (Rb IS (BY _ IS)) ⟨List.replicate N.length ro0,by rw[agy];rfl,λr hr=>by
   have:=aep hr;subst this;exact⟨.inl ⟨rfl,rfl⟩,.inl ⟨rfl,rfl⟩⟩,z⟩).mono λr h17 hr=>?_
 obtain⟨rfl,J',L',_,_,O',hO',hRO',z⟩:=hr;refine z.fC 7 (x:=((arr nb N.length,0):bS [.sl,li])) ?_;refine z.st 8 (cs':=[aH (arr nb N.length),vi 0]) λh18 z=>?_;refine z.fC 8 (x:=((arr nb N.length,0):bS [.sl,li])) (ag.2 ⟨rfl,?_⟩);have z:Z h0 h18 (ML c S O'++((.au x1 [aH (arr nb N.length),vi 0] aj::L)++(J'++L'))):=z;have lo:O'.length=N.length:=by have:=agw List.length hO';rw[ac3,o.lo] at this;exact this
 refine⟨nb,O',J',by rw[lo],by rw[hO',en],hRO',?_⟩;have hsub:(.au nb (O'.flatMap aY.enc) az::(L++J')).Sublist (ML c S O'++((.au x1 [aH (arr nb N.length),vi 0] aj::L)++(J'++L'))):=by
  refine ahU (l₁:=[_]) ?_ ?_
  .exact List.Sublist.cons _ (List.Sublist.cons _ (List.Sublist.cons_cons _ (List.nil_sublist _)))
  .exact List.Sublist.cons _ ((afe L).append (List.sublist_append_left _ _))
 exact (z.sub hsub).perm (List.Perm.cons _ afQ)
theorem CZ {s:Sl}(z:Z h0 h L)(G:kX h0 s N)(f:eK N){k:Nat}(hk:gK N.length 80<=k){r0:Int}(hc:mM k N root=some r0){n:Nat}(hn:fuN<=n)(hn2:k+66000<n) :
  Wp (qQ n (s,root)) h λr h'=>if r0=0 then r.2=0/\r.1.2=0/\Made h0 h' r.1.1 (jN N root) L else r.2=3/\Z h0 h' L:=by
 unfold qQ;refine z.new λx0 h1 z _=>z.new λx1 h2 z _=>?_;refine z.fC 1 (ls:=[.sl,li]) (x:=(s,root)) ?_;rw[ah];refine (uZ z G f.bd f.ht (k:=k) (by omega) hc).mono λy h3 hy=>?_;obtain⟨rfl,z⟩:=hy;by_cases h0':y=0
 .subst h0';rw[By (by simp)];simp only[AT];have d:Vd N root:=uq f.bd.2.2 f.bd.1 (by omega) hk hc;refine z.fC 1 (ls:=[.sl,li]) (x:=(s,root)) ?_;rw[ah];refine (TE z G f d hn).mono λr h4 hr=>?_;obtain⟨r2,m⟩:=hr;obtain⟨out,r2'⟩:=r;simp only at r2 m;subst r2;refine m.on λX z back=>?_;refine z.st 0 (cs':=[aH out,vi 0]) λh5 z=>?_;refine z.fC 0 (ls:=[.sl,li]) (x:=(out,0)) (ag.2 ⟨rfl,rfl,?_⟩);exact (back h5 (.au x1 [aH out,vi 0] aj::.au x0 [aH s,vi root] aj::L) z).sub (List.Sublist.cons _ (List.Sublist.cons _ (afe _)))
 .simp only[By h0'];rw[AT (by simpa using h0')];refine z.st 0 (cs':=[aT,vi 0]) λh4 z=>?_;refine z.fC 0 (ls:=[.sl,li]) (x:=(nP,0)) (ag.2 ⟨rfl,z.drop.drop⟩)
end Go.Sh
