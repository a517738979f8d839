
import Derived.Test.YtdbjhobkhjneeaaGreatDoorPae
import Derived.Test.YtdbjhobkhjneeaaGreatDoorPaf
import Derived.Test.YtdbjhobkhjneeaaGreatDoorPag
set_option linter.all false
namespace Go.Sh
open Go Go.Ago Go.Proofs
variable {N:List al}{root:Int}{B:Nat}
def nth (l:ε)(a:Int):Int:=(gt l a).getD 0
def iota (m:Nat):ε:=(List.range m).map (λi:Nat=>(i:Int))
theorem lG m:(iota m).length=m:=by simp[iota]
theorem mO {m i}(hi:i<m):(iota m)[i]?=some (i:Int):=by simp[iota,hi]
theorem iA m:Good m (iota m):=⟨lG m,λv hv=>by
 grind [iota]⟩
def Rt (m:Nat)(cv:Int->Int->Int)(a b:Int):Int:=if 0<=a/\a<m/\0<=b/\b<m then cv a b else 0
noncomputable def Tu (cv:Int->Int->Int)(m:Nat):ε:=if h:m<50 then (Mq cv h (iA m)).choose else iota m
noncomputable def Gb (cv:Int->Int->Int)(m:Nat):ε:=Tu (Rt m cv) m
theorem yA cv m:(Gb cv m).Perm (iota m):=by
 grind [Gb,Tu]
def ajT {cv}{c:Cx}{P}{h}{n}(hm:c.m<50)(ok:c.OK (Rt c.m cv))(hn:c.k+600<=n)(st:c.St P h (iota c.m)):Wp ((cl n).dS (arr c.b c.m) c.x) h λ_ h'=>c.St P h' (Gb cv c.m):=by
 unfold Gb Tu;rw[dif_pos hm];exact (Mq (Rt c.m cv) hm (iA c.m)).choose_spec.2 c P h n rfl ok hn st
theorem WB {cv cv'}{m:Nat}(h:∀a b:Int,0<=a->a<m->0<=b->b<m->cv a b=cv' a b):Gb cv m=Gb cv' m:=by
 have:Rt m cv=Rt m cv':=by
  funext a b;grind [Rt]
 grind [Gb]
noncomputable def j5 (cv:Int->Int->Int)(x:al):ε:=if x.kind=10/\x.ord=false then Gb (λa b=>cv (nth x.keys a) (nth x.keys b)) x.items.length else iota x.items.length
theorem uk cv x:(j5 cv x).Perm (iota x.items.length):=by
 grind [j5,yA]
theorem yB cv x:(j5 cv x).length=x.items.length:=by rw[(uk cv x).length_eq,lG]
def eQ {cv}{x}{a}(ha:a∈j5 cv x):0<=a/\a<x.items.length:=(iA _).2 a ((uk cv x).mem_iff.1 ha)
def Bn (cv:Int->Int->Int)(x y:al):ε->ε->Option Int
 |a::p,b::q=>if x.kind=10/\cv (nth x.keys a) (nth y.keys b)≠0 then some (cv (nth x.keys a) (nth y.keys b)) else if cv (nth x.items a) (nth y.items b)≠0 then some (cv (nth x.items a) (nth y.items b)) else Bn cv x y p q
 |_,_=>none
noncomputable def Ev (cv:Int->Int->Int)(x y:al):Int:=
 if x.kind<y.kind then -1 else if y.kind<x.kind then 1 else if x.ord≠y.ord then (if y.ord then -1 else 1) else if vN x.kind x.text y.text≠0 then vN x.kind x.text y.text
 else match Bn cv x y (j5 cv x) (j5 cv y) with
  |some c=>c
  |none=>if x.items.length<y.items.length then -1 else if y.items.length<x.items.length then 1 else 0
noncomputable def O7 (N:List al)(cv:Int->Int->Int)(i j:Int):Int:=match gt N i,gt N j with
 |some x,some y=>Ev cv x y
 |_,_=>0
noncomputable def kF (N:List al):Nat->Int->Int->Int
 |0,_,_=>0
 |f+1,i,j=>O7 N (kF N f) i j
theorem bW {l}{a:Int}(h0:0<=a)(h:a<l.length):nth l a∈l:=by
 obtain⟨v,hv⟩:=jD h0 h
 grind [nth,aq]
theorem Dz {cv cv'}{x}(hl:x.kind=10->x.keys.length=x.items.length)(h:∀u∈x.keys,∀v∈x.keys,cv u v=cv' u v):j5 cv x=j5 cv' x:=by
 grind [j5,WB,bW]
theorem II {cv cv'}{x y}(h1:x.kind=10->∀u∈x.keys,∀v∈y.keys,cv u v=cv' u v)(h2:∀u∈x.items,∀v∈y.items,cv u v=cv' u v):∀{p q:ε},(∀a∈p,0<=a/\a<x.items.length/\(x.kind=10->a<x.keys.length))->(∀a∈q,0<=a/\a<y.items.length/\(x.kind=10->a<y.keys.length))->Bn cv x y p q=Bn cv' x y p q
 |[],q,_,_=>by cases q<;>rfl
 |a::p,[],_,_=>rfl
 |a::p,b::q,hp,hq=>by
  obtain⟨a1,a2,a3⟩:=hp a IS;obtain⟨b1,b2,b3⟩:=hq b IS;have e2:=h2 _ (bW a1 a2) _ (bW b1 b2);have ih:=II h1 h2 (λc hc=>hp c (BY _ hc)) λc hc=>hq c (BY _ hc);unfold Bn;rw[e2,ih]
  grind [bW]
def DA {cv cv'}{x y}(hx:x.kind=10->x.keys.length=x.items.length)(hy:y.kind=10->y.keys.length=y.items.length)
  (h:∀u v,(u∈x.keys\/u∈x.items\/u∈y.keys\/u∈y.items)->(v∈x.keys\/v∈x.items\/v∈y.keys\/v∈y.items)->cv u v=cv' u v):Ev cv x y=Ev cv' x y:=by
 unfold Ev;split
 .rfl
 split
 .rfl
 rename_i c1 c2;have hk:x.kind=y.kind:=by omega
 split
 .rfl
 split
 .rfl
 rw[Dz hx λu hu v hv=>h u v (.inl hu) (.inl hv),Dz hy λu hu v hv=>h u v (.inr (.inr (.inl hu))) (.inr (.inr (.inl hv)))];rw[II (λ_ u hu v hv=>h u v (.inl hu) (.inr (.inr (.inl hv)))) (λu hu v hv=>h u v (.inr (.inl hu)) (.inr (.inr (.inr hv))))
  (λa ha=>⟨(eQ ha).1,(eQ ha).2,λe=>by rw[hx e];exact (eQ ha).2⟩) (λa ha=>⟨(eQ ha).1,(eQ ha).2,λe=>by rw[hy (hk▸e)];exact (eQ ha).2⟩)]
def Kq (d:Vd N root){H:Int->Nat}(hH:∀u v,KN N v->Edge N u v->H v<H u):∀t f f' ,t<f->t<f'->∀i j,KN N i->KN N j->H i<=t->H j<=t->kF N f i j=kF N f' i j:=by
 intro t
 induction t with
 |zero=>
  intro f f' h1 h2 i j hi hj hti htj;obtain⟨f,rfl⟩:∃g,f=g+1:=⟨f-1,by omega⟩;obtain⟨f',rfl⟩:∃g,f'=g+1:=⟨f' - 1,by omega⟩;unfold kF O7;cases ex:gt N i with
  |none=>rfl
  |some x=>
   cases ey:gt N j with
   |none=>rfl
   |some y=>
    refine DA (d.map (aq ex)) (d.map (aq ey)) λu v hu hv=>?_;exfalso;rcases hu with h|h|h|h
    .have:=hH i u (.step hi ⟨x,ex,.inl h⟩) ⟨x,ex,.inl h⟩;omega
    .have:=hH i u (.step hi ⟨x,ex,.inr h⟩) ⟨x,ex,.inr h⟩;omega
    .have:=hH j u (.step hj ⟨y,ey,.inl h⟩) ⟨y,ey,.inl h⟩;omega
    .have:=hH j u (.step hj ⟨y,ey,.inr h⟩) ⟨y,ey,.inr h⟩;omega
 |succ t ih=>
  intro f f' h1 h2 i j hi hj hti htj;obtain⟨f,rfl⟩:∃g,f=g+1:=⟨f-1,by omega⟩;obtain⟨f',rfl⟩:∃g,f'=g+1:=⟨f' - 1,by omega⟩;unfold kF O7;cases ex:gt N i with
  |none=>rfl
  |some x=>
   cases ey:gt N j with
   |none=>rfl
   |some y=>
    have low:∀u,(u∈x.keys\/u∈x.items\/u∈y.keys\/u∈y.items)->KN N u/\H u<=t:=λu hu=>by
     rcases hu with h|h|h|h
     .have e:Edge N i u:=⟨x,ex,.inl h⟩;have:=hH i u (.step hi e) e;exact⟨.step hi e,by omega⟩
     .have e:Edge N i u:=⟨x,ex,.inr h⟩;have:=hH i u (.step hi e) e;exact⟨.step hi e,by omega⟩
     .have e:Edge N j u:=⟨y,ey,.inl h⟩;have:=hH j u (.step hj e) e;exact⟨.step hj e,by omega⟩
     .have e:Edge N j u:=⟨y,ey,.inr h⟩;have:=hH j u (.step hj e) e;exact⟨.step hj e,by omega⟩
    exact DA (d.map (aq ex)) (d.map (aq ey)) λu v hu hv=>ih f f' (by omega) (by omega) u v (low u hu).1 (low v hv).1 (low u hu).2 (low v hv).2
noncomputable def kG (N:List al):Int->Int->Int:=kF N (N.length+1)
noncomputable def cn (N:List al)(i:Int):ε:=match gt N i with
 |some x=>j5 (kG N) x
 |none=>[]
theorem kB {k}{x}(hx:gt N k=some x):(cn N k).length=x.items.length:=by
 grind [cn,yB]
theorem ad6 (d:Vd N root){i j}{x y}(hi:KN N i)(hj:KN N j)(ex:gt N i=some x)(ey:gt N j=some y):kG N i j=Ev (kG N) x y:=by
 obtain⟨H,hH1,hH2⟩:=d.Mn;have e:kG N i j=Ev (kF N N.length) x y:=by
  unfold kG kF O7
  grind
 rw[e];refine DA (d.map (aq ex)) (d.map (aq ey)) λu v hu hv=>?_;have low:∀u,(u∈x.keys\/u∈x.items\/u∈y.keys\/u∈y.items)->KN N u/\H u<N.length:=λu hu=>by
  have h1:=hH1 i;have h2:=hH1 j;rcases hu with h|h|h|h
  .have e:Edge N i u:=⟨x,ex,.inl h⟩;have:=hH2 i u (.step hi e) e;exact⟨.step hi e,by omega⟩
  .have e:Edge N i u:=⟨x,ex,.inr h⟩;have:=hH2 i u (.step hi e) e;exact⟨.step hi e,by omega⟩
  .have e:Edge N j u:=⟨y,ey,.inl h⟩;have:=hH2 j u (.step hj e) e;exact⟨.step hj e,by omega⟩
  .have e:Edge N j u:=⟨y,ey,.inr h⟩;have:=hH2 j u (.step hj e) e;exact⟨.step hj e,by omega⟩
 have h1:=(low u hu).2;exact Kq d hH2 (N.length-1) _ _ (by omega) (by omega) u v (low u hu).1 (low v hv).1 (by grind) (by grind)
end Go.Sh
namespace Go.Sh
open Go Go.Ago Go.Proofs
variable {N N':List al}{root v:Int}{φ:Int->Int}
theorem aaw {n}{R:Nat->Nat->Prop}(h:∀a,a<n->∃b,b<n/\R a b)(inj:∀a a' b,a<n->a'<n->R a b->R a' b->a=a'):∀b,b<n->∃a,a<n/\R a b:=by
 have ex:∀a,∃b,a<n->b<n/\R a b:=λa=>by
  by_cases ha:a<n
  .grind
  .exact⟨0,λq=>absurd q ha⟩
 obtain⟨G,hG⟩:=amm ex;intro b hb;refine aef λhn=>?_;have nd:((List.range n).map G).Nodup:=by
  refine List.pairwise_map.2 (anf ?_ akA)
  grind
 have nm:b∉(List.range n).map G:=λhm=>by
  obtain⟨a,ha,rfl⟩:=List.mem_map.1 hm
  grind
 have hs:b::(List.range n).map G ⊆ List.range n:=λc hc=>by
  rcases List.mem_cons.1 hc with rfl|hc
  .grind
  .obtain⟨a,ha,rfl⟩:=List.mem_map.1 hc
   grind
 have:=(List.nodup_cons.2 ⟨nm,nd⟩).length_le_of_subset hs
 grind
theorem vY (hM:∀x∈N,oi x):∀{f} {a b c},xW N f a b->xW N f b c->xW N f a c
 |0,a,b,c,h,_=>h.elim
 |f+1,a,b,c,⟨x,y,hx,hy,h1,h2,h3,h4,h5⟩,⟨y',z,hy',hz,g1,g2,g3,g4,g5⟩=>by
  rw[hy] at hy';cases hy';refine⟨x,z,hx,hz,h1.trans g1,h2.trans g2,h3.trans g3,h4.trans g4,?_⟩;split at h5
  .rename_i q;rw[By q];rw[By ⟨h1▸q.1,h3▸q.2⟩] at g5;intro a kx p q1 q2;obtain⟨b,ky,r,q3,q4,q5,q6⟩:=h5 a kx p q1 q2;obtain⟨c,kz,s,q7,q8,q9,q10⟩:=g5 b ky r q3 q4;exact⟨c,kz,s,q7,q8,vY hM q5 q9,vY hM q6 q10⟩
  .rename_i q;rw[AT q];rw[AT (λe=>q ⟨h1▸e.1,h3▸e.2⟩)] at g5;intro a p r q1 q2;obtain⟨w,hw⟩:=gS (l:=y.items) (i:=a) (by grind);obtain⟨e1,e2⟩:=h5 a p w q1 hw;obtain⟨e3,e4⟩:=g5 a w r hw q2;refine⟨vY hM e1 e3,λhk kx kz r1 r2=>?_⟩;obtain⟨ky,hky⟩:=gS (by rw[hM y (aq hy) (h1▸hk)];exact aZ hw);exact vY hM (e2 hk kx ky r1 hky) (e4 (h1▸hk) ky kz hky r2)
theorem wT (hM:∀x∈N,oi x)(tw:∀x∈N,x.keys.Pairwise λy x=>¬SM N x y):∀{f} {a b},xW N f a b->xW N f b a
 |0,a,b,h=>h.elim
 |f+1,a,b,⟨x,y,hx,hy,h1,h2,h3,h4,h5⟩=>by
  refine⟨y,x,hy,hx,h1.symm,h2.symm,h3.symm,h4.symm,?_⟩;split at h5
  .rename_i q;rw[By ⟨h1▸q.1,h3▸q.2⟩];have lx:=hM x (aq hx) q.1;have ly:=hM y (aq hy) (h1▸q.1);have key:=aaw (n:=x.items.length) (R:=λa b=>∃kx ky p r,x.keys[a]?=some kx/\y.keys[b]?=some ky/\x.items[a]?=some p/\y.items[b]?=some r/\xW N f kx ky/\xW N f p r) (λa ha=>by
    obtain⟨kx,hkx⟩:=gS (l:=x.keys) (i:=a) (by omega);obtain⟨p,hp⟩:=gS ha;obtain⟨b,ky,r,e1,e2,e3,e4⟩:=h5 a kx p hkx hp;exact⟨b,by grind,kx,ky,p,r,hkx,e1,hp,e2,e3,e4⟩) (λa a' b ha ha' ⟨kx,ky,p,r,e1,e2,e3,e4,e5,e6⟩ ⟨kx',ky',p',r',g1,g2,g3,g4,g5,g6⟩=>by
    rw[e2] at g2;cases g2;refine aef λhne=>?_;have s1:xW N f kx kx':=vY hM e5 (wT hM tw g5);have s2:xW N f kx' kx:=vY hM g5 (wT hM tw e5);have pw:=List.pairwise_iff_getElem.1 (tw x (aq hx));obtain⟨l1,e1⟩:=List.getElem?_eq_some_iff.1 e1;obtain⟨l2,g1⟩:=List.getElem?_eq_some_iff.1 g1;rcases Nat.lt_or_gt_of_ne hne with h|h
    .have:=pw a a' l1 l2 h;rw[e1,g1] at this;exact this ⟨f,s2⟩
    .have:=pw a' a l2 l1 h;rw[e1,g1] at this;exact this ⟨f,s1⟩)
   intro b ky r q1 q2;obtain⟨a,ha,kx,ky',p,r',e1,e2,e3,e4,e5,e6⟩:=key b (by grind);rw[q1] at e2;rw[q2] at e4;cases e2;cases e4;exact⟨a,kx,p,e1,e3,wT hM tw e5,wT hM tw e6⟩
  .rename_i q;rw[AT (λe=>q ⟨h1▸e.1,h3▸e.2⟩)];intro a r p q1 q2;obtain⟨e1,e2⟩:=h5 a p r q2 q1;exact⟨wT hM tw e1,λhk ky kx r1 r2=>wT hM tw (e2 (h1▸hk) kx ky r2 r1)⟩
structure vO (φ:Int->Int) (x x':al):Prop where
 k:x'.kind=x.kind
 t:x'.text=x.text
 o:x'.ord=x.ord
 e:∃o:ε,o.Perm (iota x.items.length)/\(¬(x.kind=10/\x.ord=false)->o=iota x.items.length)/\x'.items=o.map (λa=>φ (nth x.items a))/\x'.keys=if x.kind=10 then o.map (λa=>φ (nth x.keys a)) else []
theorem gO {l}{i:Nat}{p}(h:l[i]?=some p):nth l (i:Int)=p:=by
 grind [nth,gt]
section
variable {x x':al}
def vO.il (E:vO φ x x'):x'.items.length=x.items.length:=by
 obtain⟨o,h1,_,h3,_⟩:=E.e;rw[h3,aeI,h1.length_eq,lG]
theorem vO.kl (E:vO φ x x')(hm:oi x)(hk:x.kind≠10->x.keys=[]):x'.keys.length=x.keys.length:=by
 obtain⟨o,h1,_,_,h4⟩:=E.e;rw[h4];by_cases h:x.kind=10
 .rw[By h,aeI,h1.length_eq,lG,hm h]
 grind
theorem vO.to (E:vO φ x x'){a}{p}(h:x.items[a]?=some p):∃a':Nat,x'.items[a']?=some (φ p)/\(x.kind=10->∀k,x.keys[a]?=some k->x'.keys[a']?=some (φ k))/\(¬(x.kind=10/\x.ord=false)->a'=a):=by
 obtain⟨o,h1,h2,h3,h4⟩:=E.e;have hlt:=aZ h;have hm:(a:Int)∈o:=h1.mem_iff.2 (by grind [iota]);by_cases hu:x.kind=10/\x.ord=false
 .obtain⟨a',ha'⟩:=List.mem_iff_getElem?.1 hm;refine⟨a',by grind [gO],λhk k hkk=>by rw[h4,By hk,abF,ha'];simp[gO hkk],λq=>absurd hu q⟩
 .have:=h2 hu;subst this;refine⟨a,by grind [mO,gO],λhk k hkk=>by rw[h4,By hk,abF,mO hlt];simp[gO hkk],λ_=>rfl⟩
theorem vO.of (E:vO φ x x'){a'}{p'}(h:x'.items[a']?=some p'):∃(a:Nat) (p:Int),x.items[a]?=some p/\p'=φ p/\(x.kind=10->∀k,x.keys[a]?=some k->x'.keys[a']?=some (φ k))/\(¬(x.kind=10/\x.ord=false)->a'=a):=by
 obtain⟨o,h1,h2,h3,h4⟩:=E.e;rw[h3,abF] at h;cases ho:o[a']? with
 |none=>grind
 |some b=>
  rw[ho] at h;have hb:b∈iota x.items.length:=h1.mem_iff.1 (IN ho);unfold iota at hb;obtain⟨a,ha,rfl⟩:=List.mem_map.1 hb;obtain⟨p,hp⟩:=gS (List.mem_range.1 ha);refine⟨a,p,hp,?_,λhk k hkk=>by rw[h4,By hk,abF,ho];simp[gO hkk],λhu=>?_⟩
  .grind [nth,Option.some.inj,gO]
  grind [aZ,lG,mO,Option.some.inj]
theorem vO.form (E:vO φ x x')(hm:oi x)(hk:x.kind≠10->x.keys=[]):jr x'=jr x:=by
 have h1:=E.il;have h2:=E.kl hm hk;have h3:=E.k;have h4:=E.t;have h5:=E.o
 grind [jr]
end
structure Bo (N:List al) (v:Int) (N':List al) (φ:Int->Int):Prop where
 nd:∀u x,iC N v u->gt N u=some x->∃x',gt N' (φ u)=some x'/\vO φ x x'
 inj:∀u w,iC N v u->iC N v w->φ u=φ w->u=w
 sur:∀w,IR N'.length w->∃u,iC N v u/\φ u=w
 len:N'.length<=N.length
section
variable (I:Bo N v N' φ)(g:GV N root)(hv:IR N.length v)
include I g hv
theorem Bo.ir {u}(h:iC N v u):IR N.length u/\IR N'.length (φ u):=by
 have h1:=h.ir g.ix hv;obtain⟨x,hx⟩:=cI rfl h1;obtain⟨x',hx',_⟩:=I.nd u x h hx
 grind [mX]
theorem GV.map (g:GV N root){x}(hx:x∈N):oi x:=Ep (g.fm x hx)
end
def GV.yC (g:GV N root){x}(hx:x∈N):oi x:=Ep (g.fm x hx)
def qc {x}(h:jr x=some true)(hk:x.kind≠10):x.keys=[]:=by
 grind [jr]
end Go.Sh
namespace Go.Sh
open Go Go.Ago Go.Proofs
variable {N N':List al}{root v:Int}{φ:Int->Int}{x x':al}
theorem vO.toK (E:vO φ x x')(hm:oi x)(hk:x.kind≠10->x.keys=[]){a:Nat}{k}(h:x.keys[a]?=some k):∃a':Nat,x'.keys[a']?=some (φ k):=by
 have h10:x.kind=10:=aef λq=>by grind
 obtain⟨p,hp⟩:=gS (by rw[<-hm h10];exact aZ h);obtain⟨a',_,h2,_⟩:=E.to hp
 grind
theorem vO.ofK (E:vO φ x x')(hm:oi x)(hk:x.kind≠10->x.keys=[]){a':Nat}{k'}(h:x'.keys[a']?=some k'):∃(a:Nat) (k:Int),x.keys[a]?=some k/\k'=φ k:=by
 have hl:=E.kl hm hk;have h10:x.kind=10:=aef λq=>by grind
 obtain⟨p',hp'⟩:=gS (by rw[E.il,<-hm h10,<-hl];exact aZ h);obtain⟨a,p,h1,_,h2,_⟩:=E.of hp';obtain⟨k,hk2⟩:=gS (by rw[hm h10];exact aZ h1)
 grind
section
variable (I:Bo N v N' φ)(g:GV N root)(hv:IR N.length v)
include I g
theorem Bo.GJ {u w}(h:iC N v u)(e:Edge N u w):Edge N' (φ u) (φ w):=by
 obtain⟨x,hx,hm⟩:=e;obtain⟨x',hx',E⟩:=I.nd u x h hx;refine⟨x',hx',?_⟩;rcases hm with hm|hm
 .obtain⟨a,ha⟩:=List.mem_iff_getElem?.1 hm;obtain⟨a',h1⟩:=E.toK (g.yC (aq hx)) (qc (g.fm x (aq hx))) ha
  grind
 .obtain⟨a,ha⟩:=List.mem_iff_getElem?.1 hm;obtain⟨a',h1,_⟩:=E.to ha
  grind
theorem Bo.Tv {u w'}(h:iC N v u)(hu:IR N.length u)(e:Edge N' (φ u) w'):∃w,Edge N u w/\φ w=w':=by
 obtain⟨x,hx⟩:=cI rfl hu;obtain⟨x',hx',E⟩:=I.nd u x h hx;obtain⟨y,hy,hm⟩:=e;rw[hx'] at hy;cases hy;rcases hm with hm|hm
 .obtain⟨a',ha⟩:=List.mem_iff_getElem?.1 hm;obtain⟨a,k,h1,rfl⟩:=E.ofK (g.yC (aq hx)) (qc (g.fm x (aq hx))) ha;exact⟨k,⟨x,hx,.inl (IN h1)⟩,rfl⟩
 .obtain⟨a',ha⟩:=List.mem_iff_getElem?.1 hm;obtain⟨a,p,h1,rfl,_⟩:=E.of ha;exact⟨p,⟨x,hx,.inr (IN h1)⟩,rfl⟩
theorem Bo.PW {u w}(h:iC N v u)(r:iC N u w):iC N' (φ u) (φ w):=by
 induction r with
 |refl=>exact .refl
 |step r e ih=>exact ih.step (I.GJ g (h.trans r) e)
include hv
theorem Bo.alB {u w'}(h:iC N v u)(r:iC N' (φ u) w'):∃w,iC N u w/\φ w=w':=by
 induction r with
 |refl=>exact⟨u,.refl,rfl⟩
 |step r e ih=>
  obtain⟨w,h1,h2⟩:=ih;rw[<-h2] at e;obtain⟨z,h3,h4⟩:=I.Tv g (h.trans h1) ((h.trans h1).ir g.ix hv) e;exact⟨z,h1.step h3,h4⟩
theorem Bo.ad7 {u w}(hu:iC N v u)(hw:iC N v w):iC N' (φ u) (φ w)↔iC N u w:=by
 constructor
 .intro r;obtain⟨z,h1,h2⟩:=I.alB g hv hu r;rw[<-I.inj z w (hu.trans h1) hw h2];exact h1
 .exact I.PW g hu
theorem Tw {n n'}{P P'}(f:Nat->Nat)(h1:∀a,a<n->P a=true->f a<n'/\P' (f a)=true)(h2:∀a b,a<n->b<n->P a=true->P b=true->f a=f b->a=b):(List.range n).countP P<=(List.range n').countP P':=by
 rw[anI,anI];have nd:(((List.range n).filter P).map f).Nodup:=by
  grind [List.Pairwise.imp_of_mem,List.nodup_range]
 have:=nd.length_le_of_subset (l₂:=(List.range n').filter P') λc hc=>by
  grind
 grind
theorem Bo.back:∃ψ:Int->Int,(∀w,IR N'.length w->iC N v (ψ w)/\φ (ψ w)=w)/\∀u,iC N v u->ψ (φ u)=u:=by
 have ex:∀w,∃u,IR N'.length w->iC N v u/\φ u=w:=λw=>by
  by_cases h:IR N'.length w
  .obtain⟨u,hu⟩:=I.sur w h;grind
  simp_all
 obtain⟨ψ,h⟩:=amm ex;refine⟨ψ,h,λu hu=>?_⟩;obtain⟨h1,h2⟩:=h (φ u) (I.ir g hv hu).2;exact I.inj _ _ h1 hu h2
theorem Bo.wt {u}(hu:iC N v u):wt N' (φ u)=wt N u:=by
 obtain⟨ψ,p1,p2⟩:=I.back g hv;have nn:∀{n:Nat} {w:Int},IR n w->w.toNat<n/\(w.toNat:Int)=w:=λh=>by grind [IR]
 unfold Sh.wt
 congr 1
 apply Nat.le_antisymm
 .refine Tw I g hv (λw:Nat=>(ψ (w:Int)).toNat) (λw hw h=>?_) λa b ha hb _ _ e=>?_
  .obtain⟨q1,q2⟩:=p1 (w:Int) ⟨by omega,by omega⟩;have q3:=nn (I.ir g hv q1).1;refine⟨q3.1,?_⟩;simp only[abD] at h⊢;rw[q3.2];rw[<-q2] at h;exact⟨(I.ad7 g hv hu q1).1 h.1,(I.ad7 g hv q1 hu).1 h.2⟩
  .obtain⟨q1,q2⟩:=p1 (a:Int) ⟨by omega,by omega⟩;obtain⟨r1,r2⟩:=p1 (b:Int) ⟨by omega,by omega⟩;have q3:=nn (I.ir g hv q1).1;have r3:=nn (I.ir g hv r1).1
   grind
 .have rc:∀w:Nat,iC N u (w:Int)->iC N v (w:Int):=λw h=>hu.trans h;refine Tw I g hv (λw:Nat=>(φ (w:Int)).toNat) (λw hw h=>?_) λa b ha hb h1 h2 e=>?_
  .simp only[abD] at h⊢;have q3:=nn (I.ir g hv (rc w h.1)).2;rw[q3.2];exact⟨q3.1,(I.ad7 g hv hu (rc w h.1)).2 h.1,(I.ad7 g hv (rc w h.1) hu).2 h.2⟩
  .simp at h1 h2;have q3:=nn (I.ir g hv (rc a h1.1)).2;have r3:=nn (I.ir g hv (rc b h2.1)).2
   grind
theorem Bo.df {f}(hf:DF N f):∃f',DF N' f'/\f' (φ v)=f v:=by
 obtain⟨ψ,p1,p2⟩:=I.back g hv;refine⟨λw=>f (ψ w),λw hw=>?_,by simp;rw[p2 v .refl]⟩;obtain⟨q1,q2⟩:=p1 w hw;obtain⟨h1,h2⟩:=hf (ψ w) (I.ir g hv q1).1;have hwt:=I.wt g hv q1;rw[q2] at hwt;refine⟨by grind,λz hz=>?_⟩;rw[<-q2] at hz;obtain⟨y,r1,rfl⟩:=I.alB g hv q1 hz;have hy:=q1.trans r1;obtain⟨h3,h4⟩:=h2 y r1;simp;rw[p2 y hy,hwt];exact⟨h3,λhn=>h4 λr=>hn (by rw[<-q2];exact I.PW g hy r)⟩
theorem Bo.node {x'}(h:x'∈N'):∃u x,iC N v u/\gt N u=some x/\gt N' (φ u)=some x'/\vO φ x x':=by
 obtain⟨j,hj⟩:=List.mem_iff_getElem?.1 h;have hlt:=aZ hj;obtain⟨u,hu,e⟩:=I.sur (j:Int) ⟨by omega,by omega⟩;obtain⟨x,hx⟩:=cI rfl (I.ir g hv hu).1;obtain⟨y,hy,E⟩:=I.nd u x hu hx
 grind [gt]
theorem Bo.kn {w}(h:KN N' w):∃u,iC N v u/\φ u=w/\KN N u:=by
 induction h with
 |key hx hw=>
  obtain⟨u,x,hu,hgx,_,E⟩:=I.node g hv hx;obtain⟨a',ha⟩:=List.mem_iff_getElem?.1 hw;obtain⟨a,k,h1,h2⟩:=E.ofK (g.yC (aq hgx)) (qc (g.fm x (aq hgx))) ha;have hk:=IN h1;exact⟨k,hu.step ⟨x,hgx,.inl hk⟩,h2.symm,.key (aq hgx) hk⟩
 |step _ e ih=>
  obtain⟨u,hu,rfl,hk⟩:=ih;obtain⟨w,h1,h2⟩:=I.Tv g hu (I.ir g hv hu).1 e;exact⟨w,hu.step h1,h2,hk.step h1⟩
theorem Bo.sm:∀f a b ,iC N v a->iC N v b->(xW N' f (φ a) (φ b)↔xW N f a b)
 |0,a,b,_,_=>Iff.rfl
 |f+1,a,b,ha,hb=>by
  obtain⟨x,hx⟩:=cI rfl (I.ir g hv ha).1;obtain⟨y,hy⟩:=cI rfl (I.ir g hv hb).1;obtain⟨x',hx',E⟩:=I.nd a x ha hx;obtain⟨y',hy',G⟩:=I.nd b y hb hy;have mx:=g.yC (aq hx);have my:=g.yC (aq hy);have ed:∀{u:Int} {z:al} {l:ε} {i:Nat} {p:Int},iC N v u->gt N u=some z->(l=z.keys\/l=z.items)->l[i]?=some p->iC N v p:=λhu hz hl hp=>hu.step ⟨_,hz,by
   grind⟩
  have kz:∀{z:al} {i:Nat} {p:Int},oi z->z.kind=10->z.items[i]?=some p->∃k,z.keys[i]?=some k:=λhm hk hp=>gS (by rw[hm hk];grind);constructor
  .rintro⟨x2,y2,e1,e2,h1,h2,h3,h4,h5⟩;rw[hx'] at e1;rw[hy'] at e2;cases e1;cases e2;rw[E.k,G.k] at h1;rw[E.t,G.t] at h2;rw[E.o,G.o] at h3;rw[E.il,G.il] at h4;refine⟨x,y,hx,hy,h1,h2,h3,h4,?_⟩;rw[E.k,E.o] at h5;split at h5
   .rename_i q;rw[By q];intro i kx p q1 q2;obtain⟨i',r1,r2,_⟩:=E.to q2;obtain⟨j',ky',p',s1,s2,s3,s4⟩:=h5 i' _ _ (r2 q.1 kx q1) r1;obtain⟨j,pj,t1,rfl,t2,_⟩:=G.of s2;obtain⟨ky,hky⟩:=kz my (h1▸q.1) t1;have:=t2 (h1▸q.1) ky hky;rw[s1] at this;cases this;exact⟨j,ky,pj,hky,t1,(Bo.sm f kx ky (ed ha hx (.inl rfl) q1) (ed hb hy (.inl rfl) hky)).1 s3,(Bo.sm f p pj (ed ha hx (.inr rfl) q2) (ed hb hy (.inr rfl) t1)).1 s4⟩
   .rename_i q;rw[AT q];intro i p r q1 q2;obtain⟨i',r1,r2,r3⟩:=E.to q1;obtain⟨j',s1,s2,s3⟩:=G.to q2;have:=r3 q;subst this;have:=s3 (λe=>q ⟨h1▸e.1,h3▸e.2⟩);subst this;obtain⟨u1,u2⟩:=h5 _ _ _ r1 s1;exact⟨(Bo.sm f p r (ed ha hx (.inr rfl) q1) (ed hb hy (.inr rfl) q2)).1 u1,λhk kx ky v1 v2=>(Bo.sm f kx ky (ed ha hx (.inl rfl) v1) (ed hb hy (.inl rfl) v2)).1 (u2 hk _ _ (r2 hk kx v1) (s2 (h1▸hk) ky v2))⟩
  .rintro⟨x2,y2,e1,e2,h1,h2,h3,h4,h5⟩;rw[hx] at e1;rw[hy] at e2;cases e1;cases e2;refine⟨x',y',hx',hy',by rw[E.k,G.k,h1],by rw[E.t,G.t,h2],by rw[E.o,G.o,h3],by rw[E.il,G.il,h4],?_⟩;rw[E.k,E.o];split at h5
   .rename_i q;rw[By q];intro i' kx' p' q1 q2;obtain⟨i,p,r1,rfl,r2,_⟩:=E.of q2;obtain⟨kx,hkx⟩:=kz mx q.1 r1;have:=r2 q.1 kx hkx;rw[q1] at this;cases this;obtain⟨j,ky,r,s1,s2,s3,s4⟩:=h5 i kx p hkx r1;obtain⟨j',t1,t2,_⟩:=G.to s2;exact⟨j',_,_,t2 (h1▸q.1) ky s1,t1,(Bo.sm f kx ky (ed ha hx (.inl rfl) hkx) (ed hb hy (.inl rfl) s1)).2 s3,(Bo.sm f p r (ed ha hx (.inr rfl) r1) (ed hb hy (.inr rfl) s2)).2 s4⟩
   .rename_i q;rw[AT q];intro i p' r' q1 q2;obtain⟨i',p,r1,rfl,r2,r3⟩:=E.of q1;obtain⟨j',r,s1,rfl,s2,s3⟩:=G.of q2;have:=r3 q;subst this;have:=s3 (λe=>q ⟨h1▸e.1,h3▸e.2⟩);subst this;obtain⟨u1,u2⟩:=h5 _ _ _ r1 s1;refine⟨(Bo.sm f p r (ed ha hx (.inr rfl) r1) (ed hb hy (.inr rfl) s1)).2 u1,λhk kx' ky' v1 v2=>?_⟩;obtain⟨kx,hkx⟩:=kz mx hk r1;obtain⟨ky,hky⟩:=kz my (h1▸hk) s1;have:=r2 hk kx hkx;rw[v1] at this;cases this;have:=s2 (h1▸hk) ky hky;rw[v2] at this;cases this;exact (Bo.sm f kx ky (ed ha hx (.inl rfl) hkx) (ed hb hy (.inl rfl) hky)).2 (u2 hk kx ky hkx hky)
end
end Go.Sh
namespace Go.Sh
open Go Go.Ago Go.Proofs
variable {N N':List al}{root v:Int}{φ:Int->Int}{x x':al}
theorem BI {γ:Type}{ψ:Int->γ}:∀l ,(iota l.length).map (λa=>ψ (nth l a))=l.map ψ:=λl=>by
 refine al9 λi=>?_
 grind [gS,mO,gO,List.getElem?_eq_none,lG]
theorem vO.items (E:vO φ x x'):x'.items.Perm (x.items.map φ):=by
 obtain⟨o,h1,_,h3,_⟩:=E.e
 grind [nth,BI]
theorem vO.keys (E:vO φ x x')(hm:oi x)(hk:x.kind≠10->x.keys=[]):∃l:ε,l.Perm x.keys/\x'.keys=l.map φ:=by
 obtain⟨o,h1,_,_,h4⟩:=E.e;by_cases h:x.kind=10
 .refine⟨o.map (λa=>nth x.keys a),?_,by simp_all⟩;have:=h1.map (λa=>nth x.keys a);rw[<-hm h,BI (ψ:=λa=>a),List.map_id'] at this
  grind
 simp_all
theorem Ew {u}:∀{l:ε},(∀w∈l,φ w=φ u->w=u)->(l.map φ).count (φ u)=l.count u
 |[],_=>rfl
 |a::l,h=>by
  rw[ab4,akv,akv,Ew λw hw=>h w (BY _ hw)]
  grind
theorem Kr {u}:∀{X:List al} {i:Nat} {x},X[i]?=some x->(refs x).count u=1->(∀j y,X[j]?=some y->u∈refs y->j=i)->(X.flatMap refs).count u=1
 |[],i,x,h,_,_=>by simp at h
 |y::X,0,x,h,h1,h2=>by
  simp at h;subst h;rw[adr,akP,h1];have:(X.flatMap refs).count u=0:=List.count_eq_zero.2 λhm=>by
   obtain⟨z,hz,hu⟩:=List.mem_flatMap.1 hm;obtain⟨j,hj⟩:=List.mem_iff_getElem?.1 hz;have:=h2 (j+1) z (by grind) hu;omega
  omega
 |y::X,i+1,x,h,h1,h2=>by
  rw[adr,akP,Kr (by simpa using h) h1 λj z hj hu=>by
   have:=h2 (j+1) z (by grind) hu;omega]
  have:(refs y).count u=0:=List.count_eq_zero.2 λhm=>by
   have:=h2 0 y rfl hm;omega
  omega
def xR {u}:∀{X:List al} {x},x∈X->(refs x).count u<=(X.flatMap refs).count u
 |y::X,x,h=>by
  rw[adr,akP];rcases List.mem_cons.1 h with rfl|h
  .omega
  .have:=xR (u:=u) h;omega
section
variable (I:Bo N v N' φ)(g:GV N root)(d:Vd N root)(hv:IR N.length v)
include I g d hv
theorem Bo.one {u}(hu:iC N v u)(kn:KN N u):(φ v::N'.flatMap refs).count (φ u)=1:=by
 have c1:=g.one u kn;obtain⟨H,_,hH⟩:=d.Mn;rw[akv];have who:∀(j:Nat) y,N'[j]?=some y->φ u∈refs y->∃p,iC N v p/\φ p=(j:Int)/\Edge N p u:=λj y hj hm=>by
  obtain⟨p,hp,e⟩:=I.sur (j:Int) ⟨by omega,by grind⟩;have hgj:gt N' (φ p)=some y:=by grind [gt]
  have hed:Edge N' (φ p) (φ u):=⟨y,hgj,by grind [refs]⟩;obtain⟨w,h1,h2⟩:=I.Tv g hp (I.ir g hv hp).1 hed;rw[I.inj w u (hp.step h1) hu h2] at h1
  grind
 by_cases e:u=v
 .subst e;have:(N'.flatMap refs).count (φ u)=0:=List.count_eq_zero.2 λhm=>by
   obtain⟨y,hy,hu'⟩:=List.mem_flatMap.1 hm;obtain⟨j,hj⟩:=List.mem_iff_getElem?.1 hy;obtain⟨p,h1,_,h3⟩:=who j y hj hu';have mono:∀w,iC N u w->KN N w/\H w<=H u:=λw r=>by
    induction r with
    |refl=>grind
    |step _ e ih=>exact⟨ih.1.step e,by have:=hH _ _ (ih.1.step e) e;omega⟩
   grind
  grind
 .have hne:φ v≠φ u:=λq=>e (I.inj v u .refl hu q).symm;rw[AT (by grind)];obtain⟨p,hp,hpu⟩:∃p,iC N v p/\Edge N p u:=by
   cases hu with
   |refl=>grind
   |step r ed=>grind
  obtain⟨x,hx,hm⟩:=id hpu;obtain⟨x',hx',E⟩:=I.nd p x hp hx;obtain⟨l,hl1,hl2⟩:=E.keys (g.yC (aq hx)) (qc (g.fm x (aq hx)));have pr:(refs x').Perm ((refs x).map φ):=by
   unfold refs;rw[hl2,ajt];exact (hl1.map φ).append E.items
  have cx:(refs x).count u=1:=by
   have h1:=xR (u:=u) (aq hx)
   grind [refs,List.count_pos_iff]
  have h1:(refs x').count (φ u)=1:=by
   rw[pr.count_eq,Ew λw hw q=>I.inj w u (hp.step ⟨x,hx,by grind [refs]⟩) hu q,cx]
  obtain⟨_,g2⟩:=aB hx'
  grind [Kr,Ml,Int.toNat_natCast]
theorem Bo.gv:GV N' (φ v):=by
 have hroot:=g.PW v hv;refine⟨abK I.len g.le,(I.ir g hv .refl).2,λx' hx'=>?_,λx' hx'=>?_,λw hw=>?_,λw kw=>?_,λx' hx'=>?_,?_⟩
 .obtain⟨u,x,hu,hx,hg,E⟩:=I.node g hv hx';have ok:∀w',Edge N' (φ u) w'->IR N'.length w':=λw' e=>by
   obtain⟨w,h1,rfl⟩:=I.Tv g hu (I.ir g hv hu).1 e;exact (I.ir g hv (hu.step h1)).2
  exact⟨λw hw=>ok w ⟨x',hg,.inl hw⟩,λw hw=>ok w ⟨x',hg,.inr hw⟩⟩
 .obtain⟨u,x,hu,hx,hg,E⟩:=I.node g hv hx';rw[E.form (g.yC (aq hx)) (qc (g.fm x (aq hx)))];exact g.fm x (aq hx)
 .obtain⟨u,hu,rfl⟩:=I.sur w hw;exact I.PW g .refl hu
 .obtain⟨u,hu,rfl,k⟩:=I.kn g hv kw;exact I.one g d hv hu k
 .obtain⟨u,x,hu,hx,hg,E⟩:=I.node g hv hx';obtain⟨l,hl1,hl2⟩:=E.keys (g.yC (aq hx)) (qc (g.fm x (aq hx)));have hM:∀x∈N,oi x:=λx hx=>g.yC hx;have pw:l.Pairwise λy x=>¬SM N x y:=(hl1.pairwise_iff λ{a b} h q=>h (by
   obtain⟨f,q⟩:=q;exact⟨f,wT hM g.tw q⟩)).2 (g.tw x (aq hx))
  rw[hl2,List.pairwise_map];refine pw.imp_of_mem λ{a b} ha hb h q=>h ?_;obtain⟨f,q⟩:=q;have ra:∀w∈l,iC N v w:=λw hw=>hu.step ⟨x,hx,.inl (hl1.mem_iff.1 hw)⟩;exact⟨f,(I.sm g hv f b a (ra b hb) (ra a ha)).1 q⟩
 .obtain⟨f,hf,hr⟩:=g.dp;obtain⟨f',h1,h2⟩:=I.df g hv hf;have:=((hf root g.rt).2 v hroot).1
  grind
end
end Go.Sh
namespace Go.Sh
open Go Go.Ago Go.Proofs
variable {α β:Type}{h h' h0:aj}{L R:List bJ}{N:List al}{root:Int}{B:Nat}{Q:β->aj->Prop}
def _root_.Go.Ago.Z.G4 (z:Z h0 h L){b o:Nat}{cs:δ}{e:μ}{l:uR}{v:ο}{x:l.den}{f:l.den->M β}(hm:bJ.au b cs e∈L)(hv:cs[o]?=some v)(hx:Cv l v=some x)(q:Wp (f x) h Q):Wp (sh (eU l ⟨b,o,none⟩) f) h Q:=by
 obtain⟨i,hi⟩:=List.mem_iff_getElem?.1 hm;exact z.ld i q hi hv hx
theorem _root_.Go.Ago.Z.stM (z:Z h0 h (R++L)){b o:Nat}{cs vs cs':δ}{e:μ}{f:Unit->M β}(hm:bJ.au b cs e∈L)(hc:aU cs o vs=cs')(ho:o+vs.length<=cs.length)(hs:vs.all fC=true)
  (q:∀(i:Nat) h',L[i]?=some (.au b cs e)->Z h0 h' (R++L.set i (.au b cs' e))->Wp (f ()) h' Q):Wp (sh (rE ⟨b,o,none⟩ vs) f) h Q:=by
 obtain⟨i,hi⟩:=List.mem_iff_getElem?.1 hm;have hi2:(R++L)[R.length+i]?=some (.au b cs e):=by grind
 refine z.st (R.length+i) (λh1 z1=>q i h1 hi ?_) hi2 hc ho hs
 grind
def aR {a}{f}(q:Wp (f a) h Q):Wp (sh (nn (some a)) f) h Q:=by
 rw[ag];exact⟨a,h,rfl,q⟩
def _root_.Go.Ago.Z.rdM (z:Z h0 h L){b m:Nat}{e:μ}{c:ε}{a v:Int}{f:Int->M β}(hm:bJ.au b (c.map vi) e∈L)(hg:gt c a=some v)(hl:c.length=m)(q:Wp (f v) h Q):Wp (sh (mc (arr b m) a 1) λp=>sh (eU li p) f) h Q:=by
 obtain⟨i,hi⟩:=List.mem_iff_getElem?.1 hm;exact z.JK i hg hl q hi
structure TbC where
 tb:Nat
 sb:Nat
 s:Sl
 root:Int
abbrev cs:Option (Nat×ε)->ο
 |none=>aI
 |some (b,l)=>aC (arr b l.length)
structure Tab (t:TbC) (N:List al) (C:List (Option (Nat×ε))) (L:List bJ):Prop where
 len:C.length=N.length
 Mu:bJ.au t.tb [aC t.s,vi t.root,aC (arr t.sb N.length)] dA∈L
 Gb:bJ.au t.sb (C.map cs) aJ∈L
 ok:∀k b l,gt C k=some (some (b,l))->l=cn N k/\bJ.au b (l.map vi) av∈L
def qo (t:TbC)(N:List al)(L:List bJ):Prop:=∃C,Tab t N C L
def Ext (L L':List bJ):Prop:=∀b (l:ε),bJ.au b (l.map vi) av∈L->bJ.au b (l.map vi) av∈L'
theorem Ext.refl {L}:Ext L L:=λ_ _ h=>h
theorem Ext.trans {L1 L2 L3}(a:Ext L1 L2)(b:Ext L2 L3):Ext L1 L3:=λx l h=>b x l (a x l h)
theorem Ru {γ:Type}{l:List γ}{i}{x y o}(hi:l[i]?=some x)(ho:o∈l)(hne:o≠x):o∈l.set i y:=by
 obtain⟨j,hj⟩:=List.mem_iff_getElem?.1 ho;have hij:i≠j:=λe=>by grind
 exact List.mem_iff_getElem?.2 ⟨j,by grind⟩
theorem Mr {γ:Type}{l:List γ}{i}{x y}(hi:l[i]?=some x):y∈l.set i y:=by
 have hlt:=(List.getElem?_eq_some_iff.1 hi).1;exact List.mem_iff_getElem?.2 ⟨i,by grind⟩
theorem Tab.put {t}{C}(T:Tab t N C L){i b}(hi:L[i]?=some (.au t.sb (C.map cs) aJ)){k}(hk:IR N.length k) :
  Tab t N (C.set k.toNat (some (b,cn N k))) (.au b ((cn N k).map vi) av::L.set i (.au t.sb ((C.set k.toNat (some (b,cn N k))).map cs) aJ)) /\
  Ext L (.au b ((cn N k).map vi) av::L.set i (.au t.sb ((C.set k.toNat (some (b,cn N k))).map cs) aJ)):=by
 have ne1:∀(b:Nat) (c:δ),bJ.au b c av≠.au t.sb (C.map cs) aJ:=λb c e=>by grind
 have ne2:∀(b:Nat) (c:δ),bJ.au b c dA≠.au t.sb (C.map cs) aJ:=λb c e=>by grind
 have ext:∀{o:bJ},o∈L->o≠.au t.sb (C.map cs) aJ->o∈bJ.au b ((cn N k).map vi) av::L.set i (.au t.sb ((C.set k.toNat (some (b,cn N k))).map cs) aJ):=
  λh1 h2=>BY _ (Ru hi h1 h2)
 refine⟨⟨by rw[ajZ];exact T.len,ext T.Mu (ne2 _ _),BY _ (Mr hi),λk' b' l hg=>?_⟩,λb' l hm=>ext hm (ne1 _ _)⟩;rw[fY (by rw[T.len];exact hk)] at hg;split at hg
 .grind
 .obtain⟨h1,h2⟩:=T.ok k' b' l hg
  grind
theorem ajU {m b}(hm:m<1073741824) a0 a1 a2 :
  ∀n i h L ,m-i<n->i<=m->Z h0 h (.au b (((iota m).take i++List.replicate (m-i) 0).map vi) av::L) ->
   Wp ((cl n).fF a0 a1 a2 (arr b m) (m:Int) (i:Int)) h λ_ h'=>Z h0 h' (.au b ((iota m).map vi) av::L):=by
 intro n
 induction n with
 |zero=>intro i h L h1;omega
 |succ n ih=>
  intro i h L h1 h2 z;show Wp (lU (cl n) n a0 a1 a2 (arr b m) (m:Int) (i:Int)) h _;unfold lU;have hl:=lG m;by_cases hi:i<m
  .rw[By (by grind)];refine Jr (by omega) (by omega) ?_;rw[OF,aes];refine z.CH 0 (xs:=(iota m).take i++List.replicate (m-i) 0) (by grind) (λh3 z=>?_);have hf:=fill (mO hi);rw[hl] at hf;rw[hf] at z;rw[wX h2 (by omega)];exact ih (i+1) h3 L (by omega) (by omega) z
  .rw[AT (by grind),af]
   grind
def WC (h0:aj)(t:TbC)(N:List al)(fc:Nat)(i j:Int):Prop:=∀(n:Nat) (h:aj) (R L:List bJ),fc<=n->qo t N L->Z h0 h (R++L) ->
 Wp ((cl n).lW (some (ak t.tb)) i (some (ak t.tb)) j none) h λr h'=>r=kG N i j/\∃L',qo t N L'/\Ext L L'/\Z h0 h' (R++L')
def aax (h0:aj)(t:TbC)(N:List al)(fe:Nat)(k:Int)(m:Nat):Prop:=∀(n:Nat) (h:aj) (R L:List bJ),fe<=n->qo t N L->Z h0 h (R++L) ->
 Wp ((cl n).eC (some (ak t.tb)) k) h λr h'=>∃b L',r=arr b m/\bJ.au b ((cn N k).map vi) av∈L'/\qo t N L'/\Ext L L'/\Z h0 h' (R++L')
def aay {C}{k}{c}(hc:gt C k=some c):(C.map cs)[k.toNat*1]?=some (cs c):=by
 rw[aes,abF,(aB hc).2];rfl
def Bp {γ:Type}{a:γ}{R L}:(a::(R++L)).Perm (R++a::L):=List.perm_middle.symm
theorem aaz {t}(G:kP h0 t.s N)(d:Vd N root)(hB:Bd N B){fc}{k}{x}(hx:gt N k=some x)(hsm:x.kind=10->x.items.length<50)(hc:∀u∈x.keys,∀v∈x.keys,WC h0 t N fc u v) :
  aax h0 t N (fc+700+B) k x.items.length:=by
 intro n h R L hn ⟨C,T⟩ z;have hNB:=hB.2.1;obtain⟨_,hBi⟩:=hB.2.2 x (aq hx);have hkr:IR N.length k:=mX hx;obtain⟨n,rfl⟩:∃n',n=n'+1:=⟨n-1,by omega⟩;show Wp (oG (cl n) n (some (ak t.tb)) k) h _;unfold oG;refine z.new λx0 h1 z _=>?_;refine z.ld 0 (aR ?_);refine z.G4 (x:=t.s) (BY _ (abI _ T.Mu)) rfl rfl ?_;obtain⟨g1,g2⟩:=aB hx;refine G.Ss z g1 g2 λa ks is nd=>?_;refine z.new λx5 h2 z _=>?_;refine z.st 0 (cs':=[Value.pointer (some a)]) λh3 z=>?_;have z:Z h0 h3 (.au x5 [Value.pointer (some a)] fu::.au x0 [Value.pointer (some (ak t.tb))] bz::(R++L)):=z;have memL:∀{o:bJ},o∈L->o∈bJ.au x5 [Value.pointer (some a)] fu::.au x0 [Value.pointer (some (ak t.tb))] bz::(R++L):=λh=>BY _ (BY _ (abI _ h));refine z.ld 1 (aR ?_);refine z.G4 (x:=arr t.sb N.length) (memL T.Mu) rfl rfl ?_;obtain⟨c,hcC⟩:=cI T.len hkr;refine Jr g1 hkr.2 ?_;cases c with
 |some e=>
  obtain⟨b,l⟩:=e;obtain⟨hl,hm⟩:=T.ok k b l hcC;refine z.G4 (x:=arr b l.length) (memL T.Gb) (aay hcC) rfl ?_;rw[By (by rfl)];refine z.ld 1 (aR ?_);refine z.G4 (x:=arr t.sb N.length) (memL T.Mu) rfl rfl ?_;refine Jr g1 hkr.2 ?_;refine z.G4 (x:=arr b l.length) (memL T.Gb) (aay hcC) rfl (af.2 ?_);subst hl;exact⟨b,L,by rw[kB hx],hm,⟨C,T⟩,.refl,z.drop.drop⟩
 |none=>
  refine z.G4 (x:=pH) (memL T.Gb) (aay hcC) rfl ?_;rw[AT (by simp)];refine z.ld 0 (aR ?_);refine (nd.fr z.fr).Ed ?_;have hlen:is.len=x.items.length:=nd.items.len;rw[hlen];refine z.MW (by omega) (by grind [cP]) λb h4 z _=>?_;rw[OF] at z⊢;rw[pQ] at z;have z0:Z h0 h4 (.au b (((iota x.items.length).take 0++List.replicate (x.items.length-0) 0).map vi) av::.au x5 [Value.pointer (some a)] fu::.au x0 [Value.pointer (some (ak t.tb))] bz::(R++L)):=by grind
  rw[ag];refine (ajU (by omega) k (ak x0) (ak x5) n 0 h4 _ (by omega) (by omega) z0).mono λ_ h5 z=>?_;refine z.ld 1 (aR ?_);refine (nd.fr z.fr).Ov ?_;have store:∀(h:aj) (L:List bJ) (C:List (Option (Nat×ε))) (l:ε),l=cn N k->Tab t N C L->Z h0 h (.au b (l.map vi) av::.au x5 [Value.pointer (some a)] fu::.au x0 [Value.pointer (some (ak t.tb))] bz::(R++L)) ->
    Wp (sh (eU .ptr (ak x0)) λ(x20:θ)=>sh (nn x20) λx21=>sh (eU .sl (x21.plus 2)) λ(x22:Sl)=>sh (mc x22 k 1) λx23=>sh (rE x23 [aC (arr b x.items.length)]) λx24=>AI (arr b x.items.length)) h λr h'=>
     ∃b L',r=arr b x.items.length/\bJ.au b ((cn N k).map vi) av∈L'/\qo t N L'/\Ext L L'/\Z h0 h' (R++L'):=by
   intro h L C l hl T z;subst hl;refine z.ld 2 (aR ?_);refine z.G4 (x:=arr t.sb N.length) (BY _ (BY _ (BY _ (abI _ T.Mu)))) rfl rfl ?_;refine Jr g1 hkr.2 ?_;have hsp:aU (C.map cs) (k.toNat*1) [aC (arr b x.items.length)]=(C.set k.toNat (some (b,cn N k))).map cs:=by
    rw[aes,<-CP (by rw[T.len];grind)];simp[cs,kB hx]
   refine Z.stM (R:=.au b ((cn N k).map vi) av::.au x5 [Value.pointer (some a)] fu::.au x0 [Value.pointer (some (ak t.tb))] bz::R) z T.Gb hsp (by rw[aeI,T.len,aes];grind) rfl λi h' hi z=>af.2 ?_;obtain⟨T',E'⟩:=T.put (b:=b) hi hkr;refine⟨b,_,rfl,IS,⟨_,T'⟩,E',Z.perm (Z.sub z ?_) Bp⟩
   simp_all
  by_cases hk:x.kind=10
  .rw[By (by grind)];refine z.ld 1 (aR ?_);refine (nd.fr z.fr).ldO ?_;have hkl:=d.map (aq hx) hk;cases ho:x.ord with
   |true=>
    rw[IE];have e:iota x.items.length=cn N k:=by
     grind [cn,j5]
    exact store h5 L C _ e T z
   |false=>
    rw[ID];unfold lV
    let cx:Cx:=⟨h0,b,x.items.length,Value.func (Fn.func jk) #[] #[Value.pointer (some (ak x0)),Value.pointer (some (ak x5))],fc+1,λLx=>∃L1,Lx=.au x5 [Value.pointer (some a)] fu::.au x0 [Value.pointer (some (ak t.tb))] bz::L1/\qo t N L1/\Ext L L1⟩
    have okc:cx.OK (Rt cx.m λu v=>kG N (nth x.keys u) (nth x.keys v)):=by
     intro n u v h R2 Lx hn hu hu2 hv hv2 ⟨L1,e,T1,E1⟩ z;subst e;have hu2:u<(x.items.length:Int):=hu2;have hv2:v<(x.items.length:Int):=hv2;obtain⟨n,rfl⟩:∃n',n=n'+1:=⟨n-1,by grind⟩;have hn:fc+1<=n+1:=hn;show Wp (aw (cl (n+1)) (n+1) (Value.func (Fn.func jk) #[] #[Value.pointer (some (ak x0)),Value.pointer (some (ak x5))]) u v) h _;unfold aw;rw[By (by rfl),ag];refine lg (c:=((ak x0,ak x5):Addr×Addr)) rfl ?_;show Wp (mJ (cl n) n u v (ak x0) (ak x5)) h _;unfold mJ;have m5:bJ.au x5 [Value.pointer (some a)] fu∈R2++(.au x5 [Value.pointer (some a)] fu::.au x0 [Value.pointer (some (ak t.tb))] bz::L1):=abI _ IS;have m0:bJ.au x0 [Value.pointer (some (ak t.tb))] bz∈R2++(.au x5 [Value.pointer (some a)] fu::.au x0 [Value.pointer (some (ak t.tb))] bz::L1):=abI _ (BY _ IS);obtain⟨ku,hku⟩:=jD (l:=x.keys) hu (by omega);obtain⟨kv,hkv⟩:=jD (l:=x.keys) hv (by omega);have ndz:=nd.fr z.fr;refine z.G4 m0 rfl rfl ?_;refine z.G4 m5 rfl rfl (aR ?_);refine ndz.Js (ndz.keys.ix hu (aB hku).2 λ_ _ c1=>c1.tC (l:=li) rfl rfl ?_);refine z.G4 m0 rfl rfl ?_;refine z.G4 m5 rfl rfl (aR ?_);refine ndz.Js (ndz.keys.ix hv (aB hkv).2 λ_ _ c1=>c1.tC (l:=li) rfl rfl ?_);rw[ag];have z2:Z h0 h ((R2++[.au x5 [Value.pointer (some a)] fu,.au x0 [Value.pointer (some (ak t.tb))] bz])++L1):=(by grind);refine (hc ku (aq hku) kv (aq hkv) n h _ L1 (by omega) T1 z2).mono λr h' hr=>af.2 ?_;obtain⟨rfl,L2,T2,E2,z3⟩:=hr;refine⟨?_,_,⟨L2,rfl,T2,E1.trans E2⟩,by grind⟩
     grind [Rt,nth]
    have st:cx.St R h5 (iota cx.m):=by
     refine⟨_,⟨L,rfl,⟨C,T⟩,.refl⟩,?_⟩;refine Z.perm z (List.Perm.cons _ ?_);exact (List.Perm.cons _ Bp).trans Bp
    rw[ag];refine (ajT (cv:=λu v=>kG N (nth x.keys u) (nth x.keys v)) (c:=cx) (hsm hk) okc (by grind) st).mono λ_ h6 hs=>?_;obtain⟨Lx,⟨L1,rfl,⟨C1,T1⟩,E1⟩,z6⟩:=hs;have z6:Z h0 h6 (.au b ((Gb (λu v=>kG N (nth x.keys u) (nth x.keys v)) x.items.length).map vi) av::.au x5 [Value.pointer (some a)] fu::.au x0 [Value.pointer (some (ak t.tb))] bz::(R++L1)):=by
     refine Z.perm z6 (List.Perm.cons _ ?_);exact ((List.Perm.cons _ Bp).trans Bp).symm
    have e:Gb (λu v=>kG N (nth x.keys u) (nth x.keys v)) x.items.length=cn N k:=by
     unfold cn j5;grind
    exact (store h6 L1 C1 _ e T1 z6).mono λr h7 hr=>by
     obtain⟨b',L',q1,q2,q3,q4,q5⟩:=hr;exact⟨b',L',q1,q2,q3,E1.trans q4,q5⟩
  .rw[AT (by grind)];have e:iota x.items.length=cn N k:=by
    grind [cn,j5]
   exact store h5 L C _ e T z
end Go.Sh
namespace Go.Sh
open Go Go.Ago Go.Proofs
variable {α β:Type}{h h' h0:aj}{L R:List bJ}{N:List al}{root:Int}{B:Nat}{Q:β->aj->Prop}
def Ms {c}{a v}(hg:gt c a=some v):(c.map vi)[a.toNat*1]?=some (vi v):=by
 rw[aes,abF,(aB hg).2];rfl
theorem BJ {c:ε}{i:Nat}{v}(hg:gt c (i:Int)=some v):c.drop i=v::c.drop (i+1):=by
 have:=(aB hg).2
 grind [Int.toNat_natCast,drop_cons]
theorem ajV {t}{fc}{x y}{a a'}{ks is ks' is'}(nd:F7 h0 a x ks is)(nd':F7 h0 a' y ks' is'){bp bq}{p q:ε}
  (hp:∀u∈p,0<=u/\u<x.items.length/\(x.kind=10->u<x.keys.length)) (hq:∀u∈q,0<=u/\u<y.items.length/\(x.kind=10->u<y.keys.length)) (hbig:p.length<1073741824)
  (hc:∀u,u∈x.keys\/u∈x.items->∀v,v∈y.keys\/v∈y.items->WC h0 t N fc u v):∀n i h R L ,fc+(min p.length q.length-i)+1<=n->i<=min p.length q.length->bJ.au bp (p.map vi) av∈L->bJ.au bq (q.map vi) av∈L->qo t N L->Z h0 h (R++L) ->
  Wp ((cl n).jC (some (ak t.tb)) (some (ak t.tb)) none (some a) (some a') (arr bp p.length) (arr bq q.length) ((min p.length q.length:Nat):Int) (i:Int)) h λr h'=>
   r=(match Bn (kG N) x y (p.drop i) (q.drop i) with|some c=>.inr c|none=>.inl ())/\∃L',qo t N L'/\Ext L L'/\Z h0 h' (R++L'):=by
 intro n
 induction n with
 |zero=>intro i h R L h1;omega
 |succ n ih=>
  intro i h R L h1 h2 mp mq T z;show Wp (sL (cl n) n (some (ak t.tb)) (some (ak t.tb)) none (some a) (some a') (arr bp p.length) (arr bq q.length) ((min p.length q.length:Nat):Int) (i:Int)) h _;unfold sL;by_cases hi:i<min p.length q.length
  .rw[By (by grind)];obtain⟨u,hu⟩:=jD (l:=p) (v:=(i:Int)) (by omega) (by omega);obtain⟨v,hv⟩:=jD (l:=q) (v:=(i:Int)) (by omega) (by omega);obtain⟨u1,u2,u3⟩:=hp u (aq hu);obtain⟨v1,v2,v3⟩:=hq v (aq hv);rw[BJ hu,BJ hv];obtain⟨iu,hiu⟩:=jD u1 u2;obtain⟨iv,hiv⟩:=jD v1 v2;have next:∀(h:aj) (L:List bJ),kG N iu iv=0->bJ.au bp (p.map vi) av∈L->bJ.au bq (q.map vi) av∈L->qo t N L->Z h0 h (R++L) ->
     Wp ((cl n).jC (some (ak t.tb)) (some (ak t.tb)) none (some a) (some a') (arr bp p.length) (arr bq q.length) ((min p.length q.length:Nat):Int) (IntKind.i64.wrap ((i:Int)+1))) h λr h'=>
      r=(match Bn (kG N) x y (p.drop (i+1)) (q.drop (i+1)) with|some c=>.inr c|none=>.inl ())/\∃L',qo t N L'/\Ext L L'/\Z h0 h' (R++L'):=by
    intro h L _ mp mq T z;rw[wX (by omega) hbig];exact ih (i+1) h R L (by omega) (by omega) mp mq T z
   have J0:∀(h:aj) (L:List bJ),(x.kind=10->kG N (nth x.keys u) (nth y.keys v)=0)->bJ.au bp (p.map vi) av∈L->bJ.au bq (q.map vi) av∈L->qo t N L->Z h0 h (R++L) ->
     Wp (jd (cl n) n (some (ak t.tb)) (some (ak t.tb)) none (some a) (some a') (arr bp p.length) (arr bq q.length) (i:Int) ((min p.length q.length:Nat):Int) (i:Int)) h λr h'=>
      r=(match Bn (kG N) x y (u::p.drop (i+1)) (v::q.drop (i+1)) with|some c=>.inr c|none=>.inl ())/\∃L',qo t N L'/\Ext L L'/\Z h0 h' (R++L'):=by
    intro h L hk mp mq T z;unfold jd;refine aR (Jr (by omega) (by omega) (aR (Jr (by omega) (by omega) ?_)));have ndz:=nd.fr z.fr;have ndz':=nd'.fr z.fr;refine ndz.Ed ?_;refine z.G4 (abI _ mp) (Ms hu) rfl ?_;refine ndz.items.ix u1 (aB hiu).2 λ_ _ c1=>c1.tC (l:=li) rfl rfl ?_;refine ndz'.Ed ?_;refine z.G4 (abI _ mq) (Ms hv) rfl ?_;refine ndz'.items.ix v1 (aB hiv).2 λ_ _ c1=>c1.tC (l:=li) rfl rfl ?_;rw[ag];refine (hc iu (.inr (aq hiu)) iv (.inr (aq hiv)) n h R L (by omega) T z).mono λr h' hr=>?_;obtain⟨rfl,L',T',E',z'⟩:=hr;have e1:nth x.items u=iu:=(by grind [nth]);have e2:nth y.items v=iv:=(by grind [nth]);have eq:Bn (kG N) x y (u::p.drop (i+1)) (v::q.drop (i+1))=if kG N iu iv≠0 then some (kG N iu iv) else Bn (kG N) x y (p.drop (i+1)) (q.drop (i+1)):=by
     conv=>lhs;unfold Bn
     grind
    rw[eq];by_cases h0':kG N iu iv=0
    .rw[AT (by grind),AT (show ¬(kG N iu iv≠0) from λe=>e h0')];exact (next h' L' h0' (E' _ _ mp) (E' _ _ mq) T' z').mono λr h2 hr=>⟨hr.1,by obtain⟨L2,t2,e2,z2⟩:=hr.2;exact⟨L2,t2,E'.trans e2,z2⟩⟩
    .rw[By (by grind),By h0'];exact af.2 ⟨rfl,L',T',E',z'⟩
   refine aR ?_;refine (nd.fr z.fr).Ov ?_;by_cases hk:x.kind=10
   .rw[By (by grind)];refine aR (Jr (by omega) (by omega) (aR (Jr (by omega) (by omega) ?_)));have ndz:=nd.fr z.fr;have ndz':=nd'.fr z.fr;obtain⟨ku,hku⟩:=jD u1 (u3 hk);obtain⟨kv,hkv⟩:=jD v1 (v3 hk);refine ndz.Js ?_;refine z.G4 (abI _ mp) (Ms hu) rfl ?_;refine ndz.keys.ix u1 (aB hku).2 λ_ _ c1=>c1.tC (l:=li) rfl rfl ?_;refine ndz'.Js ?_;refine z.G4 (abI _ mq) (Ms hv) rfl ?_;refine ndz'.keys.ix v1 (aB hkv).2 λ_ _ c1=>c1.tC (l:=li) rfl rfl ?_;rw[ag];refine (hc ku (.inl (aq hku)) kv (.inl (aq hkv)) n h R L (by omega) T z).mono λr h' hr=>?_;obtain⟨rfl,L',T',E',z'⟩:=hr;have e1:nth x.keys u=ku:=(by unfold nth;grind);have e2:nth y.keys v=kv:=(by unfold nth;grind);by_cases h0':kG N ku kv=0
    .rw[AT (by grind)];exact (J0 h' L' (λ_=>by grind) (E' _ _ mp) (E' _ _ mq) T' z').mono λr h2 hr=>⟨hr.1,by obtain⟨L2,t2,e2,z2⟩:=hr.2;exact⟨L2,t2,E'.trans e2,z2⟩⟩
    .rw[By (by grind)];unfold Bn;rw[e1,e2,By ⟨hk,h0'⟩];exact af.2 ⟨rfl,L',T',E',z'⟩
   .rw[AT (by grind)];exact J0 h L (λe=>absurd e hk) mp mq T z
  .rw[AT (by grind)];refine af.2 ⟨?_,L,T,.refl,z⟩;have:p.drop i=[]\/q.drop i=[]:=by
    grind
   rcases this with e|e
   .rw[e];cases q.drop i<;>rfl
   .rw[e];cases p.drop i<;>rfl
theorem ajW {t}(G:kP h0 t.s N)(d:Vd N root)(hB:Bd N B)(ht:∀x∈N,x.text.size<=65536){fc fe}{i j}{x y}(hx:gt N i=some x)(hy:gt N j=some y)(hi:KN N i)(hj:KN N j)
  (hfe:65600<=fe) (hfc:fc+B<=fe) (ei:aax h0 t N fe i x.items.length) (ej:aax h0 t N fe j y.items.length) (hc:∀u,u∈x.keys\/u∈x.items->∀v,v∈y.keys\/v∈y.items->WC h0 t N fc u v):WC h0 t N (fe+10) i j:=by
 intro n h R L hn T z;have hBB:=hB.2.1;obtain⟨n,rfl⟩:∃n',n=n'+2:=⟨n-2,by omega⟩;show Wp (ve (cl (n+1)) (n+1) (some (ak t.tb)) i (some (ak t.tb)) j none) h _;unfold ve;rw[ag];refine⟨((false,0):Bool×Int),h,rfl,?_⟩;show Wp (sh ((cl (n+1)).sM (some (ak t.tb)) i (some (ak t.tb)) j none) _) h _;rw[ag];rw[ad6 d hi hj hx hy];have main:Wp (wJ (cl n) n (some (ak t.tb)) i (some (ak t.tb)) j none) h λr h'=>r=Ev (kG N) x y/\∃L',qo t N L'/\Ext L L'/\Z h0 h' (R++L'):=by
  unfold wJ Ev;obtain⟨C,TC⟩:=T;have tabm:=abI R TC.Mu;refine aR (aR ?_);refine z.G4 (x:=t.s) tabm rfl rfl ?_;refine G.Ss z (aB hx).1 (aB hx).2 λa ks is nd=>?_;refine z.G4 (x:=t.s) tabm rfl rfl ?_;refine G.Ss z (aB hy).1 (aB hy).2 λa' ks' is' nd'=>?_;have ndz:=nd.fr z.fr;have ndz':=nd'.fr z.fr;refine aR (aR (ndz.Ov (ndz'.Ov ?_)));by_cases c1:x.kind<y.kind
  .rw[By (by grind),By c1];exact af.2 ⟨rfl,L,⟨C,TC⟩,.refl,z⟩
  rw[AT (by grind),AT c1];refine aR (aR (ndz.Ov (ndz'.Ov ?_)));by_cases c2:y.kind<x.kind
  .rw[By (by grind),By c2];exact af.2 ⟨rfl,L,⟨C,TC⟩,.refl,z⟩
  rw[AT (by grind),AT c2];have hk:x.kind=y.kind:=by omega
  refine aR (aR (ndz.ldO (ndz'.ldO ?_)));by_cases c3:x.ord=y.ord
  .rw[AT (by grind),AT (by grind)];refine aR (aR (aR (ndz.Ov (ndz.Jd (ndz'.Jd ?_)))));have hsx:=ht x (aq hx);have hsy:=ht y (aq hy);refine z.call (aav hsx hsy (by omega) z.wf) λr h1 hr f1 z1=>?_;subst hr;by_cases c4:vN x.kind x.text y.text=0
   .rw[AT (by grind),AT (by grind)];rw[ag];refine (ei n h1 R L (by omega) ⟨C,TC⟩ z1).mono λr h2 hr=>?_;obtain⟨bp,L1,rfl,mp,T1,E1,z2⟩:=hr;rw[ag];refine (ej n h2 R L1 (by omega) T1 z2).mono λr h3 hr=>?_;obtain⟨bq,L2,rfl,mq,T2,E2,z3⟩:=hr;have lp:=kB hx;have lq:=kB hy;have hbx:=(hB.2.2 x (aq hx)).2;have hby:=(hB.2.2 y (aq hy)).2;have em:(if ((arr bq y.items.length).len:Int)<((arr bp x.items.length).len:Int) then ((arr bq y.items.length).len:Int) else ((arr bp x.items.length).len:Int))=((min (cn N i).length (cn N j).length:Nat):Int):=by
     rw[lp,lq];show (if (y.items.length:Int)<(x.items.length:Int) then (y.items.length:Int) else (x.items.length:Int))=_
     grind
    rw[em];rw[ag];have ox:cn N i=j5 (kG N) x:=(by grind [cn]);have oy:cn N j=j5 (kG N) y:=(by grind [cn]);have key:=ajV nd nd' (λu hu=>by
      rw[ox] at hu;have:=eQ hu;exact⟨this.1,this.2,λe=>by rw[d.map (aq hx) e];grind⟩) (λu hu=>by
      rw[oy] at hu;have:=eQ hu;exact⟨this.1,this.2,λe=>by rw[d.map (aq hy) (hk▸e)];grind⟩) (by omega) hc n 0 h3 R L2 (by omega) (by omega) (E2 _ _ mp) mq T2 z3
    rw[lp,lq] at key;rw[lp,lq];refine key.mono λr h4 hr=>?_;obtain⟨hr,L3,T3,E3,z4⟩:=hr;rw[ajb,ajb,ox,oy] at hr;have fin:∃L',qo t N L'/\Ext L L'/\Z h0 h4 (R++L'):=⟨L3,T3,(E1.trans E2).trans E3,z4⟩;cases hd:Bn (kG N) x y (j5 (kG N) x) (j5 (kG N) y) with
    |some c=>rw[hd] at hr;subst hr;exact af.2 ⟨rfl,fin⟩
    |none=>
     rw[hd] at hr;subst hr;show Wp (if decide ((x.items.length:Int)<(y.items.length:Int))=true then AI (-1) else if decide ((y.items.length:Int)<(x.items.length:Int))=true then AI 1 else AI 0) h4 _;by_cases l1:x.items.length<y.items.length
     .rw[By (by grind)];simp[By l1];exact af.2 ⟨rfl,fin⟩
     .rw[AT (by grind)];simp only[AT l1];by_cases l2:y.items.length<x.items.length
      .rw[By (by grind)];simp[By l2];exact af.2 ⟨rfl,fin⟩
      .rw[AT (by grind)];simp[AT l2];exact af.2 ⟨rfl,fin⟩
   .rw[By (by grind),By c4];exact af.2 ⟨rfl,L,⟨C,TC⟩,.refl,z1⟩
  .rw[By (by grind),By c3];refine aR (ndz'.ldO ?_);cases y.ord
   .exact af.2 ⟨rfl,L,⟨C,TC⟩,.refl,z⟩
   .exact af.2 ⟨rfl,L,⟨C,TC⟩,.refl,z⟩
 refine main.mono λr h1 hr=>?_;rw[AT (by simp)];exact af.2 hr
def fuC (B d:Nat):Nat:=66000+d*(2*B+800)
theorem ad9 {t}(G:kP h0 t.s N)(d:Vd N root)(hB:Bd N B)(ht:∀x∈N,x.text.size<=65536)(hsm:∀x∈N,x.kind=10->x.items.length<50){H:Int->Nat}(hH:∀u v,KN N v->Edge N u v->H v<H u) :
  ∀e ,(∀i j,KN N i->KN N j->H i<e->H j<e->WC h0 t N (fuC B e) i j)/\∀k x,gt N k=some x->H k<=e->aax h0 t N (fuC B e+700+B) k x.items.length:=by
 intro e
 induction e with
 |zero=>
  refine⟨λi j _ _ h1=>absurd h1 (by omega),λk x hx hk=>aaz G d hB hx (hsm x (aq hx)) λu hu v hv=>?_⟩;have:=hH k u (.key (aq hx) hu) ⟨x,hx,.inl hu⟩;omega
 |succ e ih=>
  have cmp:∀i j,KN N i->KN N j->H i<e+1->H j<e+1->WC h0 t N (fuC B (e+1)) i j:=λi j hi hj h1 h2=>by
   obtain⟨x,hx⟩:=cI rfl (hi.ir d.ix);obtain⟨y,hy⟩:=cI rfl (hj.ir d.ix);have:=ajW G d hB ht hx hy hi hj (fc:=fuC B e) (by grind [fuC]) (by omega) (ih.2 i x hx (by omega)) (ih.2 j y hy (by omega)) λu hu v hv=>by
    have eu:Edge N i u:=⟨x,hx,hu⟩;have ev:Edge N j v:=⟨y,hy,hv⟩;have q1:=hH i u (.step hi eu) eu;have q2:=hH j v (.step hj ev) ev;exact ih.1 u v (.step hi eu) (.step hj ev) (by omega) (by omega)
   intro n h R L hn T z;refine this n h R L ?_ T z
   grind [fuC]
  refine⟨cmp,λk x hx hk=>?_⟩;refine aaz G d hB hx (hsm x (aq hx)) λu hu v hv=>?_;have q1:=hH k u (.key (aq hx) hu) ⟨x,hx,.inl hu⟩;have q2:=hH k v (.key (aq hx) hv) ⟨x,hx,.inl hv⟩;exact cmp u v (.key (aq hx) hu) (.key (aq hx) hv) (by omega) (by omega)
def fuE (B:Nat):Nat:=fuC B B+700+B
theorem IJ {t}(G:kP h0 t.s N)(d:Vd N root)(hB:Bd N B)(ht:∀x∈N,x.text.size<=65536)(hsm:∀x∈N,x.kind=10->x.items.length<50){k}{x}(hx:gt N k=some x):aax h0 t N (fuE B) k x.items.length:=by
 obtain⟨H,hH1,hH2⟩:=d.Mn;have h1:=(ad9 G d hB ht hsm hH2 N.length).2 k x hx (hH1 k);intro n h R L hn T z;refine h1 n h R L ?_ T z;have h2:fuC B N.length<=fuC B B:=Nat.add_le_add_left (aeQ _ hB.1) _
 grind [fuE]
end Go.Sh
namespace Go.Ago
open Go
variable {α β:Type}{h h' h0:aj}{L:List bJ}
theorem Z.Rv (z:Z h0 h L) i {st}{s}{sz n}{e}{cs new}{g}{f:Sl->M β}{Q}(hi:L[i]?=some (.sl s sz e cs g))(hn:n≠0)(hl:new.length=n*sz)(hb:s.len+n<=cP)
  (q:∀s' h' g',s'.len=s.len+n->Z h0 h' (L.set i (.sl s' sz e (cs++new) g'))->Fr (·=g) h h'->Wp (f s') h' Q):Wp (sh (Ago.app st s sz e n new) f) h Q:=by
 rw[ag];have o:uU h s sz e cs g:=z.get i hi;refine o.app z.wf hn hl hb λs' h' g' h1 hcap h2 h3 h4=>q s' h' g' h1 ?_ h4;by_cases hg:g=0
 .have h3:=h3.resolve_left (λx=>x.2 hg);have f0:Fr (λ_=>False) h h':=⟨h4.wf,h4.next,λj c g2 b e2 hj _=>h4.cells j c g2 b e2 hj λe3=>by grind,λg2 h5 _=>h4.oz g2 h5 λe3=>by grind,h4.used,h4.none,λj x hj _=>h4.maps j x hj (by omega)⟩
  have z1:=z.add f0 (o:=.sl s' sz e (cs++new) g') h2 (.inr (by simp[bJ.iL];omega));refine⟨z1.LK,z1.fr,λx hx=>z1.own x ?_,E6 rZ (List.pairwise_cons.1 z1.wY).2 λj y hj hne e2=>(List.pairwise_cons.1 z1.wY).1 y (IN hj) e2⟩
  grind
 .refine z.vR hi hg h4 h2 ?_
  grind [bJ.iL]
theorem Z.oQ (z:Z h0 h L) i {m}{kt}{fn}{n}{k v}{f:Unit->M β}{Q}(hi:L[i]?=some (.map m kt fn n))
  (q:∀h' n',Z h0 h' (L.set i (.map m kt (zW fn k v) n'))->Wp (f ()) h' Q):Wp (sh (FM kt (some m) k v) f) h Q:=by
 rw[ag];exact MB.amy (z.get i hi) z.wf λh' l fr=>q h' _ (z.vR hi (by simp[bJ.iL]) fr l (.inl rfl))
end Go.Ago
namespace Go.Sh
open Go Go.Ago Go.Proofs
variable {N:List al}{root:Int}{B:Nat}
structure NS where
 at':ε
 kX:Nat
 out:List al
def oJ (F:Int->NS->Option (Int×NS))(x:al):ε->NS->Option ((ε×ε)×NS)
 |[],S=>some (([],[]),S)
 |k::r,S=>if x.kind=10 then (match F (nth x.keys k) S with
   |none=>none
   |some (a,S1)=>match F (nth x.items k) S1 with
    |none=>none
    |some (b,S2)=>match oJ F x r S2 with
     |none=>none
     |some ((ks,is),S3)=>some ((a::ks,b::is),S3))
  else match F (nth x.items k) S with
   |none=>none
   |some (b,S2)=>match oJ F x r S2 with
    |none=>none
    |some ((ks,is),S3)=>some ((ks,b::is),S3)
noncomputable def nv (N:List al):Nat->Int->NS->Option (Int×NS)
 |0,_,_=>none
 |f+1,k,S=>match gt S.at' k,gt N k with
  |some v,some x=>if 0<=v then some (v,S) else match oJ (nv N f) x (cn N k) ⟨S.at'.set k.toNat S.kX,S.kX+1,S.out⟩ with
   |none=>none
   |some ((ks,is),S2)=>some ((S.kX:Int),⟨S2.at',S2.kX,S2.out.set S.kX ⟨x.kind,x.text,x.ord,ks,is⟩⟩)
  |_,_=>none
def nd0:al:=⟨0,ofBytes [],false,[],[]⟩
def WD (m:Nat):NS:=⟨List.replicate m (-1),0,List.replicate m nd0⟩
noncomputable def mP (N:List al)(root:Int):List al:=match nv N (N.length+1) root (WD N.length) with
 |some (_,S)=>S.out
 |none=>[]
def neg (l:ε):Nat:=l.countP (λv=>decide (v<0))
theorem Mt:∀{l} {i} {v w},l[i]?=some v->v<0->0<=w->neg (l.set i w)+1=neg l
 |[],i,v,w,h,_,_=>by simp at h
 |a::l,0,v,w,h,h1,h2=>by
  grind [neg]
 |a::l,i+1,v,w,h,h1,h2=>by
  grind [neg]
theorem neg_pos {l}{i:Nat}{v}(h:l[i]?=some v)(hv:v<0):0<neg l:=by
 grind [neg,List.countP_pos_iff,List.mem_of_getElem?]
def alE (N:List al)(m:Nat)(y:al):Prop:=y=nd0\/∃x∈N,y.kind=x.kind/\y.text=x.text/\y.ord=x.ord/\y.items.length=x.items.length/\y.keys.length=x.keys.length/\(∀v∈y.keys,IR m v)/\∀v∈y.items,IR m v
structure FD (N:List al) (S:NS):Prop where
 la:S.at'.length=N.length
 lo:S.out.length=N.length
 le:∀v∈S.at',v<(S.kX:Int)
 sum:neg S.at'+S.kX=N.length
 fr:∀y∈S.out,alE N N.length y
def FD.cle {S}(o:FD N S):S.kX<=N.length:=by have:=o.sum;omega
theorem zD {F}{x}{n}(hF:∀k S,FD N S->neg S.at'<=n->IR N.length k->∃v S',F k S=some (v,S')/\FD N S'/\neg S'.at'<=neg S.at'/\IR N.length v)
  (hk:x.kind=10->x.keys.length=x.items.length) (hI:(∀v∈x.keys,IR N.length v)/\∀v∈x.items,IR N.length v):∀(l:ε) S ,(∀a∈l,0<=a/\a<x.items.length)->FD N S->neg S.at'<=n ->
   ∃ks is S',oJ F x l S=some ((ks,is),S')/\FD N S'/\neg S'.at'<=neg S.at'/\is.length=l.length/\ks.length=(if x.kind=10 then l.length else 0)/\(∀v∈ks,IR N.length v)/\∀v∈is,IR N.length v
 |[],S,_,o,hn=>⟨[],[],S,rfl,o,aa2 _,rfl,by simp,by simp,by simp⟩
 |a::l,S,ha,o,hn=>by
  obtain⟨a1,a2⟩:=ha a IS;unfold oJ;by_cases hx:x.kind=10
  .rw[By hx];obtain⟨v,S1,e1,o1,n1,r1⟩:=hF (nth x.keys a) S o hn (hI.1 _ (bW a1 (by grind)));rw[e1];obtain⟨w,S2,e2,o2,n2,r2⟩:=hF (nth x.items a) S1 o1 (by omega) (hI.2 _ (bW a1 a2));simp only[e2];obtain⟨ks,is,S3,e3,o3,n3,l1,l2,q1,q2⟩:=zD hF hk hI l S2 (λb hb=>ha b (BY _ hb)) o2 (by omega);simp only[e3];refine⟨v::ks,w::is,S3,rfl,o3,by omega,by simp[l1],by grind,λu hu=>?_,λu hu=>?_⟩
   .grind
   grind
  .rw[AT hx];obtain⟨w,S2,e2,o2,n2,r2⟩:=hF (nth x.items a) S o hn (hI.2 _ (bW a1 a2));simp only[e2];obtain⟨ks,is,S3,e3,o3,n3,l1,l2,q1,q2⟩:=zD hF hk hI l S2 (λb hb=>ha b (BY _ hb)) o2 (by omega);simp only[e3];refine⟨ks,w::is,S3,rfl,o3,by omega,by simp[l1],by grind,q1,λu hu=>?_⟩
   grind
theorem Ex {γ:Type}{l:List γ}{i}{x y}(h:y∈l.set i x):y∈l\/y=x:=by
 grind
theorem IK (d:Vd N root):∀f k S ,FD N S->neg S.at'<f->IR N.length k->∃v S',nv N f k S=some (v,S')/\FD N S'/\neg S'.at'<=neg S.at'/\IR N.length v:=by
 intro f
 induction f with
 |zero=>grind
 |succ f ih=>
  intro k S o hf hk;obtain⟨v,hv⟩:=cI o.la hk;obtain⟨x,hx⟩:=cI rfl hk;unfold nv;rw[hv,hx];simp;have hlt:=o.le v (aq hv);have hcl:=o.cle;by_cases h0:0<=v
  .rw[By h0];exact⟨v,S,rfl,o,aa2 _,h0,by omega⟩
  .rw[AT h0];have hn:=Mt (aB hv).2 (w:=(S.kX:Int)) (by omega) (by omega);have hp:=neg_pos (aB hv).2 (by omega);have hsum:=o.sum;have o1:FD N ⟨S.at'.set k.toNat S.kX,S.kX+1,S.out⟩:=⟨by rw[ajZ];exact o.la,o.lo,λw hw=>by
    rcases Ex hw with hw|rfl
    .have:=o.le w hw
     grind
    grind,by grind,o.fr⟩
   have hord:cn N k=j5 (kG N) x:=by grind [cn]
   obtain⟨ks,is,S2,e2,o2,n2,l1,l2,q1,q2⟩:=zD (n:=f-1) (λk S o hn hk=>ih k S o (by omega) hk) (d.map (aq hx)) (d.ix x (aq hx)) (cn N k) _ (λa ha=>by rw[hord] at ha;exact eQ ha) o1 (by grind);rw[e2];simp only at n2⊢;refine⟨_,_,rfl,⟨o2.la,by rw[ajZ];exact o2.lo,o2.le,o2.sum,λy hy=>?_⟩,by grind,by omega,by omega⟩;rcases Ex hy with hy|rfl
   .exact o2.fr y hy
   .refine .inr ⟨x,aq hx,rfl,rfl,rfl,by grind [kB],?_,q1,q2⟩;show ks.length=_;rw[l2,kB hx];by_cases h10:x.kind=10
    .rw[By h10,d.map (aq hx) h10]
    .rw[AT h10,d.keys (aq hx) h10];rfl
theorem G5 m:neg (List.replicate m (-1))=m:=by
 grind [neg,List.countP_replicate]
theorem Rw:FD N (WD N.length):=⟨by simp[WD],by simp[WD],λv hv=>by
 have:=agU hv
 grind,by show neg (List.replicate _ _)+0=_;rw[G5];rfl,λy hy=>.inl (agU hy)⟩
theorem G6 (d:Vd N root):∃v S,nv N (N.length+1) root (WD N.length)=some (v,S)/\mP N root=S.out/\FD N S/\IR N.length v:=by
 obtain⟨v,S,e,o,_,r⟩:=IK d (N.length+1) root (WD N.length) Rw (by show neg (List.replicate _ _)<_;rw[G5];omega) d.rt
 grind [mP]
def pG (d:Vd N root):(mP N root).length=N.length:=by
 obtain⟨v,S,_,e,o,_⟩:=G6 d;rw[e];exact o.lo
def BK (d:Vd N root){y}(hy:y∈mP N root):alE N N.length y:=by
 obtain⟨v,S,_,e,o,_⟩:=G6 d;rw[e] at hy;exact o.fr y hy
theorem BM (d:Vd N root):lF (mP N root) (mP N root).length:=λy hy=>by
 rw[pG d];rcases BK d hy with rfl|⟨x,_,_,_,_,_,_,h1,h2⟩
 .grind [nd0]
 grind
def O8 (d:Vd N root){y}(hy:y∈mP N root):y.keys.length=(if y.kind=10 then y.items.length else 0):=by
 rcases BK d hy with rfl|⟨x,hx,h1,_,_,h4,h5,_⟩
 .rfl
 .rw[h5,h1,h4];by_cases h10:x.kind=10
  .rw[By h10,d.map hx h10]
  .rw[AT h10,d.keys hx h10];rfl
def aea (d:Vd N root)(hB:Bd N B):Bd (mP N root) B:=⟨by rw[pG d];exact hB.1,hB.2.1,λy hy=>by
 rcases BK d hy with rfl|⟨x,hx,_,_,_,h4,h5,_⟩
 .exact⟨alm _,alm _⟩
 .rw[h4,h5];exact hB.2.2 x hx⟩
end Go.Sh
namespace Go.Sh
open Go Go.Ago Go.Proofs
variable {N:List al}{root:Int}{S S1 S2 S':NS}
def BN (S:NS)(u:Int):Int:=(gt S.at' u).getD 0
def JN (S:NS)(u:Int):Prop:=∃a,gt S.at' u=some a/\0<=a
theorem JN.gt {u}(h:JN S u):gt S.at' u=some (BN S u)/\0<=BN S u:=by
 obtain⟨a,h1,h2⟩:=h
 grind [BN]
def O9 (N:List al)(S:NS)(u:Int):Prop:=∃x,Sh.gt N u=some x/\JN S u/\(∀c,Edge N u c->JN S c) /\
 Sh.gt S.out (BN S u)=some ⟨x.kind,x.text,x.ord,if x.kind=10 then (cn N u).map (λa=>BN S (nth x.keys a)) else [],(cn N u).map (λa=>BN S (nth x.items a))⟩
def WE (S:NS):Prop:=∀u w a,Sh.gt S.at' u=some a->Sh.gt S.at' w=some a->0<=a->u=w
structure NX (N:List al) (S S':NS):Prop where
 ok:FD N S'
 ng:neg S'.at'<=neg S.at'
 inj:WE S'
 ext:∀u a,Sh.gt S.at' u=some a->0<=a->Sh.gt S'.at' u=some a
 yb:∀j,j<S.kX->S'.out[j]?=S.out[j]?
 kX:S.kX<=S'.kX
 new:∀u,JN S' u->JN S u\/O9 N S' u
theorem NX.num (h:NX N S S'){u}(hu:JN S u):JN S' u/\BN S' u=BN S u:=by
 obtain⟨h1,h2⟩:=hu.gt;have:=h.ext u _ h1 h2;exact⟨⟨_,this,h2⟩,by grind [BN]⟩
theorem Ks {u}{x}(hx:gt N u=some x)(hm:oi x){a}(ha:a∈cn N u):nth x.items a∈x.items/\(x.kind=10->nth x.keys a∈x.keys):=by
 have ho:cn N u=j5 (kG N) x:=by grind [cn]
 rw[ho] at ha;obtain⟨h1,h2⟩:=eQ ha;exact⟨bW h1 h2,λhk=>bW h1 (by rw[hm hk];exact h2)⟩
theorem O9.mono (d:Vd N root)(ok:FD N S)(h:NX N S S'){u}(o:O9 N S u):O9 N S' u:=by
 obtain⟨x,hx,hu,hc,hy⟩:=o;obtain⟨n1,n2⟩:=h.num hu;obtain⟨g1,g2⟩:=hu.gt;have ce:∀c,Edge N u c->BN S' c=BN S c:=λc e=>(h.num (hc c e)).2;refine⟨x,hx,n1,λc e=>(h.num (hc c e)).1,?_⟩;have e1:(cn N u).map (λa=>BN S' (nth x.items a))=(cn N u).map (λa=>BN S (nth x.items a)):=alA λa ha=>ce _ ⟨x,hx,.inr (Ks hx (d.map (aq hx)) ha).1⟩;rw[n2,e1];have e2:(if x.kind=10 then (cn N u).map (λa=>BN S' (nth x.keys a)) else [])=if x.kind=10 then (cn N u).map (λa=>BN S (nth x.keys a)) else []:=by
  by_cases hk:x.kind=10
  .rw[By hk,By hk];exact alA λa ha=>ce _ ⟨x,hx,.inl ((Ks hx (d.map (aq hx)) ha).2 hk)⟩
  grind
 rw[e2,<-hy];have hlt:=ok.le _ (aq g1);unfold Sh.gt;rw[By g2,By g2];exact h.yb _ (by omega)
def NX.refl (ok:FD N S)(inj:WE S):NX N S S:=⟨ok,aa2 _,inj,λ_ _ h _=>h,λ_ _=>rfl,aa2 _,λ_ h=>.inl h⟩
theorem NX.trans (d:Vd N root)(h:NX N S S1)(h':NX N S1 S2):NX N S S2:=
 ⟨h'.ok,abK h'.ng h.ng,h'.inj,λu a h1 h2=>h'.ext u a (h.ext u a h1 h2) h2,λj hj=>(h'.yb j (alg hj h.kX)).trans (h.yb j hj),abK h.kX h'.kX,λu hu=>by
  rcases h'.new u hu with q|q
  .rcases h.new u q with q|q
   .grind
   .exact .inr (q.mono d h.ok h')
  grind⟩
theorem IM (d:Vd N root){f}{x}(hx:x∈N)(hF:∀k S v S',FD N S->WE S->neg S.at'<f->IR N.length k->nv N f k S=some (v,S')->NX N S S'/\gt S'.at' k=some v/\0<=v) :
  ∀(l:ε) S ks is S' ,(∀a∈l,0<=a/\a<x.items.length)->FD N S->WE S->neg S.at'<f->oJ (nv N f) x l S=some ((ks,is),S') ->
   NX N S S'/\is=l.map (λa=>BN S' (nth x.items a))/\(ks=if x.kind=10 then l.map (λa=>BN S' (nth x.keys a)) else [])/\∀a∈l,JN S' (nth x.items a)/\(x.kind=10->JN S' (nth x.keys a))
 |[],S,ks,is,S',_,ok,inj,_,h=>by
  cases h;exact⟨.refl ok inj,rfl,by simp,λa ha=>(by cases ha)⟩
 |a::l,S,ks,is,S',hl,ok,inj,hn,h=>by
  obtain⟨a1,a2⟩:=hl a IS;have hI:=d.ix x hx;have one:∀{k v:Int} {T T':NS},gt T.at' k=some v->0<=v->NX N T T'->JN T' k/\v=BN T' k:=λh1 h2 h3=>by
   have:=h3.ext _ _ h1 h2;exact⟨⟨_,this,h2⟩,by grind [BN]⟩
  unfold oJ at h;by_cases hk:x.kind=10
  .rw[By hk] at h;cases e1:nv N f (nth x.keys a) S with
   |none=>grind
   |some q1=>
   obtain⟨v1,S1⟩:=q1;rw[e1] at h;simp at h;cases e2:nv N f (nth x.items a) S1 with
   |none=>grind
   |some q2=>
   obtain⟨v2,S2⟩:=q2;rw[e2] at h;simp at h;cases e3:oJ (nv N f) x l S2 with
   |none=>grind
   |some q3=>
   obtain⟨⟨ks2,is2⟩,S3⟩:=q3;rw[e3] at h;cases h;obtain⟨x1,g1,p1⟩:=hF _ S v1 S1 ok inj hn (hI.1 _ (bW a1 (by rw[d.map hx hk];exact a2))) e1;obtain⟨x2,g2,p2⟩:=hF _ S1 v2 S2 x1.ok x1.inj (ams x1.ng hn) (hI.2 _ (bW a1 a2)) e2;obtain⟨x3,h1,h2,h3⟩:=IM d hx hF l S2 ks2 is2 _ (λb hb=>hl b (BY _ hb)) x2.ok x2.inj (ams (abK x2.ng x1.ng) hn) e3;obtain⟨r1,r2⟩:=one g1 p1 (x2.trans d x3);obtain⟨r3,r4⟩:=one g2 p2 x3;rw[By hk] at h2;refine⟨(x1.trans d x2).trans d x3,by grind,by grind,λb hb=>?_⟩;rcases List.mem_cons.1 hb with rfl|hb
   .grind
   grind
  .rw[AT hk] at h;cases e2:nv N f (nth x.items a) S with
   |none=>grind
   |some q2=>
   obtain⟨v2,S2⟩:=q2;rw[e2] at h;simp at h;cases e3:oJ (nv N f) x l S2 with
   |none=>grind
   |some q3=>
   obtain⟨⟨ks2,is2⟩,S3⟩:=q3;rw[e3] at h;cases h;obtain⟨x2,g2,p2⟩:=hF _ S v2 S2 ok inj hn (hI.2 _ (bW a1 a2)) e2;obtain⟨x3,h1,h2,h3⟩:=IM d hx hF l S2 _ is2 _ (λb hb=>hl b (BY _ hb)) x2.ok x2.inj (ams x2.ng hn) e3;obtain⟨r3,r4⟩:=one g2 p2 x3;rw[AT hk] at h2;refine⟨x2.trans d x3,by grind,by grind,λb hb=>?_⟩
   grind
theorem alF (d:Vd N root):∀f k S v S' ,FD N S->WE S->neg S.at'<f->IR N.length k->nv N f k S=some (v,S')->NX N S S'/\gt S'.at' k=some v/\0<=v
 |0,k,S,v,S',_,_,h,_,_=>by omega
 |f+1,k,S,v,S',ok,inj,hf,hk,h=>by
  obtain⟨v0,T,e0,ok',ng',_⟩:=IK d (f+1) k S ok hf hk;rw[h] at e0;cases e0;obtain⟨w,hw⟩:=cI ok.la hk;obtain⟨x,hx⟩:=cI rfl hk;unfold nv at h;rw[hw,hx] at h;simp at h;have hlt:=ok.le w (aq hw);have hcl:=ok.cle;by_cases h0:0<=w
  .rw[By h0] at h;cases h;exact⟨.refl ok inj,hw,h0⟩
  .rw[AT h0] at h;have hn:=Mt (aB hw).2 (w:=(S.kX:Int)) (by omega) (by omega);have hp:=neg_pos (aB hw).2 (by omega);have hsum:=ok.sum;have o1:FD N ⟨S.at'.set k.toNat S.kX,S.kX+1,S.out⟩:=⟨by rw[ajZ];exact ok.la,ok.lo,λw hw=>by
    rcases Ex hw with hw|rfl
    .have:=ok.le w hw
     grind
    grind,by grind,ok.fr⟩
   have gs:∀u,gt (S.at'.set k.toNat (S.kX:Int)) u=if u=k then some (S.kX:Int) else gt S.at' u:=λu=>fY (mX hw);have i1:WE ⟨S.at'.set k.toNat S.kX,S.kX+1,S.out⟩:=λu w a h1 h2 h3=>by
    simp at h1 h2;rw[gs] at h1 h2;split at h1<;>split at h2
    .grind
    .cases h1;have:=ok.le _ (aq h2);omega
    .cases h2;have:=ok.le _ (aq h1);omega
    .exact inj u w a h1 h2 h3
   cases hlp:oJ (nv N f) x (cn N k) ⟨S.at'.set k.toNat S.kX,S.kX+1,S.out⟩ with
   |none=>grind
   |some q=>
   obtain⟨⟨ks,is⟩,S2⟩:=q;rw[hlp] at h;cases h;have hord:cn N k=j5 (kG N) x:=by grind [cn]
   obtain⟨X,hi,hks,hnum⟩:=IM d (aq hx) (λk S v S' a b c e=>alF d f k S v S' a b c e) (cn N k) _ ks is S2 (λa ha=>by rw[hord] at ha;exact eQ ha) o1 i1 (by grind) hlp;have gk:gt S2.at' k=some (S.kX:Int):=X.ext k _ (by grind) (by omega);have nk:BN S2 k=(S.kX:Int):=by grind [BN]
   have hc2:=X.kX;simp at hc2;have lo2:=X.ok.lo;have nmbe:∀u,BN ⟨S2.at',S2.kX,S2.out.set S.kX ⟨x.kind,x.text,x.ord,ks,is⟩⟩ u=BN S2 u:=λ_=>rfl;have nume:∀u,JN S2 u->JN ⟨S2.at',S2.kX,S2.out.set S.kX ⟨x.kind,x.text,x.ord,ks,is⟩⟩ u:=λ_ h=>h;have chld:∀c,Edge N k c->JN S2 c:=λc ⟨y,hy,hm⟩=>by
    rw[hx] at hy;cases hy;have pos:∀{i:Nat},i<x.items.length->(i:Int)∈cn N k:=λ{i} hi=>by
     rw[hord];exact (uk (kG N) x).mem_iff.2 (IN (mO hi))
    rcases hm with hm|hm
    .obtain⟨i,hi'⟩:=List.mem_iff_getElem?.1 hm;have hk10:x.kind=10:=aef λq=>(by rw[d.keys (aq hx) q] at hi';grind);have:=(hnum i (pos (by rw[<-d.map (aq hx) hk10];grind))).2 hk10
     grind [gO]
    .obtain⟨i,hi'⟩:=List.mem_iff_getElem?.1 hm
     grind [aZ,gO]
   refine⟨⟨ok',ng',X.inj,λu a h1 h2=>?_,λj hj=>?_,by grind,λu hu=>?_⟩,gk,by omega⟩
   .have hne:u≠k:=λe=>(by grind);exact X.ext u a (by grind) h2
   .simp;rw[aok (by omega)];exact X.yb j (by grind)
   .by_cases e:u=k
    .subst e;refine .inr ⟨x,hx,⟨_,gk,by omega⟩,chld,?_⟩;rw[nmbe,nk];unfold Sh.gt
     grind
    .rcases X.new u hu with q|⟨y,hy,q1,q2,q3⟩
     .obtain⟨a,r1,r2⟩:=q;simp at r1;rw[gs,AT e] at r1;exact .inl ⟨a,r1,r2⟩
     .refine .inr ⟨y,hy,q1,q2,?_⟩;obtain⟨r1,r2⟩:=q1.gt;have hne:BN S2 u≠(S.kX:Int):=λe2=>e (X.inj u k _ (by grind) gk (by omega));rw[nmbe];unfold Sh.gt at q3⊢
      grind
theorem aaA (g:GV N root)(d:Vd N root):∃φ,Bo N root (mP N root) φ/\φ root=0/\∀u x,gt N u=some x->∃x',gt (mP N root) (φ u)=some x'/\x'.items=(cn N u).map (λa=>φ (nth x.items a))/\(x.kind=10->x'.keys=(cn N u).map (λa=>φ (nth x.keys a))):=by
 obtain⟨v,S,e,e2,ok,hv⟩:=G6 d;have n0:∀u,¬JN (WD N.length) u:=λu ⟨a,h1,h2⟩=>by
  have:=agU (aq h1);omega
 obtain⟨X,gr,_⟩:=alF d (N.length+1) root (WD N.length) v S Rw (λu w a h1 _ h2=>absurd ⟨a,h1,h2⟩ (n0 u)) (by show neg (List.replicate _ _)<_;rw[G5];omega) d.rt e;have v0:v=0:=by
  obtain⟨w,hw⟩:=cI (l:=(WD N.length).at') (by simp[WD]) d.rt;obtain⟨x,hx⟩:=cI rfl d.rt;have hw1:=agU (aq hw);unfold nv at e;rw[hw,hx] at e;simp at e;rw[AT (by omega)] at e;split at e
  .cases e
  .cases e;rfl
 subst v0;have oo:∀u,JN S u->O9 N S u:=λu h=>(X.new u h).resolve_left (n0 u);have all:∀u,iC N root u->JN S u:=λu r=>by
  induction r with
  |refl=>exact⟨0,gr,agE _⟩
  |step _ e ih=>obtain⟨_,_,_,h,_⟩:=oo _ ih;grind
 have nir:∀u,IR N.length u->JN S u:=λu hu=>all u (g.PW u hu);have hlt:∀u,JN S u->BN S u<(N.length:Int):=λu h=>by
  have:=ok.le _ (aq h.gt.1);have:=ok.cle;omega
 have inj:∀u w,JN S u->JN S w->BN S u=BN S w->u=w:=λu w h1 h2 e=>X.inj u w _ h1.gt.1 (by rw[e];exact h2.gt.1) h1.gt.2;have out:∀u x,gt N u=some x->gt (mP N root) (BN S u)=some ⟨x.kind,x.text,x.ord,if x.kind=10 then (cn N u).map (λa=>BN S (nth x.keys a)) else [],(cn N u).map (λa=>BN S (nth x.items a))⟩:=λu x hx=>by
  obtain⟨y,hy,_,_,h⟩:=oo u (nir u (mX hx))
  grind
 refine⟨BN S,⟨λu x _ hx=>⟨_,out u x hx,rfl,rfl,rfl,cn N u,?_,?_,rfl,rfl⟩,λu w h1 h2=>inj u w (all u h1) (all w h2),λw hw=>?_,by rw[pG d];grind⟩,by grind [BN],λu x hx=>⟨_,out u x hx,rfl,λhk=>by grind⟩⟩
 .grind [cn,uk]
 .intro hn;unfold cn;rw[hx];simp;unfold j5;grind
 .rw[pG d] at hw;obtain⟨a,ha,e3⟩:=aaw (n:=N.length) (R:=λa b=>BN S (a:Int)=(b:Int)) (λa ha=>by
   have h1:=nir (a:Int) ⟨by omega,by omega⟩;have h2:=hlt _ h1;have h3:=h1.gt.2;exact⟨(BN S (a:Int)).toNat,by omega,by omega⟩) (λa a' b ha ha' h1 h2=>by
   have:=inj _ _ (nir (a:Int) ⟨by omega,by omega⟩) (nir (a':Int) ⟨by omega,by omega⟩) (h1.trans h2.symm);omega) w.toNat (by have:=hw.1;have:=hw.2;omega)
  exact⟨(a:Int),g.PW _ ⟨by omega,by omega⟩,by rw[e3];have:=hw.1;omega⟩
end Go.Sh
namespace Go.Sh
open Go Go.Ago Go.Proofs
variable {α β:Type}{h h' h0:aj}{L R J:List bJ}{N:List al}{root:Int}{B:Nat}{Q:β->aj->Prop}
structure NC where
 ab:Nat
 x8:Nat
 rJ:Nat
 x0:Nat
 x4:Nat
 xa:Nat
 nb:Nat
 kH:Nat
 m:Nat
 t:TbC
 B:Nat
abbrev NC.fn (c:NC):ο:=Value.func (Fn.func pM) #[] #[Value.pointer (some (ak c.x8)),Value.pointer (some (ak c.rJ)),Value.pointer (some (ak c.x0)),Value.pointer (some (ak c.x4)),Value.pointer (some (ak c.xa)),Value.pointer (some (ak c.kH))]
def ML (c:NC)(S:NS)(O:List cm):List bJ:=[.au c.rJ [vi S.kX] av,.au c.ab (S.at'.map vi) av,.au c.nb (O.flatMap cm.enc) ar,.au c.x8 [aC (arr c.ab c.m)] aJ,.au c.x0 [aC c.t.s,vi c.t.root] ah,
 .au c.x4 [Value.pointer (some (ak c.t.tb))] bz,.au c.xa [c.fn] qt,.au c.kH [aC (arr c.nb c.m),vi 0] ah]
def RO (r:cm)(J:List bJ):Prop:=((r.ks.len=0/\r.kl=[])\/bJ.sl r.ks 1 av (r.kl.map vi) r.kg∈J)/\((r.is.len=0/\r.il=[])\/bJ.sl r.is 1 av (r.il.map vi) r.ig∈J)
def RO.mono {r}{J J'}(hr:RO r J)(hs:∀o∈J,o∈J'):RO r J':=⟨hr.1.imp id (hs _),hr.2.imp id (hs _)⟩
def Xc (h0:aj)(c:NC)(S:NS)(h:aj)(R J L:List bJ):Prop:=∃O:List cm,O.map cm.v=S.out/\(∀r∈O,RO r J)/\Z h0 h (ML c S O++(R++(J++L)))
def fuV (B f:Nat):Nat:=fuE B+f*(B+5)+5
def alG (h0:aj)(c:NC)(N:List al)(f:Nat):Prop:=∀(n:Nat) (h:aj) (k:Int) (S:NS) (v:Int) (S':NS) (R J L:List bJ),fuV c.B f<=n->nv N f k S=some (v,S')->FD N S->neg S.at'<f->qo c.t N L->Xc h0 c S h R J L ->
 Wp ((aO.at n).mL k (ak c.x8) (ak c.rJ) (ak c.x0) (ak c.x4) (ak c.xa) (ak c.kH)) h λr h'=>r=v/\∃J' L',qo c.t N L'/\Ext L L'/\Xc h0 c S' h' R J' L'
def FR (mb:Nat)(x:al)(ksl isl:Sl)(kl il:ε)(gk gi:Nat):List bJ:=[.au mb [vi x.kind,.string x.text,.bool x.ord,aC ksl,aC isl] ar,.sl ksl 1 av (kl.map vi) gk,.sl isl 1 av (il.map vi) gi]
theorem BP {M F R X:List bJ}:(M++((F++R)++X)).Perm (F++(M++(R++X))):=by
 grind [List.append_assoc,List.perm_append_comm_assoc]
def ak7 {s}{kl:ε}{g}{o:uU h s 1 av (kl.map vi) g}:s.len=kl.length:=by have:=o.1;simp at this;omega
theorem alH {f}{k}{S}{v}{S'}(h:nv N f k S=some (v,S')):∃w x,gt S.at' k=some w/\gt N k=some x:=by
 cases f with
 |zero=>cases h
 |succ f=>
  grind [nv]
theorem WG (d:Vd N root){f}{x}(hx:x∈N){l:ε}(hl:∀a∈l,0<=a/\a<x.items.length){S S'}{ks is}(o:FD N S)(hn:neg S.at'<f)(h:oJ (nv N f) x l S=some ((ks,is),S')):FD N S'/\neg S'.at'<=neg S.at'/\is.length=l.length/\ks.length<=l.length:=by
 obtain⟨ks',is',S2,e,o2,n2,l1,l2,_⟩:=zD (n:=f-1) (F:=nv N f) (x:=x) (λk S o hn hk=>IK d f k S o (by omega) hk) (d.map hx) (d.ix x hx) l S hl o (by omega)
 grind
theorem ajX (d:Vd N root){c}(hm:c.B<1073741824){f}(V:alG h0 c N f){x}(hx:x∈N){a}{ks0 is0}(nd:F7 h0 a x ks0 is0){mb be}{l:ε}(hl:∀a∈l,0<=a/\a<x.items.length)(hll:l.length<=c.B) me :
  ∀n i S S' ks is kl il ksl isl gk gi h J L ,fuV c.B f+(l.length-i)+1<=n->i<=l.length->oJ (nv N f) x (l.drop i) S=some ((ks,is),S')->FD N S->neg S.at'<f->kl.length<=i->il.length<=i->bJ.au be (l.map vi) av∈L->qo c.t N L ->
   Xc h0 c S h (FR mb x ksl isl kl il gk gi++R) J L ->
   Wp ((aO.at n).jn (ak c.xa) (ak c.kH) me (some a) (ak mb) (arr be l.length) (l.length:Int) (i:Int)) h λ_ h'=>∃ksl isl gk gi J' L',qo c.t N L'/\Ext L L'/\Xc h0 c S' h' (FR mb x ksl isl (kl++ks) (il++is) gk gi++R) J' L':=by
 intro n
 induction n with
 |zero=>intro i S S' ks is kl il ksl isl gk gi h J L h1;omega
 |succ n ih=>
  intro i S S' ks is kl il ksl isl gk gi h J L h1 h2 hv ok hneg hkl hil hbe T ⟨O,hO,hRO,z⟩;show Wp (ql (aO.at n) n (ak c.xa) (ak c.kH) me (some a) (ak mb) (arr be l.length) (l.length:Int) (i:Int)) h _;unfold ql;by_cases hi:i<l.length
  .rw[By (by simpa using hi)];obtain⟨u,hu⟩:=jD (l:=l) (v:=(i:Int)) (by omega) (by omega);obtain⟨u1,u2⟩:=hl u (aq hu);rw[BJ hu] at hv;obtain⟨iu,hiu⟩:=jD u1 u2;have ei:nth x.items u=iu:=by unfold nth;rw[hiu];rfl
   refine z.rdM (abI _ (abI _ (abI _ hbe))) hu rfl ?_;refine aR ((nd.fr z.fr).Ov ?_);have call:∀(h:aj) (k:Int) (S1:NS) (v:Int) (S2:NS) (ksl isl:Sl) (kl il:ε) (gk gi:Nat) (J L:List bJ) (ads:Addr) (fv:ο) (Q:Int->aj->Prop) (γ:Type) (K:Int->M γ) (Q2:γ->aj->Prop),ads.block=mb->fv=c.fn->nv N f k S1=some (v,S2)->FD N S1->neg S1.at'<f->qo c.t N L ->
     Xc h0 c S1 h (FR mb x ksl isl kl il gk gi++R) J L->(∀h' J' L',qo c.t N L'->Ext L L'->Xc h0 c S2 h' (FR mb x ksl isl kl il gk gi++R) J' L'->Wp (K v) h' Q2) ->
     Wp (sh (Ago.uC [some ads] (jf (aO.at n) n fv k)) K) h Q2:=by
    intro h k S1 v S2 ksl isl kl il gk gi J L ads fv Q γ K Q2 ha hf hv ok hng T st q;subst hf;have lb:∀{S:NS} {h:aj} {J L:List bJ},Xc h0 c S h (FR mb x ksl isl kl il gk gi++R) J L->LB h mb [vi x.kind,.string x.text,.bool x.ord,aC ksl,aC isl] ar:=λ⟨O,_,_,z⟩=>by
     have:=(z.own (.au mb [vi x.kind,.string x.text,.bool x.ord,aC ksl,aC isl] ar) (abI _ (adO _ (adO _ IS)))).1;exact this
    refine IB (P:=λr h'=>r=v/\∃J' L',qo c.t N L'/\Ext L L'/\Xc h0 c S2 h' (FR mb x ksl isl kl il gk gi++R) J' L') (λb hb=>?_) ?_ λr h' hr=>?_
    .grind
    .unfold jf;rw[By (by rfl),ag];refine lg (c:=((ak c.x8,ak c.rJ,ak c.x0,ak c.x4,ak c.xa,ak c.kH):Addr×Addr×Addr×Addr×Addr×Addr)) rfl ?_;exact V n h k S1 v S2 _ J L (by omega) hv ok hng T st
    .obtain⟨rfl,J',L',T',E',st'⟩:=hr;exact q h' J' L' T' E' st'
   have J0:∀(h:aj) (S1:NS) (kl:ε) (ksl:Sl) (gk:Nat) (J L:List bJ) (b:Int) (S2:NS) (ks is:ε),nv N f iu S1=some (b,S2)->oJ (nv N f) x (l.drop (i+1)) S2=some ((ks,is),S')->FD N S1->neg S1.at'<f->kl.length<=i+1->bJ.au be (l.map vi) av∈L->qo c.t N L ->
     Xc h0 c S1 h (FR mb x ksl isl kl il gk gi++R) J L->Wp (im (aO.at n) n (ak c.xa) (ak c.kH) me (some a) (ak mb) u (arr be l.length) (l.length:Int) (i:Int)) h λ_ h'=>∃ksl isl gk gi J' L',qo c.t N L'/\Ext L L'/\Xc h0 c S' h' (FR mb x ksl isl (kl++ks) (il++(b::is)) gk gi++R) J' L':=by
    intro h S1 kl ksl gk J L b S2 ks is hv1 hv2 ok hneg hkl hbe T st;unfold im;obtain⟨O,hO,hRO,z⟩:=st;refine aR ?_;refine z.G4 (x:=isl) (abI _ (adO _ (adO _ IS))) rfl rfl ?_;refine z.G4 (cs:=[c.fn]) (e:=qt) (adO _ (by simp[ML])) rfl rfl ?_;refine (nd.fr z.fr).Ed ((nd.fr z.fr).items.ix u1 (aB hiu).2 λ_ _ c1=>c1.tC (l:=li) rfl rfl ?_);refine call h iu S1 b S2 ksl isl kl il gk gi J L _ _ (λ_ _=>True) _ _ _ rfl rfl hv1 ok hneg T ⟨O,hO,hRO,z⟩ λh' J' L' T' E' st'=>?_;obtain⟨O',hO',hRO',z'⟩:=st';have zf:=Z.perm z' BP;have ilen:isl.len=il.length:=by
     have o:uU h' isl 1 av (il.map vi) gi:=zf.get 2 rfl;have:=o.1;simp at this;omega
    refine Z.Rv zf 2 rfl (by omega) rfl (by rw[ilen];unfold cP;omega) λs' h2 g' hs' z2 _=>?_;have z2:Z h0 h2 ([.au mb [vi x.kind,.string x.text,.bool x.ord,aC ksl,aC isl] ar,.sl ksl 1 av (kl.map vi) gk,.sl s' 1 av (il.map vi++[vi b]) g']++(ML c S2 O'++(R++(J'++L')))):=z2;refine z2.st 0 (cs':=[vi x.kind,.string x.text,.bool x.ord,aC ksl,aC s']) λh3 z3=>?_;have z3:Z h0 h3 (FR mb x ksl s' kl (il++[b]) gk g'++(ML c S2 O'++(R++(J'++L')))):=by
     show Z h0 h3 (_::_::.sl s' 1 av ((il++[b]).map vi) g'::_);rw[ajt];exact z3
    have hok:FD N S2/\neg S2.at'<=neg S1.at':=by
     obtain⟨v',S'',e,o,n',_⟩:=IK d f iu S1 ok hneg ((d.ix x hx).2 iu (aq hiu));rw[hv1] at e;cases e;exact⟨o,n'⟩
    rw[wX (by omega) hm];have st3:Xc h0 c S2 h3 (FR mb x ksl s' kl (il++[b]) gk g'++R) J' L':=⟨O',hO',hRO',Z.perm z3 BP.symm⟩;refine (ih (i+1) S2 S' ks is kl (il++[b]) ksl s' gk g' h3 J' L' (by omega) (by omega) hv2 hok.1 (by omega) hkl (by simp;omega) (E' _ _ hbe) T' st3).mono λ_ h4 hr=>?_;obtain⟨ksl,isl,gk,gi,J2,L2,T2,E2,st4⟩:=hr;refine⟨ksl,isl,gk,gi,J2,L2,T2,E'.trans E2,?_⟩;rw[abM] at st4;exact st4
   unfold oJ at hv;by_cases hk:x.kind=10
   .rw[By hk] at hv;rw[By (by simpa using hk)];obtain⟨ku,hku⟩:=jD u1 (by rw[d.map hx hk];exact u2);have ek:nth x.keys u=ku:=(by unfold nth;rw[hku];rfl);rw[ek,ei] at hv;cases e1:nv N f ku S with
    |none=>rw[e1] at hv;cases hv
    |some q1=>
    obtain⟨a1,S1⟩:=q1;rw[e1] at hv;simp at hv;cases e2:nv N f iu S1 with
    |none=>rw[e2] at hv;cases hv
    |some q2=>
    obtain⟨b1,S2⟩:=q2;rw[e2] at hv;simp at hv;cases e3:oJ (nv N f) x (l.drop (i+1)) S2 with
    |none=>rw[e3] at hv;cases hv
    |some q3=>
    obtain⟨⟨ks2,is2⟩,S3⟩:=q3;rw[e3] at hv;cases hv;have hok:FD N S1/\neg S1.at'<=neg S.at':=by
     obtain⟨v',S'',e,o,n',_⟩:=IK d f ku S ok hneg ((d.ix x hx).1 ku (aq hku));rw[e1] at e;cases e;exact⟨o,n'⟩
    refine aR ?_;refine z.G4 (x:=ksl) (abI _ (adO _ (adO _ IS))) rfl rfl ?_;refine z.G4 (cs:=[c.fn]) (e:=qt) (adO _ (by simp[ML])) rfl rfl ?_;refine (nd.fr z.fr).Js ((nd.fr z.fr).keys.ix u1 (aB hku).2 λ_ _ c1=>c1.tC (l:=li) rfl rfl ?_);refine call h ku S a1 S1 ksl isl kl il gk gi J L _ _ (λ_ _=>True) _ _ _ rfl rfl e1 ok hneg T ⟨O,hO,hRO,z⟩ λh' J' L' T' E' st'=>?_;obtain⟨O',hO',hRO',z'⟩:=st';have zf:=Z.perm z' BP;have klen:ksl.len=kl.length:=by
     have o:uU h' ksl 1 av (kl.map vi) gk:=zf.get 1 rfl;have:=o.1;simp at this;omega
    refine Z.Rv zf 1 rfl (by omega) rfl (by rw[klen];unfold cP;omega) λs' h2 g' hs' z2 _=>?_;have z2:Z h0 h2 ([.au mb [vi x.kind,.string x.text,.bool x.ord,aC ksl,aC isl] ar,.sl s' 1 av (kl.map vi++[vi a1]) g',.sl isl 1 av (il.map vi) gi]++(ML c S1 O'++(R++(J'++L')))):=z2;refine z2.st 0 (cs':=[vi x.kind,.string x.text,.bool x.ord,aC s',aC isl]) λh3 z3=>?_;have z3:Z h0 h3 (FR mb x s' isl (kl++[a1]) il g' gi++(ML c S1 O'++(R++(J'++L')))):=by
     show Z h0 h3 (_::.sl s' 1 av ((kl++[a1]).map vi) g'::_);rw[ajt];exact z3
    refine (J0 h3 S1 (kl++[a1]) s' g' J' L' b1 S2 ks2 is2 e2 e3 hok.1 (by omega) (by simp;omega) (E' _ _ hbe) T' ⟨O',hO',hRO',Z.perm z3 BP.symm⟩).mono λ_ h4 hr=>?_;obtain⟨ksl,isl,gk,gi,J2,L2,T2,E2,st4⟩:=hr;refine⟨ksl,isl,gk,gi,J2,L2,T2,E'.trans E2,?_⟩;rw[abM] at st4;exact st4
   .rw[AT hk] at hv;rw[AT (by simpa using hk)];rw[ei] at hv;cases e2:nv N f iu S with
    |none=>rw[e2] at hv;cases hv
    |some q2=>
    obtain⟨b1,S2⟩:=q2;rw[e2] at hv;simp at hv;cases e3:oJ (nv N f) x (l.drop (i+1)) S2 with
    |none=>rw[e3] at hv;cases hv
    |some q3=>
    obtain⟨⟨ks2,is2⟩,S3⟩:=q3;rw[e3] at hv;cases hv;exact J0 h S kl ksl gk J L b1 S2 ks is2 e2 e3 ok hneg (by omega) hbe T ⟨O,hO,hRO,z⟩
  .rw[AT (by simpa using hi)];rw[abG (by omega)] at hv;unfold oJ at hv;cases hv;refine af.2 ⟨ksl,isl,gk,gi,J,L,T,.refl,?_⟩;rw[agj,agj];exact⟨O,hO,hRO,z⟩
end Go.Sh
namespace Go.Sh
open Go Go.Ago Go.Proofs
variable {α β:Type}{h h' h0:aj}{L R J:List bJ}{N:List al}{root:Int}{B:Nat}{Q:β->aj->Prop}
def aaB B f:fuV B (f+1)=fuV B f+(B+5):=by unfold fuV;rw[af3];omega
def Rx {O:List cm}{i}{r}:(O.set i r).map cm.v=(O.map cm.v).set i r.v:=by rw[anz]
theorem aaC (d:Vd N root)(hB:Bd N B)(ht:∀x∈N,x.text.size<=65536)(hsm:∀x∈N,x.kind=10->x.items.length<50){c}(G:kP h0 c.t.s N)(hm:c.m=N.length)(hBm:∀x∈N,x.items.length<=c.B)(hBc:Bd N c.B):∀f,f<=N.length+1->alG h0 c N f:=by
 intro f
 induction f with
 |zero=>intro _ n h k S v S' R J L _ hv;cases hv
 |succ f ih=>
  intro hf n h k S v S' R J L hn hv ok hng T st;have V:=ih (by omega);rw[aaB] at hn;obtain⟨w,x,hw,hx⟩:=alH hv;have hkr:IR N.length k:=mX hx;have hBB:=hBc.2.1;obtain⟨n,rfl⟩:∃n',n=n'+1:=⟨n-1,by omega⟩;show Wp (ud (aO.at n) n k (ak c.x8) (ak c.rJ) (ak c.x0) (ak c.x4) (ak c.xa) (ak c.kH)) h _;unfold ud;obtain⟨O,hO,hRO,z⟩:=st;have lo:O.length=N.length:=by have:=akL List.length hO;rw[aeI,ok.lo] at this;exact this
  have mML:∀{o:bJ} {S:NS} {O:List cm},o∈ML c S O->o∈ML c S O++(R++(J++L)):=λh=>adO _ h;refine z.ld 3 (x:=arr c.ab c.m) ?_;refine z.JK 1 hw (by rw[ok.la,hm]) ?_;unfold nv at hv;rw[hw,hx] at hv;simp at hv;by_cases h0':0<=w
  .rw[By h0'] at hv;cases hv;rw[By (by simpa using h0')];refine z.ld 3 (x:=arr c.ab c.m) ?_;refine z.JK 1 hw (by rw[ok.la,hm]) (af.2 ⟨rfl,J,L,T,.refl,O,hO,hRO,z⟩)
  .rw[AT h0'] at hv;rw[AT (by simpa using h0')];cases hlp:oJ (nv N f) x (cn N k) ⟨S.at'.set k.toNat S.kX,S.kX+1,S.out⟩ with
   |none=>rw[hlp] at hv;cases hv
   |some q=>
   obtain⟨⟨ks,is⟩,S2⟩:=q;rw[hlp] at hv;cases hv;have hlt:=ok.le w (aq hw);have hcl:=ok.cle;have hn':=Mt (aB hw).2 (w:=(S.kX:Int)) (by omega) (by omega);have hp:=neg_pos (aB hw).2 (by omega);have hsum:=ok.sum;refine z.ld 0 ?_;refine z.ld 3 (x:=arr c.ab c.m) ?_;refine Jr hkr.1 (by rw[hm];exact hkr.2) ?_;rw[aes];refine z.CH 1 (by rw[ok.la];have:=hkr.1;have:=hkr.2;omega) λh1 z=>?_;refine z.ld 0 ?_;rw[wX (by have:=hBc.1;omega) hBB];refine z.st 0 (cs':=[vi ((S.kX+1:Nat):Int)]) λh2 z=>?_;have z:Z h0 h2 (ML c ⟨S.at'.set k.toNat S.kX,S.kX+1,S.out⟩ O++(R++(J++L))):=z;refine z.ld 4 (x:=c.t.s) ?_;refine G.Ss z (aB hx).1 (aB hx).2 λa ks0 is0 nd=>?_;refine z.eA [13] (by decide) (by simp) λkb h3 z=>?_;refine aR (aR (aR ?_));have ndz:=nd.fr z.fr;refine ndz.Ov (ndz.Jd (ndz.ldO ?_));refine z.newAt 0 λh4 z=>?_;refine z.st 0 (cs':=[vi x.kind,.string x.text,.bool x.ord,aI,aI]) λh5 z=>?_;have z:Z h0 h5 (.au (kb+13) [vi x.kind,.string x.text,.bool x.ord,aI,aI] ar::(ML c ⟨S.at'.set k.toNat S.kX,S.kX+1,S.out⟩ O++(R++(J++L)))):=z;refine z.ld 6 ?_;have z1:Z h0 h5 ((.au (kb+13) [vi x.kind,.string x.text,.bool x.ord,aI,aI] ar::(ML c ⟨S.at'.set k.toNat S.kX,S.kX+1,S.out⟩ O++(R++J)))++L):=by simpa using z
   rw[ag];refine (IJ G d hBc ht hsm hx n h5 _ L (by unfold fuV at hn;omega) T z1).mono λr h6 hr=>?_;obtain⟨be,L1,rfl,hbe,T1,E1,z2⟩:=hr;have z2:Z h0 h6 (.au (kb+13) [vi x.kind,.string x.text,.bool x.ord,aI,aI] ar::(ML c ⟨S.at'.set k.toNat S.kX,S.kX+1,S.out⟩ O++(R++(J++L1)))):=by simpa using z2
   have zn:Z h0 h6 (FR (kb+13) x pH pH [] [] 0 0++(ML c ⟨S.at'.set k.toNat S.kX,S.kX+1,S.out⟩ O++(R++(J++L1)))):=by
    have q1:=Z.add z2.drop (Fr.refl z2.wf) (o:=.sl pH 1 av [] 0) uU.nil (.inl rfl);have q2:=Z.add z2 (Fr.refl z2.wf) (o:=.sl pH 1 av [] 0) uU.nil (.inl rfl);have q3:=Z.add q2 (Fr.refl z2.wf) (o:=.sl pH 1 av [] 0) uU.nil (.inl rfl);exact Z.uV (pre:=[_,_,_]) q3 [2,0,1] (by simp only[abv,ad8];decide)
   have o1:FD N ⟨S.at'.set k.toNat S.kX,S.kX+1,S.out⟩:=⟨by rw[ajZ];exact ok.la,ok.lo,λw hw=>by
    rcases Ex hw with hw|rfl
    .have:=ok.le w hw;show w<((S.kX+1:Nat):Int);omega
    grind,by simp;omega,ok.fr⟩
   have hord:cn N k=j5 (kG N) x:=by unfold cn;rw[hx]
   have hol:∀a∈cn N k,0<=a/\a<x.items.length:=λa ha=>by rw[hord] at ha;exact eQ ha
   have hlen:=kB hx;have st0:Xc h0 c ⟨S.at'.set k.toNat S.kX,S.kX+1,S.out⟩ h6 (FR (kb+13) x pH pH [] [] 0 0++R) J L1:=⟨O,hO,hRO,Z.perm zn BP.symm⟩;have hfn:neg (S.at'.set k.toNat S.kX)<f:=by omega
   .rw[<-hlen,ag];refine (ajX (R:=R) d (by omega) V (aq hx) nd hol (by rw[hlen];exact hBm x (aq hx)) (S.kX:Int) n 0 _ S2 ks is [] [] pH pH 0 0 h6 J L1 (by rw[hlen];have:=hBm x (aq hx);omega) (by omega) (by rw[ajb];exact hlp) o1 hfn (by simp) (by simp) hbe T1 st0).mono λ_ h7 hr=>?_;obtain⟨ksl,isl,gk,gi,J2,L2,T2,E2,O2,hO2,hRO2,z7⟩:=hr;rw[abJ,abJ] at z7;obtain⟨o2,n2,l1,_⟩:=WG d (aq hx) hol o1 hfn hlp;have lo2:O2.length=N.length:=(by have:=akL List.length hO2;rw[aeI,o2.lo] at this;exact this);have zf:=Z.perm z7 BP;refine zf.G4 (x:=arr c.nb c.m) (cs:=[aC (arr c.nb c.m),vi 0]) (e:=ah) (abI _ (adO _ (by simp[ML]))) rfl rfl ?_;refine zf.fH 0 (x:=((x.kind,x.text,x.ord,ksl,isl):cF [li,.str,.bool,.sl,.sl])) ?_;refine Jr (by omega) (by omega) ?_;rw[OF]
    let r:cm:=⟨x.kind,x.text,x.ord,ksl,ks,gk,isl,is,gi⟩
    obtain⟨y,hy⟩:=gS (l:=O2) (i:=S.kX) (by omega);have hsp:aU (O2.flatMap cm.enc) (S.kX*5) [vi x.kind,.string x.text,.bool x.ord,aC ksl,aC isl]=(O2.set S.kX r).flatMap cm.enc:=by
     have:=Oe cm.xj (x':=r) hy (o:=0) (vs:=[vi x.kind,.string x.text,.bool x.ord,aC ksl,aC isl]) (by simp) (by unfold aU cm.enc;rfl);rw[alD] at this;exact this
    have hfl:(O2.flatMap cm.enc).length=N.length*5:=(by rw[oU cm.xj,lo2]);refine zf.st 5 (λh8 z8=>af.2 ?_) rfl hsp (by rw[hfl];simp;omega) rfl;have z8:Z h0 h8 (FR (kb+13) x ksl isl ks is gk gi++(ML c ⟨S2.at',S2.kX,S2.out.set S.kX r.v⟩ (O2.set S.kX r)++(R++(J2++L2)))):=z8;refine⟨rfl,.sl ksl 1 av (ks.map vi) gk::.sl isl 1 av (is.map vi) gi::J2,L2,T2,E1.trans E2,O2.set S.kX r,?_,λr' hr'=>?_,?_⟩
    .rw[Rx,hO2];rfl
    .rcases Ex hr' with h9|rfl
     .exact (hRO2 r' h9).mono λo ho=>BY _ (BY _ ho)
     .exact⟨.inr IS,.inr (BY _ IS)⟩
    .have z9:=Z.drop (L:=.sl ksl 1 av (ks.map vi) gk::.sl isl 1 av (is.map vi) gi::(ML c ⟨S2.at',S2.kX,S2.out.set S.kX r.v⟩ (O2.set S.kX r)++(R++(J2++L2)))) z8;have pm:(.sl ksl 1 av (ks.map vi) gk::.sl isl 1 av (is.map vi) gi::(ML c ⟨S2.at',S2.kX,S2.out.set S.kX r.v⟩ (O2.set S.kX r)++(R++(J2++L2)))).Perm (ML c ⟨S2.at',S2.kX,S2.out.set S.kX r.v⟩ (O2.set S.kX r)++(R++((.sl ksl 1 av (ks.map vi) gk::.sl isl 1 av (is.map vi) gi::J2)++L2))):=by
      have p1:=alW [bJ.sl ksl 1 av (ks.map vi) gk,.sl isl 1 av (is.map vi) gi] (ML c ⟨S2.at',S2.kX,S2.out.set S.kX r.v⟩ (O2.set S.kX r)) (R++(J2++L2));have p2:=alW [bJ.sl ksl 1 av (ks.map vi) gk,.sl isl 1 av (is.map vi) gi] R (J2++L2);exact p1.trans (amN _ p2)
     exact Z.perm z9 pm
def aaD {m b}(hm:m<1073741824){x8} a0 a1 a2 :
  ∀n i h L ,m-i<n->i<=m->Z h0 h (.au x8 [aC (arr b m)] aJ::.au b ((List.replicate i (-1)++List.replicate (m-i) 0).map vi) av::L) ->
   Wp (oh n a0 a1 a2 (ak x8) (m:Int) (i:Int)) h λ_ h'=>Z h0 h' (.au x8 [aC (arr b m)] aJ::.au b ((List.replicate m (-1:Int)).map vi) av::L):=by
 intro n
 induction n with
 |zero=>intro i h L h1;omega
 |succ n ih=>
  intro i h L h1 h2 z;rw[Bc];unfold sU;by_cases hi:i<m
  .rw[By (by simp;omega)];refine z.ld 0 (x:=arr b m) ?_;refine Jr (by omega) (by omega) ?_;rw[OF,aes];refine z.CH 1 (xs:=List.replicate i (-1)++List.replicate (m-i) 0) (by simp;omega) (λh3 z=>?_);have hf:(List.replicate i (-1:Int)++List.replicate (m-i) 0).set i (-1)=List.replicate (i+1) (-1)++List.replicate (m-(i+1)) 0:=by
    rw[alj _ _ (by simp),agi,amf,show m-i=(m-(i+1))+1 by omega,ak0,akB,amU,abM];rfl
   rw[hf] at z;rw[wX h2 (by omega)];exact ih (i+1) h3 L (by omega) (by omega) z
  .rw[AT (by simp;omega),af];have:i=m:=by omega
   subst this;simpa using z
def of_wp {s}{root}(z:Z h0 h L)(hb:s.len<=cP){n} :
  Wp (AW n (s,root)) h λr h'=>∃x5 b4,r=some (ak x5)/\Z h0 h' (.au x5 [aC s,vi root,aC (arr b4 s.len)] dA::.au b4 (List.replicate s.len aI) aJ::L):=by
 unfold AW;refine z.new λx0 h1 z _=>z.eA [4,6] (by decide) (by decide) λnb h2 z=>?_;refine z.fH 2 (ls:=[.sl,li]) (x:=(s,root)) ?_;refine z.ld 2 (x:=s) ?_;refine z.acv 0 (by omega) (by omega) λh3 z=>?_;refine z.newAt 1 (cs:=[aC s,vi root,aC (arr (nb+4) s.len)]) λh4 z=>?_;rw[af];refine⟨nb+6,nb+4,rfl,?_⟩;rw[OF] at z;rw[Yk] at z;have z:=Z.uV (pre:=[_,_,_]) z [1,0,2] (by simp only[abv,ad8];decide);exact z.sub (List.Sublist.cons₂ _ (List.Sublist.cons₂ _ (amt _ _)))
def Tx {t}{L}(h1:bJ.au t.tb [aC t.s,vi t.root,aC (arr t.sb N.length)] dA∈L)(h2:bJ.au t.sb (List.replicate N.length aI) aJ∈L):qo t N L:=by
 refine⟨List.replicate N.length none,by simp,h1,by rw[alL];exact h2,λk b l hg=>?_⟩;have:=agU (aq hg);cases this
def ro0:cm:=⟨0,ofBytes [],false,pH,[],0,pH,[],0⟩
def aaE m:(List.replicate m ro0).flatMap cm.enc=(List.replicate m [vi 0,Value.string (ofBytes []),Value.bool false,aI,aI]).flatten:=by
 rw[List.flatMap_def,alL];rfl
structure de (N:List al):Prop where
 len:N.length<=40
 map:∀x∈N,x.items.length<=80/\x.keys.length<=80
 txt:∀x∈N,x.text.size<=101
def de.bd (f:de N):Bd N 80:=⟨by have:=f.len;omega,by omega,λx hx=>⟨(f.map x hx).2,(f.map x hx).1⟩⟩
def de.ht (f:de N):∀x∈N,x.text.size<=65536:=λx hx=>by have:=f.txt x hx;omega
def de.sm (f:de N)(d:Vd N root):∀x∈N,x.kind=10->x.items.length<50:=λx hx hk=>by
 have h1:=d.ajB hx;have h2:=d.map hx hk;have:=f.len;omega
end Go.Sh
namespace Go.Sh
open Go Go.Ago Go.Proofs
variable {α β:Type}{h h' h0:aj}{L R J:List bJ}{N:List al}{root:Int}{B:Nat}{Q:β->aj->Prop}
def fuN:Nat:=fuV 80 60+100
def OG (nb:Nat)(O:List cm)(J:List bJ):List bJ:=.au nb (O.flatMap cm.enc) ar::J
def OG.read {nb}{O}{J X}(z:Z h0 h X)(hs:∀o∈OG nb O J,o∈X)(hRO:∀r∈O,RO r J):kP h (arr nb O.length) (O.map cm.v):=by
 have l:LB h nb (O.flatMap cm.enc) ar:=(z.own _ (hs _ IS)).1;refine⟨O,nb+1,rfl,l.Jf (by rw[oU cm.xj]),λr hr=>?_⟩;obtain⟨h1,h2⟩:=hRO r hr;have one:∀{s:Sl} {kl:ε} {g:Nat},(s.len=0/\kl=[])\/bJ.sl s 1 av (kl.map vi) g∈J->IL h s kl:=λ{s kl g} hh=>by
  rcases hh with⟨e1,e2⟩|hm
  .subst e2;exact⟨0,rY.nil e1⟩
  .have o:uU h s 1 av (kl.map vi) g:=(z.own _ (hs _ (BY _ hm))).1;exact⟨g,o.Jf⟩
 exact⟨one h1,one h2⟩
def Made (h0 h:aj)(s:Sl)(N':List al)(L:List bJ):Prop:=∃nb O J,s=arr nb O.length/\O.map cm.v=N'/\(∀r∈O,RO r J)/\Z h0 h (OG nb O J++L)
theorem Made.z {s}{N'}{L}(m:Made h0 h s N' L):Z h0 h L:=by
 obtain⟨nb,O,J,_,_,_,z⟩:=m;exact z.sub (ajY _ _)
theorem Made.read {s}{N'}{L}(m:Made h0 h s N' L):kP h s N':=by
 obtain⟨nb,O,J,rfl,rfl,hr,z⟩:=m;exact OG.read z (λo ho=>adO _ ho) hr
theorem Made.sub {s}{N'}{L L'}(m:Made h0 h s N' L)(hs:L'.Sublist L):Made h0 h s N' L':=by
 obtain⟨nb,O,J,e1,e2,hr,z⟩:=m;exact⟨nb,O,J,e1,e2,hr,z.sub ((ai3 _).append hs)⟩
theorem Made.on {s}{N'}{L}(m:Made h0 h s N' L){γ}{M:M γ}{Q}(q:∀X,Z h0 h (L++X)->(∀h' L',Z h0 h' (L'++X)->Made h0 h' s N' L')->Wp M h Q):Wp M h Q:=by
 obtain⟨nb,O,J,e1,e2,hr,z⟩:=m;exact q (OG nb O J) (z.perm akx) λh' L' z'=>⟨nb,O,J,e1,e2,hr,z'.perm akx⟩
theorem WH {s}(z:Z h0 h L)(G:kP h0 s N)(f:de N)(d:Vd N root){n}(hn:fuN<=n) :
  Wp (p7 n (s,root)) h λr h'=>r.2=0/\Made h0 h' r.1 (mP N root) L:=by
 have hl:=f.len;have hfu:fuV 80 (N.length+1)<=n:=by
  grind [fuV,Nat.mul_le_mul_right,fuN]
 have hn100:100<=n:=by unfold fuN at hn;omega
 unfold p7;refine z.new λx0 h1 z _=>z.new λx1 h2 z _=>?_;refine z.fH 1 (ls:=[.sl,li]) (x:=(s,root)) ?_;have hsl:s.len=N.length:=G.len;rw[ag];refine (of_wp (s:=s) (root:=root) z (by rw[hsl];unfold cP;omega)).mono λx3 h3 hx=>?_;obtain⟨tb,sb,rfl,z⟩:=hx;rw[hsl] at z;refine z.new λx4 h4 z _=>z.st 0 (cs':=[Value.pointer (some (ak tb))]) λh5 z=>?_;refine z.ld 4 (x:=s) ?_;rw[hsl];refine z.MW (by omega) (by unfold cP;omega) λab h6 z _=>?_;rw[OF] at z⊢;rw[pQ] at z;refine z.new λx8 h7 z _=>z.st 0 (cs':=[aC (arr ab N.length)]) λh8 z=>?_;refine z.ld 0 (x:=arr ab N.length) ?_;rw[ag];have z0:Z h0 h8 (.au x8 [aC (arr ab N.length)] aJ::.au ab ((List.replicate 0 (-1)++List.replicate (N.length-0) 0).map vi) av::.au x4 [Value.pointer (some (ak tb))] bz::.au tb [aC s,vi root,aC (arr sb N.length)] dA::.au sb (List.replicate N.length aI) aJ::.au x1 [aI,vi 0] ah::.au x0 [aC s,vi root] ah::L):=by simpa using z
 refine (aaD (by omega) (ak x0) (ak x1) (ak x4) n 0 h8 _ (by omega) (by omega) z0).mono λ_ h9 z=>?_;refine z.ld 6 (x:=s) ?_;rw[hsl];refine z.MW (by omega) (by unfold cP;omega) λnb h10 z _=>?_;rw[OF] at z⊢;rw[<-aaE] at z;refine z.new λkH h11 z _=>z.st 0 (cs':=[aC (arr nb N.length),vi 0]) λh12 z=>?_;refine z.new λrJ h13 z _=>z.st 0 (cs':=[vi 0]) λh14 z=>?_;refine z.new λxa h15 z _=>?_
 let c:NC:=⟨ab,x8,rJ,x0,x4,xa,nb,kH,N.length,⟨tb,sb,s,root⟩,80⟩
 refine z.st 0 (cs':=[c.fn]) λh16 z=>?_;have z:Z h0 h16 ([.au xa [c.fn] qt,.au rJ [vi 0] av,.au kH [aC (arr nb N.length),vi 0] ah,.au nb ((List.replicate N.length ro0).flatMap cm.enc) ar,.au x8 [aC (arr ab N.length)] aJ,.au ab ((List.replicate N.length (-1)).map vi) av,
  .au x4 [Value.pointer (some (ak tb))] bz,.au tb [aC s,vi root,aC (arr sb N.length)] dA,.au sb (List.replicate N.length aI) aJ,.au x1 [aI,vi 0] ah,.au x0 [aC s,vi root] ah]++L):=z
 have z:=Z.uV z [1,5,3,4,10,6,0,2,9,7,8] (by simp only[abv,ad8];decide);have z:Z h0 h16 (ML c (WD N.length) (List.replicate N.length ro0)++([.au x1 [aI,vi 0] ah]++([.au tb [aC s,vi root,aC (arr sb N.length)] dA,.au sb (List.replicate N.length aI) aJ]++L))):=z;have z:Z h0 h16 (ML c (WD N.length) (List.replicate N.length ro0)++((.au x1 [aI,vi 0] ah::L)++([]++[.au tb [aC s,vi root,aC (arr sb N.length)] dA,.au sb (List.replicate N.length aI) aJ]))):=z.perm (amN _ (List.Perm.cons _ (show ([bJ.au tb [aC s,vi root,aC (arr sb N.length)] dA,bJ.au sb (List.replicate N.length aI) aJ]++L).Perm (L++[bJ.au tb [aC s,vi root,aC (arr sb N.length)] dA,bJ.au sb (List.replicate N.length aI) aJ]) from akx)));obtain⟨v,S,e,en,o,hv⟩:=G6 d;refine z.ld 6 ?_;refine z.ld 4 (x:=root) ?_;unfold ue;rw[By (by rfl),ag,ag];refine lg (c:=((ak c.x8,ak c.rJ,ak c.x0,ak c.x4,ak c.xa,ak c.kH):Addr×Addr×Addr×Addr×Addr×Addr)) rfl ?_;have Cf:=aaC (c:=c) d f.bd f.ht (f.sm d) G rfl (λx hx=>(f.map x hx).1) f.bd (N.length+1) (aa2 _);refine (Cf n h16 root (WD N.length) v S _ [] _ hfu e Rw (by show neg (List.replicate _ _)<_;rw[G5];omega) (Tx IS (BY _ IS)) ⟨List.replicate N.length ro0,by rw[alL];rfl,λr hr=>by
   have:=agU hr;subst this;exact⟨.inl ⟨rfl,rfl⟩,.inl ⟨rfl,rfl⟩⟩,z⟩).mono λr h17 hr=>?_
 obtain⟨rfl,J',L',_,_,O',hO',hRO',z⟩:=hr;refine z.fH 7 (x:=((arr nb N.length,0):cF [.sl,li])) ?_;refine z.st 8 (cs':=[aC (arr nb N.length),vi 0]) λh18 z=>?_;refine z.fH 8 (x:=((arr nb N.length,0):cF [.sl,li])) (af.2 ⟨rfl,?_⟩);have z:Z h0 h18 (ML c S O'++((.au x1 [aC (arr nb N.length),vi 0] ah::L)++(J'++L'))):=z;have lo:O'.length=N.length:=by have:=akL List.length hO';rw[aeI,o.lo] at this;exact this
 refine⟨nb,O',J',by rw[lo],by rw[hO',en],hRO',?_⟩;have hsub:(.au nb (O'.flatMap cm.enc) ar::(L++J')).Sublist (ML c S O'++((.au x1 [aC (arr nb N.length),vi 0] ah::L)++(J'++L'))):=by
  refine alu (l₁:=[_]) ?_ ?_
  .exact List.Sublist.cons _ (List.Sublist.cons _ (List.Sublist.cons_cons _ (List.nil_sublist _)))
  .exact List.Sublist.cons _ ((ai3 L).append (ane _ _))
 exact (z.sub hsub).perm (List.Perm.cons _ akx)
def FE {s}(z:Z h0 h L)(G:kP h0 s N)(f:de N){k}(hk:gK N.length 80<=k){r0}(hc:pF k N root=some r0){n}(hn:fuN<=n)(hn2:k+66000<n) :
  Wp (sV n (s,root)) h λr h'=>if r0=0 then r.2=0/\r.1.2=0/\Made h0 h' r.1.1 (mP N root) L else r.2=3/\Z h0 h' L:=by
 unfold sV;refine z.new λx0 h1 z _=>z.new λx1 h2 z _=>?_;refine z.fH 1 (ls:=[.sl,li]) (x:=(s,root)) ?_;rw[ag];refine (wS z G f.bd f.ht (by omega) hc).mono λy h3 hy=>?_;obtain⟨rfl,z⟩:=hy;by_cases h0':y=0
 .subst h0';rw[AT (by simp)];simp;have d:Vd N root:=vX f.bd.2.2 f.bd.1 (by omega) hk hc;refine z.fH 1 (ls:=[.sl,li]) (x:=(s,root)) ?_;rw[ag];refine (WH z G f d hn).mono λr h4 hr=>?_;obtain⟨r2,m⟩:=hr;obtain⟨out,r2'⟩:=r;simp at r2 m;subst r2;refine m.on λX z back=>?_;refine z.st 0 (cs':=[aC out,vi 0]) λh5 z=>?_;refine z.fH 0 (ls:=[.sl,li]) (x:=(out,0)) (af.2 ⟨rfl,rfl,?_⟩);exact (back h5 (.au x1 [aC out,vi 0] ah::.au x0 [aC s,vi root] ah::L) z).sub (List.Sublist.cons _ (List.Sublist.cons _ (ai3 _)))
 .simp only[AT h0'];rw[By (by simpa using h0')];refine z.st 0 (cs':=[aI,vi 0]) λh4 z=>?_;refine z.fH 0 (af.2 ⟨rfl,z.drop.drop⟩)
end Go.Sh
