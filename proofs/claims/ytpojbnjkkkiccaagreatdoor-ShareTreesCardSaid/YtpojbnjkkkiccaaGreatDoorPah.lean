
import Derived.Test.YtpojbnjkkkiccaaGreatDoorPae
import Derived.Test.YtpojbnjkkkiccaaGreatDoorPaf
import Derived.Test.YtpojbnjkkkiccaaGreatDoorPag
set_option linter.all false
namespace Go.Sh
open Go Go.Ago Go.Proofs
variable {N:List aq}{root:Int}{B:Nat}
def nth (l:ε)(a:Int):Int:=(gt l a).getD 0
def iota (m:Nat):ε:=(List.range m).map (λi:Nat=>(i:Int))
theorem gD m:(iota m).length=m:=by simp[iota]
theorem qi {m i}(hi:i<m):(iota m)[i]?=some (i:Int):=by simp[iota,hi]
theorem ic m:Good m (iota m):=⟨gD m,λv hv=>by
 grind [iota]⟩
def To (m:Nat)(cv:Int->Int->Int)(a b:Int):Int:=if 0<=a/\a<m/\0<=b/\b<m then cv a b else 0
noncomputable def Vu (cv:Int->Int->Int)(m:Nat):ε:=if h:m<50 then (Oa cv h (ic m)).choose else iota m
noncomputable def Gm (cv:Int->Int->Int)(m:Nat):ε:=Vu (To m cv) m
theorem xN cv m:(Gm cv m).Perm (iota m):=by
 grind [Gm,Vu]
def alq {cv}{c:Cx}{P}{h}{n}(hm:c.m<50)(ok:c.OK (To c.m cv))(hn:c.k+600<=n)(st:c.St P h (iota c.m)):Wp ((cl n).dU (arr c.b c.m) c.x) h λ_ h'=>c.St P h' (Gm cv c.m):=by
 unfold Gm Vu;rw[dif_pos hm];exact (Oa (To c.m cv) hm (ic c.m)).choose_spec.2 c P h n rfl ok hn st
theorem MH {cv cv'}{m:Nat}(h:∀a b:Int,0<=a->a<m->0<=b->b<m->cv a b=cv' a b):Gm cv m=Gm cv' m:=by
 have:To m cv=To m cv':=by
  funext a b;grind [To]
 grind [Gm]
noncomputable def jy (cv:Int->Int->Int)(x:aq):ε:=if x.kind=10/\x.ord=false then Gm (λa b=>cv (nth x.keys a) (nth x.keys b)) x.items.length else iota x.items.length
theorem w6 cv x:(jy cv x).Perm (iota x.items.length):=by
 grind [jy,xN]
theorem zG cv x:(jy cv x).length=x.items.length:=by rw[(w6 cv x).length_eq,gD]
def iH {cv}{x}{a}(ha:a∈jy cv x):0<=a/\a<x.items.length:=(ic _).2 a ((w6 cv x).mem_iff.1 ha)
def qj (cv:Int->Int->Int)(x y:aq):ε->ε->Option Int
 |a::p,b::q=>if x.kind=10/\cv (nth x.keys a) (nth y.keys b)≠0 then some (cv (nth x.keys a) (nth y.keys b)) else if cv (nth x.items a) (nth y.items b)≠0 then some (cv (nth x.items a) (nth y.items b)) else qj cv x y p q
 |_,_=>none
noncomputable def Fa (cv:Int->Int->Int)(x y:aq):Int:=
 if x.kind<y.kind then -1 else if y.kind<x.kind then 1 else if x.ord≠y.ord then (if y.ord then -1 else 1) else if vc x.kind x.text y.text≠0 then vc x.kind x.text y.text
 else match qj cv x y (jy cv x) (jy cv y) with
  |some c=>c
  |none=>if x.items.length<y.items.length then -1 else if y.items.length<x.items.length then 1 else 0
noncomputable def QF (N:List aq)(cv:Int->Int->Int)(i j:Int):Int:=match gt N i,gt N j with
 |some x,some y=>Fa cv x y
 |_,_=>0
noncomputable def kO (N:List aq):Nat->Int->Int->Int
 |0,_,_=>0
 |f+1,i,j=>QF N (kO N f) i j
theorem fG {l}{a:Int}(h0:0<=a)(h:a<l.length):nth l a∈l:=by
 obtain⟨v,hv⟩:=nf h0 h
 grind [nth,ax]
theorem KR {cv cv'}{x}(hl:x.kind=10->x.keys.length=x.items.length)(h:∀u∈x.keys,∀v∈x.keys,cv u v=cv' u v):jy cv x=jy cv' x:=by
 grind [jy,MH,fG]
theorem KS {cv cv'}{x y}(h1:x.kind=10->∀u∈x.keys,∀v∈y.keys,cv u v=cv' u v)(h2:∀u∈x.items,∀v∈y.items,cv u v=cv' u v):∀{p q:ε},(∀a∈p,0<=a/\a<x.items.length/\(x.kind=10->a<x.keys.length))->(∀a∈q,0<=a/\a<y.items.length/\(x.kind=10->a<y.keys.length))->qj cv x y p q=qj cv' x y p q
 |[],q,_,_=>by cases q<;>rfl
 |a::p,[],_,_=>rfl
 |a::p,b::q,hp,hq=>by
  obtain⟨a1,a2,a3⟩:=hp a IS;obtain⟨b1,b2,b3⟩:=hq b IS;have e2:=h2 _ (fG a1 a2) _ (fG b1 b2);have ih:=KS h1 h2 (λc hc=>hp c (BY _ hc)) λc hc=>hq c (BY _ hc);unfold qj;rw[e2,ih]
  grind [fG]
def Fb {cv cv'}{x y}(hx:x.kind=10->x.keys.length=x.items.length)(hy:y.kind=10->y.keys.length=y.items.length)
  (h:∀u v,(u∈x.keys\/u∈x.items\/u∈y.keys\/u∈y.items)->(v∈x.keys\/v∈x.items\/v∈y.keys\/v∈y.items)->cv u v=cv' u v):Fa cv x y=Fa cv' x y:=by
 unfold Fa;split
 .rfl
 split
 .rfl
 rename_i c1 c2;have hk:x.kind=y.kind:=by omega
 split
 .rfl
 split
 .rfl
 rw[KR hx λu hu v hv=>h u v (.inl hu) (.inl hv),KR hy λu hu v hv=>h u v (.inr (.inr (.inl hu))) (.inr (.inr (.inl hv)))];rw[KS (λ_ u hu v hv=>h u v (.inl hu) (.inr (.inr (.inl hv)))) (λu hu v hv=>h u v (.inr (.inl hu)) (.inr (.inr (.inr hv))))
  (λa ha=>⟨(iH ha).1,(iH ha).2,λe=>by rw[hx e];exact (iH ha).2⟩) (λa ha=>⟨(iH ha).1,(iH ha).2,λe=>by rw[hy (hk▸e)];exact (iH ha).2⟩)]
def MI (d:Vd N root){H:Int->Nat}(hH:∀u v,KN N v->Edge N u v->H v<H u):∀t f f' ,t<f->t<f'->∀i j,KN N i->KN N j->H i<=t->H j<=t->kO N f i j=kO N f' i j:=by
 intro t
 induction t with
 |zero=>
  intro f f' h1 h2 i j hi hj hti htj;obtain⟨f,rfl⟩:∃g,f=g+1:=⟨f-1,by omega⟩;obtain⟨f',rfl⟩:∃g,f'=g+1:=⟨f' - 1,by omega⟩;unfold kO QF;cases ex:gt N i with
  |none=>rfl
  |some x=>
   cases ey:gt N j with
   |none=>rfl
   |some y=>
    refine Fb (d.map (ax ex)) (d.map (ax ey)) λu v hu hv=>?_;exfalso;rcases hu with h|h|h|h
    .have:=hH i u (.step hi ⟨x,ex,.inl h⟩) ⟨x,ex,.inl h⟩;omega
    .have:=hH i u (.step hi ⟨x,ex,.inr h⟩) ⟨x,ex,.inr h⟩;omega
    .have:=hH j u (.step hj ⟨y,ey,.inl h⟩) ⟨y,ey,.inl h⟩;omega
    .have:=hH j u (.step hj ⟨y,ey,.inr h⟩) ⟨y,ey,.inr h⟩;omega
 |succ t ih=>
  intro f f' h1 h2 i j hi hj hti htj;obtain⟨f,rfl⟩:∃g,f=g+1:=⟨f-1,by omega⟩;obtain⟨f',rfl⟩:∃g,f'=g+1:=⟨f' - 1,by omega⟩;unfold kO QF;cases ex:gt N i with
  |none=>rfl
  |some x=>
   cases ey:gt N j with
   |none=>rfl
   |some y=>
    have low:∀u,(u∈x.keys\/u∈x.items\/u∈y.keys\/u∈y.items)->KN N u/\H u<=t:=λu hu=>by
     rcases hu with h|h|h|h
     .have e:Edge N i u:=⟨x,ex,.inl h⟩;have:=hH i u (.step hi e) e;exact⟨.step hi e,by omega⟩
     .have e:Edge N i u:=⟨x,ex,.inr h⟩;have:=hH i u (.step hi e) e;exact⟨.step hi e,by omega⟩
     .have e:Edge N j u:=⟨y,ey,.inl h⟩;have:=hH j u (.step hj e) e;exact⟨.step hj e,by omega⟩
     .have e:Edge N j u:=⟨y,ey,.inr h⟩;have:=hH j u (.step hj e) e;exact⟨.step hj e,by omega⟩
    exact Fb (d.map (ax ex)) (d.map (ax ey)) λu v hu hv=>ih f f' (by omega) (by omega) u v (low u hu).1 (low v hv).1 (low u hu).2 (low v hv).2
noncomputable def gZ (N:List aq):Int->Int->Int:=kO N (N.length+1)
noncomputable def cd (N:List aq)(i:Int):ε:=match gt N i with
 |some x=>jy (gZ N) x
 |none=>[]
theorem tT {k}{x}(hx:gt N k=some x):(cd N k).length=x.items.length:=by
 grind [cd,zG]
theorem Vv (d:Vd N root){i j}{x y}(hi:KN N i)(hj:KN N j)(ex:gt N i=some x)(ey:gt N j=some y):gZ N i j=Fa (gZ N) x y:=by
 obtain⟨H,hH1,hH2⟩:=d.Hx;have e:gZ N i j=Fa (kO N N.length) x y:=by
  unfold gZ kO QF
  grind
 rw[e];refine Fb (d.map (ax ex)) (d.map (ax ey)) λu v hu hv=>?_;have low:∀u,(u∈x.keys\/u∈x.items\/u∈y.keys\/u∈y.items)->KN N u/\H u<N.length:=λu hu=>by
  have h1:=hH1 i;have h2:=hH1 j;rcases hu with h|h|h|h
  .have e:Edge N i u:=⟨x,ex,.inl h⟩;have:=hH2 i u (.step hi e) e;exact⟨.step hi e,by omega⟩
  .have e:Edge N i u:=⟨x,ex,.inr h⟩;have:=hH2 i u (.step hi e) e;exact⟨.step hi e,by omega⟩
  .have e:Edge N j u:=⟨y,ey,.inl h⟩;have:=hH2 j u (.step hj e) e;exact⟨.step hj e,by omega⟩
  .have e:Edge N j u:=⟨y,ey,.inr h⟩;have:=hH2 j u (.step hj e) e;exact⟨.step hj e,by omega⟩
 have h1:=(low u hu).2;exact MI d hH2 (N.length-1) _ _ (by omega) (by omega) u v (low u hu).1 (low v hv).1 (by grind) (by grind)
end Go.Sh
namespace Go.Sh
open Go Go.Ago Go.Proofs
variable {N N':List aq}{root v:Int}{φ:Int->Int}
theorem alr {n}{R:Nat->Nat->Prop}(h:∀a,a<n->∃b,b<n/\R a b)(inj:∀a a' b,a<n->a'<n->R a b->R a' b->a=a'):∀b,b<n->∃a,a<n/\R a b:=by
 have ex:∀a,∃b,a<n->b<n/\R a b:=λa=>by
  by_cases ha:a<n
  .grind
  .exact⟨0,λq=>absurd q ha⟩
 obtain⟨G,hG⟩:=anT ex;intro b hb;refine adj λhn=>?_;have nd:((List.range n).map G).Nodup:=by
  refine List.pairwise_map.2 (aoq ?_ ama)
  grind
 have nm:b∉(List.range n).map G:=λhm=>by
  obtain⟨a,ha,rfl⟩:=List.mem_map.1 hm
  grind
 have hs:b::(List.range n).map G ⊆ List.range n:=λc hc=>by
  rcases List.mem_cons.1 hc with rfl|hc
  .grind
  .obtain⟨a,ha,rfl⟩:=List.mem_map.1 hc
   grind
 have:=(List.nodup_cons.2 ⟨nm,nd⟩).length_le_of_subset hs
 grind
theorem w7 (hM:∀x∈N,qK x):∀{f} {a b c},zI N f a b->zI N f b c->zI N f a c
 |0,a,b,c,h,_=>h.elim
 |f+1,a,b,c,⟨x,y,hx,hy,h1,h2,h3,h4,h5⟩,⟨y',z,hy',hz,g1,g2,g3,g4,g5⟩=>by
  rw[hy] at hy';cases hy';refine⟨x,z,hx,hz,h1.trans g1,h2.trans g2,h3.trans g3,h4.trans g4,?_⟩;split at h5
  .rename_i q;rw[By q];rw[By ⟨h1▸q.1,h3▸q.2⟩] at g5;intro a kx p q1 q2;obtain⟨b,ky,r,q3,q4,q5,q6⟩:=h5 a kx p q1 q2;obtain⟨c,kz,s,q7,q8,q9,q10⟩:=g5 b ky r q3 q4;exact⟨c,kz,s,q7,q8,w7 hM q5 q9,w7 hM q6 q10⟩
  .rename_i q;rw[AT q];rw[AT (λe=>q ⟨h1▸e.1,h3▸e.2⟩)] at g5;intro a p r q1 q2;obtain⟨w,hw⟩:=eC (l:=y.items) (i:=a) (by grind);obtain⟨e1,e2⟩:=h5 a p w q1 hw;obtain⟨e3,e4⟩:=g5 a w r hw q2;refine⟨w7 hM e1 e3,λhk kx kz r1 r2=>?_⟩;obtain⟨ky,hky⟩:=eC (by rw[hM y (ax hy) (h1▸hk)];exact aJ hw);exact w7 hM (e2 hk kx ky r1 hky) (e4 (h1▸hk) ky kz hky r2)
theorem xO (hM:∀x∈N,qK x)(tw:∀x∈N,x.keys.Pairwise λy x=>¬SM N x y):∀{f} {a b},zI N f a b->zI N f b a
 |0,a,b,h=>h.elim
 |f+1,a,b,⟨x,y,hx,hy,h1,h2,h3,h4,h5⟩=>by
  refine⟨y,x,hy,hx,h1.symm,h2.symm,h3.symm,h4.symm,?_⟩;split at h5
  .rename_i q;rw[By ⟨h1▸q.1,h3▸q.2⟩];have lx:=hM x (ax hx) q.1;have ly:=hM y (ax hy) (h1▸q.1);have key:=alr (n:=x.items.length) (R:=λa b=>∃kx ky p r,x.keys[a]?=some kx/\y.keys[b]?=some ky/\x.items[a]?=some p/\y.items[b]?=some r/\zI N f kx ky/\zI N f p r) (λa ha=>by
    obtain⟨kx,hkx⟩:=eC (l:=x.keys) (i:=a) (by omega);obtain⟨p,hp⟩:=eC ha;obtain⟨b,ky,r,e1,e2,e3,e4⟩:=h5 a kx p hkx hp;exact⟨b,by grind,kx,ky,p,r,hkx,e1,hp,e2,e3,e4⟩) (λa a' b ha ha' ⟨kx,ky,p,r,e1,e2,e3,e4,e5,e6⟩ ⟨kx',ky',p',r',g1,g2,g3,g4,g5,g6⟩=>by
    rw[e2] at g2;cases g2;refine adj λhne=>?_;have s1:zI N f kx kx':=w7 hM e5 (xO hM tw g5);have s2:zI N f kx' kx:=w7 hM g5 (xO hM tw e5);have pw:=List.pairwise_iff_getElem.1 (tw x (ax hx));obtain⟨l1,e1⟩:=List.getElem?_eq_some_iff.1 e1;obtain⟨l2,g1⟩:=List.getElem?_eq_some_iff.1 g1;rcases Nat.lt_or_gt_of_ne hne with h|h
    .have:=pw a a' l1 l2 h;rw[e1,g1] at this;exact this ⟨f,s2⟩
    .have:=pw a' a l2 l1 h;rw[e1,g1] at this;exact this ⟨f,s1⟩)
   intro b ky r q1 q2;obtain⟨a,ha,kx,ky',p,r',e1,e2,e3,e4,e5,e6⟩:=key b (by grind);rw[q1] at e2;rw[q2] at e4;cases e2;cases e4;exact⟨a,kx,p,e1,e3,xO hM tw e5,xO hM tw e6⟩
  .rename_i q;rw[AT (λe=>q ⟨h1▸e.1,h3▸e.2⟩)];intro a r p q1 q2;obtain⟨e1,e2⟩:=h5 a p r q2 q1;exact⟨xO hM tw e1,λhk ky kx r1 r2=>xO hM tw (e2 (h1▸hk) kx ky r2 r1)⟩
structure xY (φ:Int->Int) (x x':aq):Prop where
 k:x'.kind=x.kind
 t:x'.text=x.text
 o:x'.ord=x.ord
 e:∃o:ε,o.Perm (iota x.items.length)/\(¬(x.kind=10/\x.ord=false)->o=iota x.items.length)/\x'.items=o.map (λa=>φ (nth x.items a))/\x'.keys=if x.kind=10 then o.map (λa=>φ (nth x.keys a)) else []
theorem jX {l}{i:Nat}{p}(h:l[i]?=some p):nth l (i:Int)=p:=by
 grind [nth,gt]
section
variable {x x':aq}
def xY.il (E:xY φ x x'):x'.items.length=x.items.length:=by
 obtain⟨o,h1,_,h3,_⟩:=E.e;rw[h3,acL,h1.length_eq,gD]
theorem xY.kl (E:xY φ x x')(hm:qK x)(hk:x.kind≠10->x.keys=[]):x'.keys.length=x.keys.length:=by
 obtain⟨o,h1,_,_,h4⟩:=E.e;rw[h4];by_cases h:x.kind=10
 .rw[By h,acL,h1.length_eq,gD,hm h]
 grind
theorem xY.to (E:xY φ x x'){a}{p}(h:x.items[a]?=some p):∃a':Nat,x'.items[a']?=some (φ p)/\(x.kind=10->∀k,x.keys[a]?=some k->x'.keys[a']?=some (φ k))/\(¬(x.kind=10/\x.ord=false)->a'=a):=by
 obtain⟨o,h1,h2,h3,h4⟩:=E.e;have hlt:=aJ h;have hm:(a:Int)∈o:=h1.mem_iff.2 (by grind [iota]);by_cases hu:x.kind=10/\x.ord=false
 .obtain⟨a',ha'⟩:=List.mem_iff_getElem?.1 hm;refine⟨a',by grind [jX],λhk k hkk=>by rw[h4,By hk,abh,ha'];simp[jX hkk],λq=>absurd hu q⟩
 .have:=h2 hu;subst this;refine⟨a,by grind [qi,jX],λhk k hkk=>by rw[h4,By hk,abh,qi hlt];simp[jX hkk],λ_=>rfl⟩
theorem xY.of (E:xY φ x x'){a'}{p'}(h:x'.items[a']?=some p'):∃(a:Nat) (p:Int),x.items[a]?=some p/\p'=φ p/\(x.kind=10->∀k,x.keys[a]?=some k->x'.keys[a']?=some (φ k))/\(¬(x.kind=10/\x.ord=false)->a'=a):=by
 obtain⟨o,h1,h2,h3,h4⟩:=E.e;rw[h3,abh] at h;cases ho:o[a']? with
 |none=>grind
 |some b=>
  rw[ho] at h;have hb:b∈iota x.items.length:=h1.mem_iff.1 (IN ho);unfold iota at hb;obtain⟨a,ha,rfl⟩:=List.mem_map.1 hb;obtain⟨p,hp⟩:=eC (List.mem_range.1 ha);refine⟨a,p,hp,?_,λhk k hkk=>by rw[h4,By hk,abh,ho];simp[jX hkk],λhu=>?_⟩
  .grind [nth,Option.some.inj,jX]
  grind [aJ,gD,qi,Option.some.inj]
theorem xY.form (E:xY φ x x')(hm:qK x)(hk:x.kind≠10->x.keys=[]):rA x'=rA x:=by
 have h1:=E.il;have h2:=E.kl hm hk;have h3:=E.k;have h4:=E.t;have h5:=E.o
 grind [rA]
end
structure HA (N:List aq) (v:Int) (N':List aq) (φ:Int->Int):Prop where
 nd:∀u x,gf N v u->gt N u=some x->∃x',gt N' (φ u)=some x'/\xY φ x x'
 inj:∀u w,gf N v u->gf N v w->φ u=φ w->u=w
 sur:∀w,IR N'.length w->∃u,gf N v u/\φ u=w
 len:N'.length<=N.length
section
variable (I:HA N v N' φ)(g:GV N root)(hv:IR N.length v)
include I g hv
theorem HA.ir {u}(h:gf N v u):IR N.length u/\IR N'.length (φ u):=by
 have h1:=h.ir g.ix hv;obtain⟨x,hx⟩:=fj rfl h1;obtain⟨x',hx',_⟩:=I.nd u x h hx
 grind [nF]
theorem GV.map (g:GV N root){x}(hx:x∈N):qK x:=Gj (g.fm x hx)
end
def GV.Gp (g:GV N root){x}(hx:x∈N):qK x:=Gj (g.fm x hx)
def w8 {x}(h:rA x=some true)(hk:x.kind≠10):x.keys=[]:=by
 grind [rA]
end Go.Sh
namespace Go.Sh
open Go Go.Ago Go.Proofs
variable {N N':List aq}{root v:Int}{φ:Int->Int}{x x':aq}
theorem xY.toK (E:xY φ x x')(hm:qK x)(hk:x.kind≠10->x.keys=[]){a:Nat}{k}(h:x.keys[a]?=some k):∃a':Nat,x'.keys[a']?=some (φ k):=by
 have h10:x.kind=10:=adj λq=>by grind
 obtain⟨p,hp⟩:=eC (by rw[<-hm h10];exact aJ h);obtain⟨a',_,h2,_⟩:=E.to hp
 grind
theorem xY.ofK (E:xY φ x x')(hm:qK x)(hk:x.kind≠10->x.keys=[]){a':Nat}{k'}(h:x'.keys[a']?=some k'):∃(a:Nat) (k:Int),x.keys[a]?=some k/\k'=φ k:=by
 have hl:=E.kl hm hk;have h10:x.kind=10:=adj λq=>by grind
 obtain⟨p',hp'⟩:=eC (by rw[E.il,<-hm h10,<-hl];exact aJ h);obtain⟨a,p,h1,_,h2,_⟩:=E.of hp';obtain⟨k,hk2⟩:=eC (by rw[hm h10];exact aJ h1)
 grind
section
variable (I:HA N v N' φ)(g:GV N root)(hv:IR N.length v)
include I g
theorem HA.Gi {u w}(h:gf N v u)(e:Edge N u w):Edge N' (φ u) (φ w):=by
 obtain⟨x,hx,hm⟩:=e;obtain⟨x',hx',E⟩:=I.nd u x h hx;refine⟨x',hx',?_⟩;rcases hm with hm|hm
 .obtain⟨a,ha⟩:=List.mem_iff_getElem?.1 hm;obtain⟨a',h1⟩:=E.toK (g.Gp (ax hx)) (w8 (g.fm x (ax hx))) ha
  grind
 .obtain⟨a,ha⟩:=List.mem_iff_getElem?.1 hm;obtain⟨a',h1,_⟩:=E.to ha
  grind
theorem HA.Vw {u w'}(h:gf N v u)(hu:IR N.length u)(e:Edge N' (φ u) w'):∃w,Edge N u w/\φ w=w':=by
 obtain⟨x,hx⟩:=fj rfl hu;obtain⟨x',hx',E⟩:=I.nd u x h hx;obtain⟨y,hy,hm⟩:=e;rw[hx'] at hy;cases hy;rcases hm with hm|hm
 .obtain⟨a',ha⟩:=List.mem_iff_getElem?.1 hm;obtain⟨a,k,h1,rfl⟩:=E.ofK (g.Gp (ax hx)) (w8 (g.fm x (ax hx))) ha;exact⟨k,⟨x,hx,.inl (IN h1)⟩,rfl⟩
 .obtain⟨a',ha⟩:=List.mem_iff_getElem?.1 hm;obtain⟨a,p,h1,rfl,_⟩:=E.of ha;exact⟨p,⟨x,hx,.inr (IN h1)⟩,rfl⟩
theorem HA.Q6 {u w}(h:gf N v u)(r:gf N u w):gf N' (φ u) (φ w):=by
 induction r with
 |refl=>exact .refl
 |step r e ih=>exact ih.step (I.Gi g (h.trans r) e)
include hv
theorem HA.anf {u w'}(h:gf N v u)(r:gf N' (φ u) w'):∃w,gf N u w/\φ w=w':=by
 induction r with
 |refl=>exact⟨u,.refl,rfl⟩
 |step r e ih=>
  obtain⟨w,h1,h2⟩:=ih;rw[<-h2] at e;obtain⟨z,h3,h4⟩:=I.Vw g (h.trans h1) ((h.trans h1).ir g.ix hv) e;exact⟨z,h1.step h3,h4⟩
theorem HA.afH {u w}(hu:gf N v u)(hw:gf N v w):gf N' (φ u) (φ w)↔gf N u w:=by
 constructor
 .intro r;obtain⟨z,h1,h2⟩:=I.anf g hv hu r;rw[<-I.inj z w (hu.trans h1) hw h2];exact h1
 .exact I.Q6 g hu
theorem Vx {n n'}{P P'}(f:Nat->Nat)(h1:∀a,a<n->P a=true->f a<n'/\P' (f a)=true)(h2:∀a b,a<n->b<n->P a=true->P b=true->f a=f b->a=b):(List.range n).countP P<=(List.range n').countP P':=by
 rw[an4,an4];have nd:(((List.range n).filter P).map f).Nodup:=by
  grind [List.Pairwise.imp_of_mem,List.nodup_range]
 have:=nd.length_le_of_subset (l₂:=(List.range n').filter P') λc hc=>by
  grind
 grind
theorem HA.back:∃ψ:Int->Int,(∀w,IR N'.length w->gf N v (ψ w)/\φ (ψ w)=w)/\∀u,gf N v u->ψ (φ u)=u:=by
 have ex:∀w,∃u,IR N'.length w->gf N v u/\φ u=w:=λw=>by
  by_cases h:IR N'.length w
  .obtain⟨u,hu⟩:=I.sur w h;grind
  simp_all
 obtain⟨ψ,h⟩:=anT ex;refine⟨ψ,h,λu hu=>?_⟩;obtain⟨h1,h2⟩:=h (φ u) (I.ir g hv hu).2;exact I.inj _ _ h1 hu h2
theorem HA.wt {u}(hu:gf N v u):wt N' (φ u)=wt N u:=by
 obtain⟨ψ,p1,p2⟩:=I.back g hv;have nn:∀{n:Nat} {w:Int},IR n w->w.toNat<n/\(w.toNat:Int)=w:=λh=>by grind [IR]
 unfold Sh.wt
 congr 1
 apply Nat.le_antisymm
 .refine Vx I g hv (λw:Nat=>(ψ (w:Int)).toNat) (λw hw h=>?_) λa b ha hb _ _ e=>?_
  .obtain⟨q1,q2⟩:=p1 (w:Int) ⟨by omega,by omega⟩;have q3:=nn (I.ir g hv q1).1;refine⟨q3.1,?_⟩;simp only[aca] at h⊢;rw[q3.2];rw[<-q2] at h;exact⟨(I.afH g hv hu q1).1 h.1,(I.afH g hv q1 hu).1 h.2⟩
  .obtain⟨q1,q2⟩:=p1 (a:Int) ⟨by omega,by omega⟩;obtain⟨r1,r2⟩:=p1 (b:Int) ⟨by omega,by omega⟩;have q3:=nn (I.ir g hv q1).1;have r3:=nn (I.ir g hv r1).1
   grind
 .have rc:∀w:Nat,gf N u (w:Int)->gf N v (w:Int):=λw h=>hu.trans h;refine Vx I g hv (λw:Nat=>(φ (w:Int)).toNat) (λw hw h=>?_) λa b ha hb h1 h2 e=>?_
  .simp only[aca] at h⊢;have q3:=nn (I.ir g hv (rc w h.1)).2;rw[q3.2];exact⟨q3.1,(I.afH g hv hu (rc w h.1)).2 h.1,(I.afH g hv (rc w h.1) hu).2 h.2⟩
  .simp at h1 h2;have q3:=nn (I.ir g hv (rc a h1.1)).2;have r3:=nn (I.ir g hv (rc b h2.1)).2
   grind
theorem HA.df {f}(hf:DF N f):∃f',DF N' f'/\f' (φ v)=f v:=by
 obtain⟨ψ,p1,p2⟩:=I.back g hv;refine⟨λw=>f (ψ w),λw hw=>?_,by simp;rw[p2 v .refl]⟩;obtain⟨q1,q2⟩:=p1 w hw;obtain⟨h1,h2⟩:=hf (ψ w) (I.ir g hv q1).1;have hwt:=I.wt g hv q1;rw[q2] at hwt;refine⟨by grind,λz hz=>?_⟩;rw[<-q2] at hz;obtain⟨y,r1,rfl⟩:=I.anf g hv q1 hz;have hy:=q1.trans r1;obtain⟨h3,h4⟩:=h2 y r1;simp;rw[p2 y hy,hwt];exact⟨h3,λhn=>h4 λr=>hn (by rw[<-q2];exact I.Q6 g hy r)⟩
theorem HA.node {x'}(h:x'∈N'):∃u x,gf N v u/\gt N u=some x/\gt N' (φ u)=some x'/\xY φ x x':=by
 obtain⟨j,hj⟩:=List.mem_iff_getElem?.1 h;have hlt:=aJ hj;obtain⟨u,hu,e⟩:=I.sur (j:Int) ⟨by omega,by omega⟩;obtain⟨x,hx⟩:=fj rfl (I.ir g hv hu).1;obtain⟨y,hy,E⟩:=I.nd u x hu hx
 grind [gt]
theorem HA.kn {w}(h:KN N' w):∃u,gf N v u/\φ u=w/\KN N u:=by
 induction h with
 |key hx hw=>
  obtain⟨u,x,hu,hgx,_,E⟩:=I.node g hv hx;obtain⟨a',ha⟩:=List.mem_iff_getElem?.1 hw;obtain⟨a,k,h1,h2⟩:=E.ofK (g.Gp (ax hgx)) (w8 (g.fm x (ax hgx))) ha;have hk:=IN h1;exact⟨k,hu.step ⟨x,hgx,.inl hk⟩,h2.symm,.key (ax hgx) hk⟩
 |step _ e ih=>
  obtain⟨u,hu,rfl,hk⟩:=ih;obtain⟨w,h1,h2⟩:=I.Vw g hu (I.ir g hv hu).1 e;exact⟨w,hu.step h1,h2,hk.step h1⟩
theorem HA.sm:∀f a b ,gf N v a->gf N v b->(zI N' f (φ a) (φ b)↔zI N f a b)
 |0,a,b,_,_=>Iff.rfl
 |f+1,a,b,ha,hb=>by
  obtain⟨x,hx⟩:=fj rfl (I.ir g hv ha).1;obtain⟨y,hy⟩:=fj rfl (I.ir g hv hb).1;obtain⟨x',hx',E⟩:=I.nd a x ha hx;obtain⟨y',hy',G⟩:=I.nd b y hb hy;have mx:=g.Gp (ax hx);have my:=g.Gp (ax hy);have ed:∀{u:Int} {z:aq} {l:ε} {i:Nat} {p:Int},gf N v u->gt N u=some z->(l=z.keys\/l=z.items)->l[i]?=some p->gf N v p:=λhu hz hl hp=>hu.step ⟨_,hz,by
   grind⟩
  have kz:∀{z:aq} {i:Nat} {p:Int},qK z->z.kind=10->z.items[i]?=some p->∃k,z.keys[i]?=some k:=λhm hk hp=>eC (by rw[hm hk];grind);constructor
  .rintro⟨x2,y2,e1,e2,h1,h2,h3,h4,h5⟩;rw[hx'] at e1;rw[hy'] at e2;cases e1;cases e2;rw[E.k,G.k] at h1;rw[E.t,G.t] at h2;rw[E.o,G.o] at h3;rw[E.il,G.il] at h4;refine⟨x,y,hx,hy,h1,h2,h3,h4,?_⟩;rw[E.k,E.o] at h5;split at h5
   .rename_i q;rw[By q];intro i kx p q1 q2;obtain⟨i',r1,r2,_⟩:=E.to q2;obtain⟨j',ky',p',s1,s2,s3,s4⟩:=h5 i' _ _ (r2 q.1 kx q1) r1;obtain⟨j,pj,t1,rfl,t2,_⟩:=G.of s2;obtain⟨ky,hky⟩:=kz my (h1▸q.1) t1;have:=t2 (h1▸q.1) ky hky;rw[s1] at this;cases this;exact⟨j,ky,pj,hky,t1,(HA.sm f kx ky (ed ha hx (.inl rfl) q1) (ed hb hy (.inl rfl) hky)).1 s3,(HA.sm f p pj (ed ha hx (.inr rfl) q2) (ed hb hy (.inr rfl) t1)).1 s4⟩
   .rename_i q;rw[AT q];intro i p r q1 q2;obtain⟨i',r1,r2,r3⟩:=E.to q1;obtain⟨j',s1,s2,s3⟩:=G.to q2;have:=r3 q;subst this;have:=s3 (λe=>q ⟨h1▸e.1,h3▸e.2⟩);subst this;obtain⟨u1,u2⟩:=h5 _ _ _ r1 s1;exact⟨(HA.sm f p r (ed ha hx (.inr rfl) q1) (ed hb hy (.inr rfl) q2)).1 u1,λhk kx ky v1 v2=>(HA.sm f kx ky (ed ha hx (.inl rfl) v1) (ed hb hy (.inl rfl) v2)).1 (u2 hk _ _ (r2 hk kx v1) (s2 (h1▸hk) ky v2))⟩
  .rintro⟨x2,y2,e1,e2,h1,h2,h3,h4,h5⟩;rw[hx] at e1;rw[hy] at e2;cases e1;cases e2;refine⟨x',y',hx',hy',by rw[E.k,G.k,h1],by rw[E.t,G.t,h2],by rw[E.o,G.o,h3],by rw[E.il,G.il,h4],?_⟩;rw[E.k,E.o];split at h5
   .rename_i q;rw[By q];intro i' kx' p' q1 q2;obtain⟨i,p,r1,rfl,r2,_⟩:=E.of q2;obtain⟨kx,hkx⟩:=kz mx q.1 r1;have:=r2 q.1 kx hkx;rw[q1] at this;cases this;obtain⟨j,ky,r,s1,s2,s3,s4⟩:=h5 i kx p hkx r1;obtain⟨j',t1,t2,_⟩:=G.to s2;exact⟨j',_,_,t2 (h1▸q.1) ky s1,t1,(HA.sm f kx ky (ed ha hx (.inl rfl) hkx) (ed hb hy (.inl rfl) s1)).2 s3,(HA.sm f p r (ed ha hx (.inr rfl) r1) (ed hb hy (.inr rfl) s2)).2 s4⟩
   .rename_i q;rw[AT q];intro i p' r' q1 q2;obtain⟨i',p,r1,rfl,r2,r3⟩:=E.of q1;obtain⟨j',r,s1,rfl,s2,s3⟩:=G.of q2;have:=r3 q;subst this;have:=s3 (λe=>q ⟨h1▸e.1,h3▸e.2⟩);subst this;obtain⟨u1,u2⟩:=h5 _ _ _ r1 s1;refine⟨(HA.sm f p r (ed ha hx (.inr rfl) r1) (ed hb hy (.inr rfl) s1)).2 u1,λhk kx' ky' v1 v2=>?_⟩;obtain⟨kx,hkx⟩:=kz mx hk r1;obtain⟨ky,hky⟩:=kz my (h1▸hk) s1;have:=r2 hk kx hkx;rw[v1] at this;cases this;have:=s2 (h1▸hk) ky hky;rw[v2] at this;cases this;exact (HA.sm f kx ky (ed ha hx (.inl rfl) hkx) (ed hb hy (.inl rfl) hky)).2 (u2 hk kx ky hkx hky)
end
end Go.Sh
namespace Go.Sh
open Go Go.Ago Go.Proofs
variable {N N':List aq}{root v:Int}{φ:Int->Int}{x x':aq}
theorem yB {γ:Type}{ψ:Int->γ}:∀l ,(iota l.length).map (λa=>ψ (nth l a))=l.map ψ:=λl=>by
 refine amv λi=>?_
 grind [eC,qi,jX,List.getElem?_eq_none,gD]
theorem xY.items (E:xY φ x x'):x'.items.Perm (x.items.map φ):=by
 obtain⟨o,h1,_,h3,_⟩:=E.e
 grind [nth,yB]
theorem xY.keys (E:xY φ x x')(hm:qK x)(hk:x.kind≠10->x.keys=[]):∃l:ε,l.Perm x.keys/\x'.keys=l.map φ:=by
 obtain⟨o,h1,_,_,h4⟩:=E.e;by_cases h:x.kind=10
 .refine⟨o.map (λa=>nth x.keys a),?_,by simp_all⟩;have:=h1.map (λa=>nth x.keys a);rw[<-hm h,yB (ψ:=λa=>a),List.map_id'] at this
  grind
 simp_all
theorem Gq {u}:∀{l:ε},(∀w∈l,φ w=φ u->w=u)->(l.map φ).count (φ u)=l.count u
 |[],_=>rfl
 |a::l,h=>by
  rw[acW,agw,agw,Gq λw hw=>h w (BY _ hw)]
  grind
theorem MJ {u}:∀{X:List aq} {i:Nat} {x},X[i]?=some x->(refs x).count u=1->(∀j y,X[j]?=some y->u∈refs y->j=i)->(X.flatMap refs).count u=1
 |[],i,x,h,_,_=>by simp at h
 |y::X,0,x,h,h1,h2=>by
  simp at h;subst h;rw[acD,agf,h1];have:(X.flatMap refs).count u=0:=List.count_eq_zero.2 λhm=>by
   obtain⟨z,hz,hu⟩:=List.mem_flatMap.1 hm;obtain⟨j,hj⟩:=List.mem_iff_getElem?.1 hz;have:=h2 (j+1) z (by grind) hu;omega
  omega
 |y::X,i+1,x,h,h1,h2=>by
  rw[acD,agf,MJ (by simpa using h) h1 λj z hj hu=>by
   have:=h2 (j+1) z (by grind) hu;omega]
  have:(refs y).count u=0:=List.count_eq_zero.2 λhm=>by
   have:=h2 0 y rfl hm;omega
  omega
def vw {u}:∀{X:List aq} {x},x∈X->(refs x).count u<=(X.flatMap refs).count u
 |y::X,x,h=>by
  rw[acD,agf];rcases List.mem_cons.1 h with rfl|h
  .omega
  .have:=vw (u:=u) h;omega
section
variable (I:HA N v N' φ)(g:GV N root)(d:Vd N root)(hv:IR N.length v)
include I g d hv
theorem HA.one {u}(hu:gf N v u)(kn:KN N u):(φ v::N'.flatMap refs).count (φ u)=1:=by
 have c1:=g.one u kn;obtain⟨H,_,hH⟩:=d.Hx;rw[agw];have who:∀(j:Nat) y,N'[j]?=some y->φ u∈refs y->∃p,gf N v p/\φ p=(j:Int)/\Edge N p u:=λj y hj hm=>by
  obtain⟨p,hp,e⟩:=I.sur (j:Int) ⟨by omega,by grind⟩;have hgj:gt N' (φ p)=some y:=by grind [gt]
  have hed:Edge N' (φ p) (φ u):=⟨y,hgj,by grind [refs]⟩;obtain⟨w,h1,h2⟩:=I.Vw g hp (I.ir g hv hp).1 hed;rw[I.inj w u (hp.step h1) hu h2] at h1
  grind
 by_cases e:u=v
 .subst e;have:(N'.flatMap refs).count (φ u)=0:=List.count_eq_zero.2 λhm=>by
   obtain⟨y,hy,hu'⟩:=List.mem_flatMap.1 hm;obtain⟨j,hj⟩:=List.mem_iff_getElem?.1 hy;obtain⟨p,h1,_,h3⟩:=who j y hj hu';have mono:∀w,gf N u w->KN N w/\H w<=H u:=λw r=>by
    induction r with
    |refl=>grind
    |step _ e ih=>exact⟨ih.1.step e,by have:=hH _ _ (ih.1.step e) e;omega⟩
   grind
  grind
 .have hne:φ v≠φ u:=λq=>e (I.inj v u .refl hu q).symm;rw[AT (by grind)];obtain⟨p,hp,hpu⟩:∃p,gf N v p/\Edge N p u:=by
   cases hu with
   |refl=>grind
   |step r ed=>grind
  obtain⟨x,hx,hm⟩:=id hpu;obtain⟨x',hx',E⟩:=I.nd p x hp hx;obtain⟨l,hl1,hl2⟩:=E.keys (g.Gp (ax hx)) (w8 (g.fm x (ax hx)));have pr:(refs x').Perm ((refs x).map φ):=by
   unfold refs;rw[hl2,ahO];exact (hl1.map φ).append E.items
  have cx:(refs x).count u=1:=by
   have h1:=vw (u:=u) (ax hx)
   grind [refs,List.count_pos_iff]
  have h1:(refs x').count (φ u)=1:=by
   rw[pr.count_eq,Gq λw hw q=>I.inj w u (hp.step ⟨x,hx,by grind [refs]⟩) hu q,cx]
  obtain⟨_,g2⟩:=aB hx'
  grind [MJ,CV,Int.toNat_natCast]
theorem HA.gv:GV N' (φ v):=by
 have hroot:=g.Q6 v hv;refine⟨acY I.len g.le,(I.ir g hv .refl).2,λx' hx'=>?_,λx' hx'=>?_,λw hw=>?_,λw kw=>?_,λx' hx'=>?_,?_⟩
 .obtain⟨u,x,hu,hx,hg,E⟩:=I.node g hv hx';have ok:∀w',Edge N' (φ u) w'->IR N'.length w':=λw' e=>by
   obtain⟨w,h1,rfl⟩:=I.Vw g hu (I.ir g hv hu).1 e;exact (I.ir g hv (hu.step h1)).2
  exact⟨λw hw=>ok w ⟨x',hg,.inl hw⟩,λw hw=>ok w ⟨x',hg,.inr hw⟩⟩
 .obtain⟨u,x,hu,hx,hg,E⟩:=I.node g hv hx';rw[E.form (g.Gp (ax hx)) (w8 (g.fm x (ax hx)))];exact g.fm x (ax hx)
 .obtain⟨u,hu,rfl⟩:=I.sur w hw;exact I.Q6 g .refl hu
 .obtain⟨u,hu,rfl,k⟩:=I.kn g hv kw;exact I.one g d hv hu k
 .obtain⟨u,x,hu,hx,hg,E⟩:=I.node g hv hx';obtain⟨l,hl1,hl2⟩:=E.keys (g.Gp (ax hx)) (w8 (g.fm x (ax hx)));have hM:∀x∈N,qK x:=λx hx=>g.Gp hx;have pw:l.Pairwise λy x=>¬SM N x y:=(hl1.pairwise_iff λ{a b} h q=>h (by
   obtain⟨f,q⟩:=q;exact⟨f,xO hM g.tw q⟩)).2 (g.tw x (ax hx))
  rw[hl2,List.pairwise_map];refine pw.imp_of_mem λ{a b} ha hb h q=>h ?_;obtain⟨f,q⟩:=q;have ra:∀w∈l,gf N v w:=λw hw=>hu.step ⟨x,hx,.inl (hl1.mem_iff.1 hw)⟩;exact⟨f,(I.sm g hv f b a (ra b hb) (ra a ha)).1 q⟩
 .obtain⟨f,hf,hr⟩:=g.dp;obtain⟨f',h1,h2⟩:=I.df g hv hf;have:=((hf root g.rt).2 v hroot).1
  grind
end
end Go.Sh
namespace Go.Sh
open Go Go.Ago Go.Proofs
variable {α β:Type}{h h' h0:ai}{L R:List aZ}{N:List aq}{root:Int}{B:Nat}{Q:β->ai->Prop}
def _root_.Go.Ago.Z.GG (z:Z h0 h L){b o:Nat}{cs:δ}{e:κ}{l:vO}{v:ξ}{x:l.den}{f:l.den->M β}(hm:aZ.ar b cs e∈L)(hv:cs[o]?=some v)(hx:D6 l v=some x)(q:Wp (f x) h Q):Wp (sh (dL l ⟨b,o,none⟩) f) h Q:=by
 obtain⟨i,hi⟩:=List.mem_iff_getElem?.1 hm;exact z.ld i q hi hv hx
theorem _root_.Go.Ago.Z.stM (z:Z h0 h (R++L)){b o:Nat}{cs vs cs':δ}{e:κ}{f:Unit->M β}(hm:aZ.ar b cs e∈L)(hc:aM cs o vs=cs')(ho:o+vs.length<=cs.length)(hs:vs.all fk=true)
  (q:∀(i:Nat) h',L[i]?=some (.ar b cs e)->Z h0 h' (R++L.set i (.ar b cs' e))->Wp (f ()) h' Q):Wp (sh (rN ⟨b,o,none⟩ vs) f) h Q:=by
 obtain⟨i,hi⟩:=List.mem_iff_getElem?.1 hm;have hi2:(R++L)[R.length+i]?=some (.ar b cs e):=by grind
 refine z.st (R.length+i) (λh1 z1=>q i h1 hi ?_) hi2 hc ho hs
 grind
def cA {a}{f}(q:Wp (f a) h Q):Wp (sh (nn (some a)) f) h Q:=by
 rw[ah];exact⟨a,h,rfl,q⟩
def _root_.Go.Ago.Z.rdM (z:Z h0 h L){b m:Nat}{e:κ}{c:ε}{a v:Int}{f:Int->M β}(hm:aZ.ar b (c.map vi) e∈L)(hg:gt c a=some v)(hl:c.length=m)(q:Wp (f v) h Q):Wp (sh (mz (arr b m) a 1) λp=>sh (dL li p) f) h Q:=by
 obtain⟨i,hi⟩:=List.mem_iff_getElem?.1 hm;exact z.Q5 i hg hl q hi
structure X6 where
 tb:Nat
 sb:Nat
 s:Sl
 root:Int
abbrev cs:Option (Nat×ε)->ξ
 |none=>aE
 |some (b,l)=>aA (arr b l.length)
structure Tab (t:X6) (N:List aq) (C:List (Option (Nat×ε))) (L:List aZ):Prop where
 len:C.length=N.length
 MN:aZ.ar t.tb [aA t.s,vi t.root,aA (arr t.sb N.length)] dA∈L
 Gm:aZ.ar t.sb (C.map cs) aF∈L
 ok:∀k b l,gt C k=some (some (b,l))->l=cd N k/\aZ.ar b (l.map vi) al∈L
def mu (t:X6)(N:List aq)(L:List aZ):Prop:=∃C,Tab t N C L
def Ext (L L':List aZ):Prop:=∀b (l:ε),aZ.ar b (l.map vi) al∈L->aZ.ar b (l.map vi) al∈L'
theorem Ext.refl {L}:Ext L L:=λ_ _ h=>h
theorem Ext.trans {L1 L2 L3}(a:Ext L1 L2)(b:Ext L2 L3):Ext L1 L3:=λx l h=>b x l (a x l h)
theorem Tp {γ:Type}{l:List γ}{i}{x y o}(hi:l[i]?=some x)(ho:o∈l)(hne:o≠x):o∈l.set i y:=by
 obtain⟨j,hj⟩:=List.mem_iff_getElem?.1 ho;have hij:i≠j:=λe=>by grind
 exact List.mem_iff_getElem?.2 ⟨j,by grind⟩
theorem Ob {γ:Type}{l:List γ}{i}{x y}(hi:l[i]?=some x):y∈l.set i y:=by
 have hlt:=(List.getElem?_eq_some_iff.1 hi).1;exact List.mem_iff_getElem?.2 ⟨i,by grind⟩
theorem Tab.put {t}{C}(T:Tab t N C L){i b}(hi:L[i]?=some (.ar t.sb (C.map cs) aF)){k}(hk:IR N.length k) :
  Tab t N (C.set k.toNat (some (b,cd N k))) (.ar b ((cd N k).map vi) al::L.set i (.ar t.sb ((C.set k.toNat (some (b,cd N k))).map cs) aF)) /\
  Ext L (.ar b ((cd N k).map vi) al::L.set i (.ar t.sb ((C.set k.toNat (some (b,cd N k))).map cs) aF)):=by
 have ne1:∀(b:Nat) (c:δ),aZ.ar b c al≠.ar t.sb (C.map cs) aF:=λb c e=>by grind
 have ne2:∀(b:Nat) (c:δ),aZ.ar b c dA≠.ar t.sb (C.map cs) aF:=λb c e=>by grind
 have ext:∀{o:aZ},o∈L->o≠.ar t.sb (C.map cs) aF->o∈aZ.ar b ((cd N k).map vi) al::L.set i (.ar t.sb ((C.set k.toNat (some (b,cd N k))).map cs) aF):=
  λh1 h2=>BY _ (Tp hi h1 h2)
 refine⟨⟨by rw[ah8];exact T.len,ext T.MN (ne2 _ _),BY _ (Ob hi),λk' b' l hg=>?_⟩,λb' l hm=>ext hm (ne1 _ _)⟩;rw[gH (by rw[T.len];exact hk)] at hg;split at hg
 .grind
 .obtain⟨h1,h2⟩:=T.ok k' b' l hg
  grind
theorem als {m b}(hm:m<1073741824) a0 a1 a2 :
  ∀n i h L ,m-i<n->i<=m->Z h0 h (.ar b (((iota m).take i++List.replicate (m-i) 0).map vi) al::L) ->
   Wp ((cl n).fu a0 a1 a2 (arr b m) (m:Int) (i:Int)) h λ_ h'=>Z h0 h' (.ar b ((iota m).map vi) al::L):=by
 intro n
 induction n with
 |zero=>intro i h L h1;omega
 |succ n ih=>
  intro i h L h1 h2 z;show Wp (mh (cl n) n a0 a1 a2 (arr b m) (m:Int) (i:Int)) h _;unfold mh;have hl:=gD m;by_cases hi:i<m
  .rw[By (by grind)];refine GF (by omega) (by omega) ?_;rw[aba,ahS];refine z.DV 0 (xs:=(iota m).take i++List.replicate (m-i) 0) (by grind) (λh3 z=>?_);have hf:=fill (qi hi);rw[hl] at hf;rw[hf] at z;rw[wZ h2 (by omega)];exact ih (i+1) h3 L (by omega) (by omega) z
  .rw[AT (by grind),ag]
   grind
def X7 (h0:ai)(t:X6)(N:List aq)(fc:Nat)(i j:Int):Prop:=∀(n:Nat) (h:ai) (R L:List aZ),fc<=n->mu t N L->Z h0 h (R++L) ->
 Wp ((cl n).gJ (some (ak t.tb)) i (some (ak t.tb)) j none) h λr h'=>r=gZ N i j/\∃L',mu t N L'/\Ext L L'/\Z h0 h' (R++L')
def HB (h0:ai)(t:X6)(N:List aq)(fe:Nat)(k:Int)(m:Nat):Prop:=∀(n:Nat) (h:ai) (R L:List aZ),fe<=n->mu t N L->Z h0 h (R++L) ->
 Wp ((cl n).cS (some (ak t.tb)) k) h λr h'=>∃b L',r=arr b m/\aZ.ar b ((cd N k).map vi) al∈L'/\mu t N L'/\Ext L L'/\Z h0 h' (R++L')
def abW {C}{k}{c}(hc:gt C k=some c):(C.map cs)[k.toNat*1]?=some (cs c):=by
 rw[ahS,abh,(aB hc).2];rfl
def Cw {γ:Type}{a:γ}{R L}:(a::(R++L)).Perm (R++a::L):=List.perm_middle.symm
theorem abX {t}(G:ou h0 t.s N)(d:Vd N root)(hB:Bd N B){fc}{k}{x}(hx:gt N k=some x)(hsm:x.kind=10->x.items.length<50)(hc:∀u∈x.keys,∀v∈x.keys,X7 h0 t N fc u v) :
  HB h0 t N (fc+700+B) k x.items.length:=by
 intro n h R L hn ⟨C,T⟩ z;have hNB:=hB.2.1;obtain⟨_,hBi⟩:=hB.2.2 x (ax hx);have hkr:IR N.length k:=nF hx;obtain⟨n,rfl⟩:∃n',n=n'+1:=⟨n-1,by omega⟩;show Wp (po (cl n) n (some (ak t.tb)) k) h _;unfold po;refine z.new λx0 h1 z _=>?_;refine z.ld 0 (cA ?_);refine z.GG (x:=t.s) (BY _ (OF _ T.MN)) rfl rfl ?_;obtain⟨g1,g2⟩:=aB hx;refine G.P3 z g1 g2 λa ks is nd=>?_;refine z.new λx5 h2 z _=>?_;refine z.st 0 (cs':=[Value.pointer (some a)]) λh3 z=>?_;have z:Z h0 h3 (.ar x5 [Value.pointer (some a)] fh::.ar x0 [Value.pointer (some (ak t.tb))] bA::(R++L)):=z;have memL:∀{o:aZ},o∈L->o∈aZ.ar x5 [Value.pointer (some a)] fh::.ar x0 [Value.pointer (some (ak t.tb))] bA::(R++L):=λh=>BY _ (BY _ (OF _ h));refine z.ld 1 (cA ?_);refine z.GG (x:=arr t.sb N.length) (memL T.MN) rfl rfl ?_;obtain⟨c,hcC⟩:=fj T.len hkr;refine GF g1 hkr.2 ?_;cases c with
 |some e=>
  obtain⟨b,l⟩:=e;obtain⟨hl,hm⟩:=T.ok k b l hcC;refine z.GG (x:=arr b l.length) (memL T.Gm) (abW hcC) rfl ?_;rw[By (by rfl)];refine z.ld 1 (cA ?_);refine z.GG (x:=arr t.sb N.length) (memL T.MN) rfl rfl ?_;refine GF g1 hkr.2 ?_;refine z.GG (x:=arr b l.length) (memL T.Gm) (abW hcC) rfl (ag.2 ?_);subst hl;exact⟨b,L,by rw[tT hx],hm,⟨C,T⟩,.refl,z.drop.drop⟩
 |none=>
  refine z.GG (x:=ow) (memL T.Gm) (abW hcC) rfl ?_;rw[AT (by simp)];refine z.ld 0 (cA ?_);refine (nd.fr z.fr).Lq ?_;have hlen:is.len=x.items.length:=nd.items.len;rw[hlen];refine z.Mi (by omega) (by grind [da]) λb h4 z _=>?_;rw[aba] at z⊢;rw[pI] at z;have z0:Z h0 h4 (.ar b (((iota x.items.length).take 0++List.replicate (x.items.length-0) 0).map vi) al::.ar x5 [Value.pointer (some a)] fh::.ar x0 [Value.pointer (some (ak t.tb))] bA::(R++L)):=by grind
  rw[ah];refine (als (by omega) k (ak x0) (ak x5) n 0 h4 _ (by omega) (by omega) z0).mono λ_ h5 z=>?_;refine z.ld 1 (cA ?_);refine (nd.fr z.fr).Q0 ?_;have store:∀(h:ai) (L:List aZ) (C:List (Option (Nat×ε))) (l:ε),l=cd N k->Tab t N C L->Z h0 h (.ar b (l.map vi) al::.ar x5 [Value.pointer (some a)] fh::.ar x0 [Value.pointer (some (ak t.tb))] bA::(R++L)) ->
    Wp (sh (dL .ptr (ak x0)) λ(x20:θ)=>sh (nn x20) λx21=>sh (dL .sl (x21.plus 2)) λ(x22:Sl)=>sh (mz x22 k 1) λx23=>sh (rN x23 [aA (arr b x.items.length)]) λx24=>AI (arr b x.items.length)) h λr h'=>
     ∃b L',r=arr b x.items.length/\aZ.ar b ((cd N k).map vi) al∈L'/\mu t N L'/\Ext L L'/\Z h0 h' (R++L'):=by
   intro h L C l hl T z;subst hl;refine z.ld 2 (cA ?_);refine z.GG (x:=arr t.sb N.length) (BY _ (BY _ (BY _ (OF _ T.MN)))) rfl rfl ?_;refine GF g1 hkr.2 ?_;have hsp:aM (C.map cs) (k.toNat*1) [aA (arr b x.items.length)]=(C.set k.toNat (some (b,cd N k))).map cs:=by
    rw[ahS,<-Eo (by rw[T.len];grind)];simp[cs,tT hx]
   refine Z.stM (R:=.ar b ((cd N k).map vi) al::.ar x5 [Value.pointer (some a)] fh::.ar x0 [Value.pointer (some (ak t.tb))] bA::R) z T.Gm hsp (by rw[acL,T.len,ahS];grind) rfl λi h' hi z=>ag.2 ?_;obtain⟨T',E'⟩:=T.put (b:=b) hi hkr;refine⟨b,_,rfl,IS,⟨_,T'⟩,E',Z.perm (Z.sub z ?_) Cw⟩
   simp_all
  by_cases hk:x.kind=10
  .rw[By (by grind)];refine z.ld 1 (cA ?_);refine (nd.fr z.fr).ldO ?_;have hkl:=d.map (ax hx) hk;cases ho:x.ord with
   |true=>
    rw[Ky];have e:iota x.items.length=cd N k:=by
     grind [cd,jy]
    exact store h5 L C _ e T z
   |false=>
    rw[Kx];unfold mi
    let cx:Cx:=⟨h0,b,x.items.length,Value.func (Fn.func jg) #[] #[Value.pointer (some (ak x0)),Value.pointer (some (ak x5))],fc+1,λLx=>∃L1,Lx=.ar x5 [Value.pointer (some a)] fh::.ar x0 [Value.pointer (some (ak t.tb))] bA::L1/\mu t N L1/\Ext L L1⟩
    have okc:cx.OK (To cx.m λu v=>gZ N (nth x.keys u) (nth x.keys v)):=by
     intro n u v h R2 Lx hn hu hu2 hv hv2 ⟨L1,e,T1,E1⟩ z;subst e;have hu2:u<(x.items.length:Int):=hu2;have hv2:v<(x.items.length:Int):=hv2;obtain⟨n,rfl⟩:∃n',n=n'+1:=⟨n-1,by grind⟩;have hn:fc+1<=n+1:=hn;show Wp (ay (cl (n+1)) (n+1) (Value.func (Fn.func jg) #[] #[Value.pointer (some (ak x0)),Value.pointer (some (ak x5))]) u v) h _;unfold ay;rw[By (by rfl),ah];refine iA (c:=((ak x0,ak x5):Addr×Addr)) rfl ?_;show Wp (mW (cl n) n u v (ak x0) (ak x5)) h _;unfold mW;have m5:aZ.ar x5 [Value.pointer (some a)] fh∈R2++(.ar x5 [Value.pointer (some a)] fh::.ar x0 [Value.pointer (some (ak t.tb))] bA::L1):=OF _ IS;have m0:aZ.ar x0 [Value.pointer (some (ak t.tb))] bA∈R2++(.ar x5 [Value.pointer (some a)] fh::.ar x0 [Value.pointer (some (ak t.tb))] bA::L1):=OF _ (BY _ IS);obtain⟨ku,hku⟩:=nf (l:=x.keys) hu (by omega);obtain⟨kv,hkv⟩:=nf (l:=x.keys) hv (by omega);have ndz:=nd.fr z.fr;refine z.GG m0 rfl rfl ?_;refine z.GG m5 rfl rfl (cA ?_);refine ndz.Lp (ndz.keys.ix hu (aB hku).2 λ_ _ c1=>c1.sL (l:=li) rfl rfl ?_);refine z.GG m0 rfl rfl ?_;refine z.GG m5 rfl rfl (cA ?_);refine ndz.Lp (ndz.keys.ix hv (aB hkv).2 λ_ _ c1=>c1.sL (l:=li) rfl rfl ?_);rw[ah];have z2:Z h0 h ((R2++[.ar x5 [Value.pointer (some a)] fh,.ar x0 [Value.pointer (some (ak t.tb))] bA])++L1):=(by grind);refine (hc ku (ax hku) kv (ax hkv) n h _ L1 (by omega) T1 z2).mono λr h' hr=>ag.2 ?_;obtain⟨rfl,L2,T2,E2,z3⟩:=hr;refine⟨?_,_,⟨L2,rfl,T2,E1.trans E2⟩,by grind⟩
     grind [To,nth]
    have st:cx.St R h5 (iota cx.m):=by
     refine⟨_,⟨L,rfl,⟨C,T⟩,.refl⟩,?_⟩;refine Z.perm z (List.Perm.cons _ ?_);exact (List.Perm.cons _ Cw).trans Cw
    rw[ah];refine (alq (cv:=λu v=>gZ N (nth x.keys u) (nth x.keys v)) (c:=cx) (hsm hk) okc (by grind) st).mono λ_ h6 hs=>?_;obtain⟨Lx,⟨L1,rfl,⟨C1,T1⟩,E1⟩,z6⟩:=hs;have z6:Z h0 h6 (.ar b ((Gm (λu v=>gZ N (nth x.keys u) (nth x.keys v)) x.items.length).map vi) al::.ar x5 [Value.pointer (some a)] fh::.ar x0 [Value.pointer (some (ak t.tb))] bA::(R++L1)):=by
     refine Z.perm z6 (List.Perm.cons _ ?_);exact ((List.Perm.cons _ Cw).trans Cw).symm
    have e:Gm (λu v=>gZ N (nth x.keys u) (nth x.keys v)) x.items.length=cd N k:=by
     unfold cd jy;grind
    exact (store h6 L1 C1 _ e T1 z6).mono λr h7 hr=>by
     obtain⟨b',L',q1,q2,q3,q4,q5⟩:=hr;exact⟨b',L',q1,q2,q3,E1.trans q4,q5⟩
  .rw[AT (by grind)];have e:iota x.items.length=cd N k:=by
    grind [cd,jy]
   exact store h5 L C _ e T z
end Go.Sh
namespace Go.Sh
open Go Go.Ago Go.Proofs
variable {α β:Type}{h h' h0:ai}{L R:List aZ}{N:List aq}{root:Int}{B:Nat}{Q:β->ai->Prop}
def Cy {c}{a v}(hg:gt c a=some v):(c.map vi)[a.toNat*1]?=some (vi v):=by
 rw[ahS,abh,(aB hg).2];rfl
theorem Gr {c:ε}{i:Nat}{v}(hg:gt c (i:Int)=some v):c.drop i=v::c.drop (i+1):=by
 have:=(aB hg).2
 grind [Int.toNat_natCast,drop_cons]
theorem alu {t}{fc}{x y}{a a'}{ks is ks' is'}(nd:IU h0 a x ks is)(nd':IU h0 a' y ks' is'){bp bq}{p q:ε}
  (hp:∀u∈p,0<=u/\u<x.items.length/\(x.kind=10->u<x.keys.length)) (hq:∀u∈q,0<=u/\u<y.items.length/\(x.kind=10->u<y.keys.length)) (hbig:p.length<1073741824)
  (hc:∀u,u∈x.keys\/u∈x.items->∀v,v∈y.keys\/v∈y.items->X7 h0 t N fc u v):∀n i h R L ,fc+(min p.length q.length-i)+1<=n->i<=min p.length q.length->aZ.ar bp (p.map vi) al∈L->aZ.ar bq (q.map vi) al∈L->mu t N L->Z h0 h (R++L) ->
  Wp ((cl n).ij (some (ak t.tb)) (some (ak t.tb)) none (some a) (some a') (arr bp p.length) (arr bq q.length) ((min p.length q.length:Nat):Int) (i:Int)) h λr h'=>
   r=(match qj (gZ N) x y (p.drop i) (q.drop i) with|some c=>.inr c|none=>.inl ())/\∃L',mu t N L'/\Ext L L'/\Z h0 h' (R++L'):=by
 intro n
 induction n with
 |zero=>intro i h R L h1;omega
 |succ n ih=>
  intro i h R L h1 h2 mp mq T z;show Wp (lM (cl n) n (some (ak t.tb)) (some (ak t.tb)) none (some a) (some a') (arr bp p.length) (arr bq q.length) ((min p.length q.length:Nat):Int) (i:Int)) h _;unfold lM;by_cases hi:i<min p.length q.length
  .rw[By (by grind)];obtain⟨u,hu⟩:=nf (l:=p) (v:=(i:Int)) (by omega) (by omega);obtain⟨v,hv⟩:=nf (l:=q) (v:=(i:Int)) (by omega) (by omega);obtain⟨u1,u2,u3⟩:=hp u (ax hu);obtain⟨v1,v2,v3⟩:=hq v (ax hv);rw[Gr hu,Gr hv];obtain⟨iu,hiu⟩:=nf u1 u2;obtain⟨iv,hiv⟩:=nf v1 v2;have next:∀(h:ai) (L:List aZ),gZ N iu iv=0->aZ.ar bp (p.map vi) al∈L->aZ.ar bq (q.map vi) al∈L->mu t N L->Z h0 h (R++L) ->
     Wp ((cl n).ij (some (ak t.tb)) (some (ak t.tb)) none (some a) (some a') (arr bp p.length) (arr bq q.length) ((min p.length q.length:Nat):Int) (IntKind.i64.wrap ((i:Int)+1))) h λr h'=>
      r=(match qj (gZ N) x y (p.drop (i+1)) (q.drop (i+1)) with|some c=>.inr c|none=>.inl ())/\∃L',mu t N L'/\Ext L L'/\Z h0 h' (R++L'):=by
    intro h L _ mp mq T z;rw[wZ (by omega) hbig];exact ih (i+1) h R L (by omega) (by omega) mp mq T z
   have J0:∀(h:ai) (L:List aZ),(x.kind=10->gZ N (nth x.keys u) (nth y.keys v)=0)->aZ.ar bp (p.map vi) al∈L->aZ.ar bq (q.map vi) al∈L->mu t N L->Z h0 h (R++L) ->
     Wp (eY (cl n) n (some (ak t.tb)) (some (ak t.tb)) none (some a) (some a') (arr bp p.length) (arr bq q.length) (i:Int) ((min p.length q.length:Nat):Int) (i:Int)) h λr h'=>
      r=(match qj (gZ N) x y (u::p.drop (i+1)) (v::q.drop (i+1)) with|some c=>.inr c|none=>.inl ())/\∃L',mu t N L'/\Ext L L'/\Z h0 h' (R++L'):=by
    intro h L hk mp mq T z;unfold eY;refine cA (GF (by omega) (by omega) (cA (GF (by omega) (by omega) ?_)));have ndz:=nd.fr z.fr;have ndz':=nd'.fr z.fr;refine ndz.Lq ?_;refine z.GG (OF _ mp) (Cy hu) rfl ?_;refine ndz.items.ix u1 (aB hiu).2 λ_ _ c1=>c1.sL (l:=li) rfl rfl ?_;refine ndz'.Lq ?_;refine z.GG (OF _ mq) (Cy hv) rfl ?_;refine ndz'.items.ix v1 (aB hiv).2 λ_ _ c1=>c1.sL (l:=li) rfl rfl ?_;rw[ah];refine (hc iu (.inr (ax hiu)) iv (.inr (ax hiv)) n h R L (by omega) T z).mono λr h' hr=>?_;obtain⟨rfl,L',T',E',z'⟩:=hr;have e1:nth x.items u=iu:=(by grind [nth]);have e2:nth y.items v=iv:=(by grind [nth]);have eq:qj (gZ N) x y (u::p.drop (i+1)) (v::q.drop (i+1))=if gZ N iu iv≠0 then some (gZ N iu iv) else qj (gZ N) x y (p.drop (i+1)) (q.drop (i+1)):=by
     conv=>lhs;unfold qj
     grind
    rw[eq];by_cases h0':gZ N iu iv=0
    .rw[AT (by grind),AT (show ¬(gZ N iu iv≠0) from λe=>e h0')];exact (next h' L' h0' (E' _ _ mp) (E' _ _ mq) T' z').mono λr h2 hr=>⟨hr.1,by obtain⟨L2,t2,e2,z2⟩:=hr.2;exact⟨L2,t2,E'.trans e2,z2⟩⟩
    .rw[By (by grind),By h0'];exact ag.2 ⟨rfl,L',T',E',z'⟩
   refine cA ?_;refine (nd.fr z.fr).Q0 ?_;by_cases hk:x.kind=10
   .rw[By (by grind)];refine cA (GF (by omega) (by omega) (cA (GF (by omega) (by omega) ?_)));have ndz:=nd.fr z.fr;have ndz':=nd'.fr z.fr;obtain⟨ku,hku⟩:=nf u1 (u3 hk);obtain⟨kv,hkv⟩:=nf v1 (v3 hk);refine ndz.Lp ?_;refine z.GG (OF _ mp) (Cy hu) rfl ?_;refine ndz.keys.ix u1 (aB hku).2 λ_ _ c1=>c1.sL (l:=li) rfl rfl ?_;refine ndz'.Lp ?_;refine z.GG (OF _ mq) (Cy hv) rfl ?_;refine ndz'.keys.ix v1 (aB hkv).2 λ_ _ c1=>c1.sL (l:=li) rfl rfl ?_;rw[ah];refine (hc ku (.inl (ax hku)) kv (.inl (ax hkv)) n h R L (by omega) T z).mono λr h' hr=>?_;obtain⟨rfl,L',T',E',z'⟩:=hr;have e1:nth x.keys u=ku:=(by unfold nth;grind);have e2:nth y.keys v=kv:=(by unfold nth;grind);by_cases h0':gZ N ku kv=0
    .rw[AT (by grind)];exact (J0 h' L' (λ_=>by grind) (E' _ _ mp) (E' _ _ mq) T' z').mono λr h2 hr=>⟨hr.1,by obtain⟨L2,t2,e2,z2⟩:=hr.2;exact⟨L2,t2,E'.trans e2,z2⟩⟩
    .rw[By (by grind)];unfold qj;rw[e1,e2,By ⟨hk,h0'⟩];exact ag.2 ⟨rfl,L',T',E',z'⟩
   .rw[AT (by grind)];exact J0 h L (λe=>absurd e hk) mp mq T z
  .rw[AT (by grind)];refine ag.2 ⟨?_,L,T,.refl,z⟩;have:p.drop i=[]\/q.drop i=[]:=by
    grind
   rcases this with e|e
   .rw[e];cases q.drop i<;>rfl
   .rw[e];cases p.drop i<;>rfl
theorem alv {t}(G:ou h0 t.s N)(d:Vd N root)(hB:Bd N B)(ht:∀x∈N,x.text.size<=65536){fc fe}{i j}{x y}(hx:gt N i=some x)(hy:gt N j=some y)(hi:KN N i)(hj:KN N j)
  (hfe:65600<=fe) (hfc:fc+B<=fe) (ei:HB h0 t N fe i x.items.length) (ej:HB h0 t N fe j y.items.length) (hc:∀u,u∈x.keys\/u∈x.items->∀v,v∈y.keys\/v∈y.items->X7 h0 t N fc u v):X7 h0 t N (fe+10) i j:=by
 intro n h R L hn T z;have hBB:=hB.2.1;obtain⟨n,rfl⟩:∃n',n=n'+2:=⟨n-2,by omega⟩;show Wp (oP (cl (n+1)) (n+1) (some (ak t.tb)) i (some (ak t.tb)) j none) h _;unfold oP;rw[ah];refine⟨((false,0):Bool×Int),h,rfl,?_⟩;show Wp (sh ((cl (n+1)).oh (some (ak t.tb)) i (some (ak t.tb)) j none) _) h _;rw[ah];rw[Vv d hi hj hx hy];have main:Wp (qe (cl n) n (some (ak t.tb)) i (some (ak t.tb)) j none) h λr h'=>r=Fa (gZ N) x y/\∃L',mu t N L'/\Ext L L'/\Z h0 h' (R++L'):=by
  unfold qe Fa;obtain⟨C,TC⟩:=T;have tabm:=OF R TC.MN;refine cA (cA ?_);refine z.GG (x:=t.s) tabm rfl rfl ?_;refine G.P3 z (aB hx).1 (aB hx).2 λa ks is nd=>?_;refine z.GG (x:=t.s) tabm rfl rfl ?_;refine G.P3 z (aB hy).1 (aB hy).2 λa' ks' is' nd'=>?_;have ndz:=nd.fr z.fr;have ndz':=nd'.fr z.fr;refine cA (cA (ndz.Q0 (ndz'.Q0 ?_)));by_cases c1:x.kind<y.kind
  .rw[By (by grind),By c1];exact ag.2 ⟨rfl,L,⟨C,TC⟩,.refl,z⟩
  rw[AT (by grind),AT c1];refine cA (cA (ndz.Q0 (ndz'.Q0 ?_)));by_cases c2:y.kind<x.kind
  .rw[By (by grind),By c2];exact ag.2 ⟨rfl,L,⟨C,TC⟩,.refl,z⟩
  rw[AT (by grind),AT c2];have hk:x.kind=y.kind:=by omega
  refine cA (cA (ndz.ldO (ndz'.ldO ?_)));by_cases c3:x.ord=y.ord
  .rw[AT (by grind),AT (by grind)];refine cA (cA (cA (ndz.Q0 (ndz.Q8 (ndz'.Q8 ?_)))));have hsx:=ht x (ax hx);have hsy:=ht y (ax hy);refine z.call (Qn hsx hsy (by omega) z.wf) λr h1 hr f1 z1=>?_;subst hr;by_cases c4:vc x.kind x.text y.text=0
   .rw[AT (by grind),AT (by grind)];rw[ah];refine (ei n h1 R L (by omega) ⟨C,TC⟩ z1).mono λr h2 hr=>?_;obtain⟨bp,L1,rfl,mp,T1,E1,z2⟩:=hr;rw[ah];refine (ej n h2 R L1 (by omega) T1 z2).mono λr h3 hr=>?_;obtain⟨bq,L2,rfl,mq,T2,E2,z3⟩:=hr;have lp:=tT hx;have lq:=tT hy;have hbx:=(hB.2.2 x (ax hx)).2;have hby:=(hB.2.2 y (ax hy)).2;have em:(if ((arr bq y.items.length).len:Int)<((arr bp x.items.length).len:Int) then ((arr bq y.items.length).len:Int) else ((arr bp x.items.length).len:Int))=((min (cd N i).length (cd N j).length:Nat):Int):=by
     rw[lp,lq];show (if (y.items.length:Int)<(x.items.length:Int) then (y.items.length:Int) else (x.items.length:Int))=_
     grind
    rw[em];rw[ah];have ox:cd N i=jy (gZ N) x:=(by grind [cd]);have oy:cd N j=jy (gZ N) y:=(by grind [cd]);have key:=alu nd nd' (λu hu=>by
      rw[ox] at hu;have:=iH hu;exact⟨this.1,this.2,λe=>by rw[d.map (ax hx) e];grind⟩) (λu hu=>by
      rw[oy] at hu;have:=iH hu;exact⟨this.1,this.2,λe=>by rw[d.map (ax hy) (hk▸e)];grind⟩) (by omega) hc n 0 h3 R L2 (by omega) (by omega) (E2 _ _ mp) mq T2 z3
    rw[lp,lq] at key;rw[lp,lq];refine key.mono λr h4 hr=>?_;obtain⟨hr,L3,T3,E3,z4⟩:=hr;rw[aiq,aiq,ox,oy] at hr;have fin:∃L',mu t N L'/\Ext L L'/\Z h0 h4 (R++L'):=⟨L3,T3,(E1.trans E2).trans E3,z4⟩;cases hd:qj (gZ N) x y (jy (gZ N) x) (jy (gZ N) y) with
    |some c=>rw[hd] at hr;subst hr;exact ag.2 ⟨rfl,fin⟩
    |none=>
     rw[hd] at hr;subst hr;show Wp (if decide ((x.items.length:Int)<(y.items.length:Int))=true then AI (-1) else if decide ((y.items.length:Int)<(x.items.length:Int))=true then AI 1 else AI 0) h4 _;by_cases l1:x.items.length<y.items.length
     .rw[By (by grind)];simp[By l1];exact ag.2 ⟨rfl,fin⟩
     .rw[AT (by grind)];simp only[AT l1];by_cases l2:y.items.length<x.items.length
      .rw[By (by grind)];simp[By l2];exact ag.2 ⟨rfl,fin⟩
      .rw[AT (by grind)];simp[AT l2];exact ag.2 ⟨rfl,fin⟩
   .rw[By (by grind),By c4];exact ag.2 ⟨rfl,L,⟨C,TC⟩,.refl,z1⟩
  .rw[By (by grind),By c3];refine cA (ndz'.ldO ?_);cases y.ord
   .exact ag.2 ⟨rfl,L,⟨C,TC⟩,.refl,z⟩
   .exact ag.2 ⟨rfl,L,⟨C,TC⟩,.refl,z⟩
 refine main.mono λr h1 hr=>?_;rw[AT (by simp)];exact ag.2 hr
def fuC (B d:Nat):Nat:=66000+d*(2*B+800)
theorem afI {t}(G:ou h0 t.s N)(d:Vd N root)(hB:Bd N B)(ht:∀x∈N,x.text.size<=65536)(hsm:∀x∈N,x.kind=10->x.items.length<50){H:Int->Nat}(hH:∀u v,KN N v->Edge N u v->H v<H u) :
  ∀e ,(∀i j,KN N i->KN N j->H i<e->H j<e->X7 h0 t N (fuC B e) i j)/\∀k x,gt N k=some x->H k<=e->HB h0 t N (fuC B e+700+B) k x.items.length:=by
 intro e
 induction e with
 |zero=>
  refine⟨λi j _ _ h1=>absurd h1 (by omega),λk x hx hk=>abX G d hB hx (hsm x (ax hx)) λu hu v hv=>?_⟩;have:=hH k u (.key (ax hx) hu) ⟨x,hx,.inl hu⟩;omega
 |succ e ih=>
  have cmp:∀i j,KN N i->KN N j->H i<e+1->H j<e+1->X7 h0 t N (fuC B (e+1)) i j:=λi j hi hj h1 h2=>by
   obtain⟨x,hx⟩:=fj rfl (hi.ir d.ix);obtain⟨y,hy⟩:=fj rfl (hj.ir d.ix);have:=alv G d hB ht hx hy hi hj (fc:=fuC B e) (by grind [fuC]) (by omega) (ih.2 i x hx (by omega)) (ih.2 j y hy (by omega)) λu hu v hv=>by
    have eu:Edge N i u:=⟨x,hx,hu⟩;have ev:Edge N j v:=⟨y,hy,hv⟩;have q1:=hH i u (.step hi eu) eu;have q2:=hH j v (.step hj ev) ev;exact ih.1 u v (.step hi eu) (.step hj ev) (by omega) (by omega)
   intro n h R L hn T z;refine this n h R L ?_ T z
   grind [fuC]
  refine⟨cmp,λk x hx hk=>?_⟩;refine abX G d hB hx (hsm x (ax hx)) λu hu v hv=>?_;have q1:=hH k u (.key (ax hx) hu) ⟨x,hx,.inl hu⟩;have q2:=hH k v (.key (ax hx) hv) ⟨x,hx,.inl hv⟩;exact cmp u v (.key (ax hx) hu) (.key (ax hx) hv) (by omega) (by omega)
def fuE (B:Nat):Nat:=fuC B B+700+B
theorem Fc {t}(G:ou h0 t.s N)(d:Vd N root)(hB:Bd N B)(ht:∀x∈N,x.text.size<=65536)(hsm:∀x∈N,x.kind=10->x.items.length<50){k}{x}(hx:gt N k=some x):HB h0 t N (fuE B) k x.items.length:=by
 obtain⟨H,hH1,hH2⟩:=d.Hx;have h1:=(afI G d hB ht hsm hH2 N.length).2 k x hx (hH1 k);intro n h R L hn T z;refine h1 n h R L ?_ T z;have h2:fuC B N.length<=fuC B B:=Nat.add_le_add_left (ag8 _ hB.1) _
 grind [fuE]
end Go.Sh
namespace Go.Ago
open Go
variable {α β:Type}{h h' h0:ai}{L:List aZ}
theorem Z.Oc (z:Z h0 h L) i {st}{s}{sz n}{e}{cs new}{g}{f:Sl->M β}{Q}(hi:L[i]?=some (.sl s sz e cs g))(hn:n≠0)(hl:new.length=n*sz)(hb:s.len+n<=da)
  (q:∀s' h' g',s'.len=s.len+n->Z h0 h' (L.set i (.sl s' sz e (cs++new) g'))->Fr (·=g) h h'->Wp (f s') h' Q):Wp (sh (Ago.app st s sz e n new) f) h Q:=by
 rw[ah];have o:uq h s sz e cs g:=z.get i hi;refine o.app z.wf hn hl hb λs' h' g' h1 hcap h2 h3 h4=>q s' h' g' h1 ?_ h4;by_cases hg:g=0
 .have h3:=h3.resolve_left (λx=>x.2 hg);have f0:Fr (λ_=>False) h h':=⟨h4.wf,h4.next,λj c g2 b e2 hj _=>h4.cells j c g2 b e2 hj λe3=>by grind,λg2 h5 _=>h4.qI g2 h5 λe3=>by grind,h4.used,h4.none,λj x hj _=>h4.maps j x hj (by omega)⟩
  have z1:=z.add f0 (o:=.sl s' sz e (cs++new) g') h2 (.inr (by simp[aZ.jo];omega));refine⟨z1.PT,z1.fr,λx hx=>z1.own x ?_,Em qp (List.pairwise_cons.1 z1.yJ).2 λj y hj hne e2=>(List.pairwise_cons.1 z1.yJ).1 y (IN hj) e2⟩
  grind
 .refine z.wj hi hg h4 h2 ?_
  grind [aZ.jo]
theorem Z.o8 (z:Z h0 h L) i {m}{kt}{fn}{n}{k v}{f:Unit->M β}{Q}(hi:L[i]?=some (.map m kt fn n))
  (q:∀h' n',Z h0 h' (L.set i (.map m kt (Ek fn k v) n'))->Wp (f ()) h' Q):Wp (sh (DP kt (some m) k v) f) h Q:=by
 rw[ah];exact MB.aoa (z.get i hi) z.wf λh' l fr=>q h' _ (z.wj hi (by simp[aZ.jo]) fr l (.inl rfl))
end Go.Ago
namespace Go.Sh
open Go Go.Ago Go.Proofs
variable {N:List aq}{root:Int}{B:Nat}
structure NS where
 at':ε
 gC:Nat
 out:List aq
def qU (F:Int->NS->Option (Int×NS))(x:aq):ε->NS->Option ((ε×ε)×NS)
 |[],S=>some (([],[]),S)
 |k::r,S=>if x.kind=10 then (match F (nth x.keys k) S with
   |none=>none
   |some (a,S1)=>match F (nth x.items k) S1 with
    |none=>none
    |some (b,S2)=>match qU F x r S2 with
     |none=>none
     |some ((ks,is),S3)=>some ((a::ks,b::is),S3))
  else match F (nth x.items k) S with
   |none=>none
   |some (b,S2)=>match qU F x r S2 with
    |none=>none
    |some ((ks,is),S3)=>some ((ks,b::is),S3)
noncomputable def nv (N:List aq):Nat->Int->NS->Option (Int×NS)
 |0,_,_=>none
 |f+1,k,S=>match gt S.at' k,gt N k with
  |some v,some x=>if 0<=v then some (v,S) else match qU (nv N f) x (cd N k) ⟨S.at'.set k.toNat S.gC,S.gC+1,S.out⟩ with
   |none=>none
   |some ((ks,is),S2)=>some ((S.gC:Int),⟨S2.at',S2.gC,S2.out.set S.gC ⟨x.kind,x.text,x.ord,ks,is⟩⟩)
  |_,_=>none
def nd0:aq:=⟨0,ofBytes [],false,[],[]⟩
def Tq (m:Nat):NS:=⟨List.replicate m (-1),0,List.replicate m nd0⟩
noncomputable def KT (N:List aq)(root:Int):List aq:=match nv N (N.length+1) root (Tq N.length) with
 |some (_,S)=>S.out
 |none=>[]
def neg (l:ε):Nat:=l.countP (λv=>decide (v<0))
theorem Vy:∀{l} {i} {v w},l[i]?=some v->v<0->0<=w->neg (l.set i w)+1=neg l
 |[],i,v,w,h,_,_=>by simp at h
 |a::l,0,v,w,h,h1,h2=>by
  grind [neg]
 |a::l,i+1,v,w,h,h1,h2=>by
  grind [neg]
theorem neg_pos {l}{i:Nat}{v}(h:l[i]?=some v)(hv:v<0):0<neg l:=by
 grind [neg,List.countP_pos_iff,List.mem_of_getElem?]
def anh (N:List aq)(m:Nat)(y:aq):Prop:=y=nd0\/∃x∈N,y.kind=x.kind/\y.text=x.text/\y.ord=x.ord/\y.items.length=x.items.length/\y.keys.length=x.keys.length/\(∀v∈y.keys,IR m v)/\∀v∈y.items,IR m v
structure LV (N:List aq) (S:NS):Prop where
 la:S.at'.length=N.length
 lo:S.out.length=N.length
 le:∀v∈S.at',v<(S.gC:Int)
 sum:neg S.at'+S.gC=N.length
 fr:∀y∈S.out,anh N N.length y
def LV.cle {S}(o:LV N S):S.gC<=N.length:=by have:=o.sum;omega
theorem AD {F}{x}{n}(hF:∀k S,LV N S->neg S.at'<=n->IR N.length k->∃v S',F k S=some (v,S')/\LV N S'/\neg S'.at'<=neg S.at'/\IR N.length v)
  (hk:x.kind=10->x.keys.length=x.items.length) (hI:(∀v∈x.keys,IR N.length v)/\∀v∈x.items,IR N.length v):∀(l:ε) S ,(∀a∈l,0<=a/\a<x.items.length)->LV N S->neg S.at'<=n ->
   ∃ks is S',qU F x l S=some ((ks,is),S')/\LV N S'/\neg S'.at'<=neg S.at'/\is.length=l.length/\ks.length=(if x.kind=10 then l.length else 0)/\(∀v∈ks,IR N.length v)/\∀v∈is,IR N.length v
 |[],S,_,o,hn=>⟨[],[],S,rfl,o,abi _,rfl,by simp,by simp,by simp⟩
 |a::l,S,ha,o,hn=>by
  obtain⟨a1,a2⟩:=ha a IS;unfold qU;by_cases hx:x.kind=10
  .rw[By hx];obtain⟨v,S1,e1,o1,n1,r1⟩:=hF (nth x.keys a) S o hn (hI.1 _ (fG a1 (by grind)));rw[e1];obtain⟨w,S2,e2,o2,n2,r2⟩:=hF (nth x.items a) S1 o1 (by omega) (hI.2 _ (fG a1 a2));simp only[e2];obtain⟨ks,is,S3,e3,o3,n3,l1,l2,q1,q2⟩:=AD hF hk hI l S2 (λb hb=>ha b (BY _ hb)) o2 (by omega);simp only[e3];refine⟨v::ks,w::is,S3,rfl,o3,by omega,by simp[l1],by grind,λu hu=>?_,λu hu=>?_⟩
   .grind
   grind
  .rw[AT hx];obtain⟨w,S2,e2,o2,n2,r2⟩:=hF (nth x.items a) S o hn (hI.2 _ (fG a1 a2));simp only[e2];obtain⟨ks,is,S3,e3,o3,n3,l1,l2,q1,q2⟩:=AD hF hk hI l S2 (λb hb=>ha b (BY _ hb)) o2 (by omega);simp only[e3];refine⟨ks,w::is,S3,rfl,o3,by omega,by simp[l1],by grind,q1,λu hu=>?_⟩
   grind
theorem I5 {γ:Type}{l:List γ}{i}{x y}(h:y∈l.set i x):y∈l\/y=x:=by
 grind
theorem Od (d:Vd N root):∀f k S ,LV N S->neg S.at'<f->IR N.length k->∃v S',nv N f k S=some (v,S')/\LV N S'/\neg S'.at'<=neg S.at'/\IR N.length v:=by
 intro f
 induction f with
 |zero=>grind
 |succ f ih=>
  intro k S o hf hk;obtain⟨v,hv⟩:=fj o.la hk;obtain⟨x,hx⟩:=fj rfl hk;unfold nv;rw[hv,hx];simp;have hlt:=o.le v (ax hv);have hcl:=o.cle;by_cases h0:0<=v
  .rw[By h0];exact⟨v,S,rfl,o,abi _,h0,by omega⟩
  .rw[AT h0];have hn:=Vy (aB hv).2 (w:=(S.gC:Int)) (by omega) (by omega);have hp:=neg_pos (aB hv).2 (by omega);have hsum:=o.sum;have o1:LV N ⟨S.at'.set k.toNat S.gC,S.gC+1,S.out⟩:=⟨by rw[ah8];exact o.la,o.lo,λw hw=>by
    rcases I5 hw with hw|rfl
    .have:=o.le w hw
     grind
    grind,by grind,o.fr⟩
   have hord:cd N k=jy (gZ N) x:=by grind [cd]
   obtain⟨ks,is,S2,e2,o2,n2,l1,l2,q1,q2⟩:=AD (n:=f-1) (λk S o hn hk=>ih k S o (by omega) hk) (d.map (ax hx)) (d.ix x (ax hx)) (cd N k) _ (λa ha=>by rw[hord] at ha;exact iH ha) o1 (by grind);rw[e2];simp only at n2⊢;refine⟨_,_,rfl,⟨o2.la,by rw[ah8];exact o2.lo,o2.le,o2.sum,λy hy=>?_⟩,by grind,by omega,by omega⟩;rcases I5 hy with hy|rfl
   .exact o2.fr y hy
   .refine .inr ⟨x,ax hx,rfl,rfl,rfl,by grind [tT],?_,q1,q2⟩;show ks.length=_;rw[l2,tT hx];by_cases h10:x.kind=10
    .rw[By h10,d.map (ax hx) h10]
    .rw[AT h10,d.keys (ax hx) h10];rfl
theorem Oe m:neg (List.replicate m (-1))=m:=by
 grind [neg,List.countP_replicate]
theorem abZ:LV N (Tq N.length):=⟨by simp[Tq],by simp[Tq],λv hv=>by
 have:=amk hv
 grind,by show neg (List.replicate _ _)+0=_;rw[Oe];rfl,λy hy=>.inl (amk hy)⟩
theorem Of (d:Vd N root):∃v S,nv N (N.length+1) root (Tq N.length)=some (v,S)/\KT N root=S.out/\LV N S/\IR N.length v:=by
 obtain⟨v,S,e,o,_,r⟩:=Od d (N.length+1) root (Tq N.length) abZ (by show neg (List.replicate _ _)<_;rw[Oe];omega) d.rt
 grind [KT]
def ab0 (d:Vd N root):(KT N root).length=N.length:=by
 obtain⟨v,S,_,e,o,_⟩:=Of d;rw[e];exact o.lo
def X8 (d:Vd N root){y}(hy:y∈KT N root):anh N N.length y:=by
 obtain⟨v,S,_,e,o,_⟩:=Of d;rw[e] at hy;exact o.fr y hy
def afJ (d:Vd N root)(hB:Bd N B):Bd (KT N root) B:=⟨by rw[ab0 d];exact hB.1,hB.2.1,λy hy=>by
 rcases X8 d hy with rfl|⟨x,hx,_,_,_,h4,h5,_⟩
 .exact⟨alg _,alg _⟩
 .rw[h4,h5];exact hB.2.2 x hx⟩
end Go.Sh
namespace Go.Sh
open Go Go.Ago Go.Proofs
variable {N:List aq}{root:Int}{S S1 S2 S':NS}
def nmb (S:NS)(u:Int):Int:=(gt S.at' u).getD 0
def Num (S:NS)(u:Int):Prop:=∃a,gt S.at' u=some a/\0<=a
theorem Num.gt {u}(h:Num S u):gt S.at' u=some (nmb S u)/\0<=nmb S u:=by
 obtain⟨a,h1,h2⟩:=h
 grind [nmb]
def ani (N:List aq)(S:NS)(u:Int):Prop:=∃x,Sh.gt N u=some x/\Num S u/\(∀c,Edge N u c->Num S c) /\
 Sh.gt S.out (nmb S u)=some ⟨x.kind,x.text,x.ord,if x.kind=10 then (cd N u).map (λa=>nmb S (nth x.keys a)) else [],(cd N u).map (λa=>nmb S (nth x.items a))⟩
def aoO (S:NS):Prop:=∀u w a,Sh.gt S.at' u=some a->Sh.gt S.at' w=some a->0<=a->u=w
structure NX (N:List aq) (S S':NS):Prop where
 ok:LV N S'
 ng:neg S'.at'<=neg S.at'
 inj:aoO S'
 ext:∀u a,Sh.gt S.at' u=some a->0<=a->Sh.gt S'.at' u=some a
 Da:∀j,j<S.gC->S'.out[j]?=S.out[j]?
 gC:S.gC<=S'.gC
 new:∀u,Num S' u->Num S u\/ani N S' u
end Go.Sh
namespace Go.Sh
open Go Go.Ago Go.Proofs
variable {α β:Type}{h h' h0:ai}{L R J:List aZ}{N:List aq}{root:Int}{B:Nat}{Q:β->ai->Prop}
structure NC where
 ab:Nat
 x8:Nat
 sK:Nat
 x0:Nat
 x4:Nat
 uy:Nat
 nb:Nat
 fJ:Nat
 m:Nat
 t:X6
 B:Nat
abbrev NC.fn (c:NC):ξ:=Value.func (Fn.func qq) #[] #[Value.pointer (some (ak c.x8)),Value.pointer (some (ak c.sK)),Value.pointer (some (ak c.x0)),Value.pointer (some (ak c.x4)),Value.pointer (some (ak c.uy)),Value.pointer (some (ak c.fJ))]
def ML (c:NC)(S:NS)(O:List aH):List aZ:=[.ar c.sK [vi S.gC] al,.ar c.ab (S.at'.map vi) al,.ar c.nb (O.flatMap aH.enc) av,.ar c.x8 [aA (arr c.ab c.m)] aF,.ar c.x0 [aA c.t.s,vi c.t.root] aj,
 .ar c.x4 [Value.pointer (some (ak c.t.tb))] bA,.ar c.uy [c.fn] iK,.ar c.fJ [aA (arr c.nb c.m),vi 0] aj]
def RO (r:aH)(J:List aZ):Prop:=((r.ks.len=0/\r.kl=[])\/aZ.sl r.ks 1 al (r.kl.map vi) r.kg∈J)/\((r.is.len=0/\r.il=[])\/aZ.sl r.is 1 al (r.il.map vi) r.ig∈J)
def RO.mono {r}{J J'}(hr:RO r J)(hs:∀o∈J,o∈J'):RO r J':=⟨hr.1.imp id (hs _),hr.2.imp id (hs _)⟩
def Yt (h0:ai)(c:NC)(S:NS)(h:ai)(R J L:List aZ):Prop:=∃O:List aH,O.map aH.v=S.out/\(∀r∈O,RO r J)/\Z h0 h (ML c S O++(R++(J++L)))
def fuV (B f:Nat):Nat:=fuE B+f*(B+5)+5
def anj (h0:ai)(c:NC)(N:List aq)(f:Nat):Prop:=∀(n:Nat) (h:ai) (k:Int) (S:NS) (v:Int) (S':NS) (R J L:List aZ),fuV c.B f<=n->nv N f k S=some (v,S')->LV N S->neg S.at'<f->mu c.t N L->Yt h0 c S h R J L ->
 Wp ((aP.at n).mY k (ak c.x8) (ak c.sK) (ak c.x0) (ak c.x4) (ak c.uy) (ak c.fJ)) h λr h'=>r=v/\∃J' L',mu c.t N L'/\Ext L L'/\Yt h0 c S' h' R J' L'
def FR (mb:Nat)(x:aq)(ksl isl:Sl)(kl il:ε)(gk gi:Nat):List aZ:=[.ar mb [vi x.kind,.string x.text,.bool x.ord,aA ksl,aA isl] av,.sl ksl 1 al (kl.map vi) gk,.sl isl 1 al (il.map vi) gi]
theorem CW {M F R X:List aZ}:(M++((F++R)++X)).Perm (F++(M++(R++X))):=by
 grind [List.append_assoc,List.perm_append_comm_assoc]
def amC {s}{kl:ε}{g}{o:uq h s 1 al (kl.map vi) g}:s.len=kl.length:=by have:=o.1;simp at this;omega
theorem ank {f}{k}{S}{v}{S'}(h:nv N f k S=some (v,S')):∃w x,gt S.at' k=some w/\gt N k=some x:=by
 cases f with
 |zero=>cases h
 |succ f=>
  grind [nv]
theorem X9 (d:Vd N root){f}{x}(hx:x∈N){l:ε}(hl:∀a∈l,0<=a/\a<x.items.length){S S'}{ks is}(o:LV N S)(hn:neg S.at'<f)(h:qU (nv N f) x l S=some ((ks,is),S')):LV N S'/\neg S'.at'<=neg S.at'/\is.length=l.length/\ks.length<=l.length:=by
 obtain⟨ks',is',S2,e,o2,n2,l1,l2,_⟩:=AD (n:=f-1) (F:=nv N f) (x:=x) (λk S o hn hk=>Od d f k S o (by omega) hk) (d.map hx) (d.ix x hx) l S hl o (by omega)
 grind
theorem alw (d:Vd N root){c}(hm:c.B<1073741824){f}(V:anj h0 c N f){x}(hx:x∈N){a}{ks0 is0}(nd:IU h0 a x ks0 is0){mb be}{l:ε}(hl:∀a∈l,0<=a/\a<x.items.length)(hll:l.length<=c.B) me :
  ∀n i S S' ks is kl il ksl isl gk gi h J L ,fuV c.B f+(l.length-i)+1<=n->i<=l.length->qU (nv N f) x (l.drop i) S=some ((ks,is),S')->LV N S->neg S.at'<f->kl.length<=i->il.length<=i->aZ.ar be (l.map vi) al∈L->mu c.t N L ->
   Yt h0 c S h (FR mb x ksl isl kl il gk gi++R) J L ->
   Wp ((aP.at n).jk (ak c.uy) (ak c.fJ) me (some a) (ak mb) (arr be l.length) (l.length:Int) (i:Int)) h λ_ h'=>∃ksl isl gk gi J' L',mu c.t N L'/\Ext L L'/\Yt h0 c S' h' (FR mb x ksl isl (kl++ks) (il++is) gk gi++R) J' L':=by
 intro n
 induction n with
 |zero=>intro i S S' ks is kl il ksl isl gk gi h J L h1;omega
 |succ n ih=>
  intro i S S' ks is kl il ksl isl gk gi h J L h1 h2 hv ok hneg hkl hil hbe T ⟨O,hO,hRO,z⟩;show Wp (qP (aP.at n) n (ak c.uy) (ak c.fJ) me (some a) (ak mb) (arr be l.length) (l.length:Int) (i:Int)) h _;unfold qP;by_cases hi:i<l.length
  .rw[By (by simpa using hi)];obtain⟨u,hu⟩:=nf (l:=l) (v:=(i:Int)) (by omega) (by omega);obtain⟨u1,u2⟩:=hl u (ax hu);rw[Gr hu] at hv;obtain⟨iu,hiu⟩:=nf u1 u2;have ei:nth x.items u=iu:=by unfold nth;rw[hiu];rfl
   refine z.rdM (OF _ (OF _ (OF _ hbe))) hu rfl ?_;refine cA ((nd.fr z.fr).Q0 ?_);have call:∀(h:ai) (k:Int) (S1:NS) (v:Int) (S2:NS) (ksl isl:Sl) (kl il:ε) (gk gi:Nat) (J L:List aZ) (ads:Addr) (fv:ξ) (Q:Int->ai->Prop) (γ:Type) (K:Int->M γ) (Q2:γ->ai->Prop),ads.block=mb->fv=c.fn->nv N f k S1=some (v,S2)->LV N S1->neg S1.at'<f->mu c.t N L ->
     Yt h0 c S1 h (FR mb x ksl isl kl il gk gi++R) J L->(∀h' J' L',mu c.t N L'->Ext L L'->Yt h0 c S2 h' (FR mb x ksl isl kl il gk gi++R) J' L'->Wp (K v) h' Q2) ->
     Wp (sh (Ago.tX [some ads] (iW (aP.at n) n fv k)) K) h Q2:=by
    intro h k S1 v S2 ksl isl kl il gk gi J L ads fv Q γ K Q2 ha hf hv ok hng T st q;subst hf;have lb:∀{S:NS} {h:ai} {J L:List aZ},Yt h0 c S h (FR mb x ksl isl kl il gk gi++R) J L->LB h mb [vi x.kind,.string x.text,.bool x.ord,aA ksl,aA isl] av:=λ⟨O,_,_,z⟩=>by
     have:=(z.own (.ar mb [vi x.kind,.string x.text,.bool x.ord,aA ksl,aA isl] av) (OF _ (acC _ (acC _ IS)))).1;exact this
    refine xM (P:=λr h'=>r=v/\∃J' L',mu c.t N L'/\Ext L L'/\Yt h0 c S2 h' (FR mb x ksl isl kl il gk gi++R) J' L') (λb hb=>?_) ?_ λr h' hr=>?_
    .grind
    .unfold iW;rw[By (by rfl),ah];refine iA (c:=((ak c.x8,ak c.sK,ak c.x0,ak c.x4,ak c.uy,ak c.fJ):Addr×Addr×Addr×Addr×Addr×Addr)) rfl ?_;exact V n h k S1 v S2 _ J L (by omega) hv ok hng T st
    .obtain⟨rfl,J',L',T',E',st'⟩:=hr;exact q h' J' L' T' E' st'
   have J0:∀(h:ai) (S1:NS) (kl:ε) (ksl:Sl) (gk:Nat) (J L:List aZ) (b:Int) (S2:NS) (ks is:ε),nv N f iu S1=some (b,S2)->qU (nv N f) x (l.drop (i+1)) S2=some ((ks,is),S')->LV N S1->neg S1.at'<f->kl.length<=i+1->aZ.ar be (l.map vi) al∈L->mu c.t N L ->
     Yt h0 c S1 h (FR mb x ksl isl kl il gk gi++R) J L->Wp (gU (aP.at n) n (ak c.uy) (ak c.fJ) me (some a) (ak mb) u (arr be l.length) (l.length:Int) (i:Int)) h λ_ h'=>∃ksl isl gk gi J' L',mu c.t N L'/\Ext L L'/\Yt h0 c S' h' (FR mb x ksl isl (kl++ks) (il++(b::is)) gk gi++R) J' L':=by
    intro h S1 kl ksl gk J L b S2 ks is hv1 hv2 ok hneg hkl hbe T st;unfold gU;obtain⟨O,hO,hRO,z⟩:=st;refine cA ?_;refine z.GG (x:=isl) (OF _ (acC _ (acC _ IS))) rfl rfl ?_;refine z.GG (cs:=[c.fn]) (e:=iK) (acC _ (by simp[ML])) rfl rfl ?_;refine (nd.fr z.fr).Lq ((nd.fr z.fr).items.ix u1 (aB hiu).2 λ_ _ c1=>c1.sL (l:=li) rfl rfl ?_);refine call h iu S1 b S2 ksl isl kl il gk gi J L _ _ (λ_ _=>True) _ _ _ rfl rfl hv1 ok hneg T ⟨O,hO,hRO,z⟩ λh' J' L' T' E' st'=>?_;obtain⟨O',hO',hRO',z'⟩:=st';have zf:=Z.perm z' CW;have ilen:isl.len=il.length:=by
     have o:uq h' isl 1 al (il.map vi) gi:=zf.get 2 rfl;have:=o.1;simp at this;omega
    refine Z.Oc zf 2 rfl (by omega) rfl (by rw[ilen];unfold da;omega) λs' h2 g' hs' z2 _=>?_;have z2:Z h0 h2 ([.ar mb [vi x.kind,.string x.text,.bool x.ord,aA ksl,aA isl] av,.sl ksl 1 al (kl.map vi) gk,.sl s' 1 al (il.map vi++[vi b]) g']++(ML c S2 O'++(R++(J'++L')))):=z2;refine z2.st 0 (cs':=[vi x.kind,.string x.text,.bool x.ord,aA ksl,aA s']) λh3 z3=>?_;have z3:Z h0 h3 (FR mb x ksl s' kl (il++[b]) gk g'++(ML c S2 O'++(R++(J'++L')))):=by
     show Z h0 h3 (_::_::.sl s' 1 al ((il++[b]).map vi) g'::_);rw[ahO];exact z3
    have hok:LV N S2/\neg S2.at'<=neg S1.at':=by
     obtain⟨v',S'',e,o,n',_⟩:=Od d f iu S1 ok hneg ((d.ix x hx).2 iu (ax hiu));rw[hv1] at e;cases e;exact⟨o,n'⟩
    rw[wZ (by omega) hm];have st3:Yt h0 c S2 h3 (FR mb x ksl s' kl (il++[b]) gk g'++R) J' L':=⟨O',hO',hRO',Z.perm z3 CW.symm⟩;refine (ih (i+1) S2 S' ks is kl (il++[b]) ksl s' gk g' h3 J' L' (by omega) (by omega) hv2 hok.1 (by omega) hkl (by simp;omega) (E' _ _ hbe) T' st3).mono λ_ h4 hr=>?_;obtain⟨ksl,isl,gk,gi,J2,L2,T2,E2,st4⟩:=hr;refine⟨ksl,isl,gk,gi,J2,L2,T2,E'.trans E2,?_⟩;rw[acX] at st4;exact st4
   unfold qU at hv;by_cases hk:x.kind=10
   .rw[By hk] at hv;rw[By (by simpa using hk)];obtain⟨ku,hku⟩:=nf u1 (by rw[d.map hx hk];exact u2);have ek:nth x.keys u=ku:=(by unfold nth;rw[hku];rfl);rw[ek,ei] at hv;cases e1:nv N f ku S with
    |none=>rw[e1] at hv;cases hv
    |some q1=>
    obtain⟨a1,S1⟩:=q1;rw[e1] at hv;simp at hv;cases e2:nv N f iu S1 with
    |none=>rw[e2] at hv;cases hv
    |some q2=>
    obtain⟨b1,S2⟩:=q2;rw[e2] at hv;simp at hv;cases e3:qU (nv N f) x (l.drop (i+1)) S2 with
    |none=>rw[e3] at hv;cases hv
    |some q3=>
    obtain⟨⟨ks2,is2⟩,S3⟩:=q3;rw[e3] at hv;cases hv;have hok:LV N S1/\neg S1.at'<=neg S.at':=by
     obtain⟨v',S'',e,o,n',_⟩:=Od d f ku S ok hneg ((d.ix x hx).1 ku (ax hku));rw[e1] at e;cases e;exact⟨o,n'⟩
    refine cA ?_;refine z.GG (x:=ksl) (OF _ (acC _ (acC _ IS))) rfl rfl ?_;refine z.GG (cs:=[c.fn]) (e:=iK) (acC _ (by simp[ML])) rfl rfl ?_;refine (nd.fr z.fr).Lp ((nd.fr z.fr).keys.ix u1 (aB hku).2 λ_ _ c1=>c1.sL (l:=li) rfl rfl ?_);refine call h ku S a1 S1 ksl isl kl il gk gi J L _ _ (λ_ _=>True) _ _ _ rfl rfl e1 ok hneg T ⟨O,hO,hRO,z⟩ λh' J' L' T' E' st'=>?_;obtain⟨O',hO',hRO',z'⟩:=st';have zf:=Z.perm z' CW;have klen:ksl.len=kl.length:=by
     have o:uq h' ksl 1 al (kl.map vi) gk:=zf.get 1 rfl;have:=o.1;simp at this;omega
    refine Z.Oc zf 1 rfl (by omega) rfl (by rw[klen];unfold da;omega) λs' h2 g' hs' z2 _=>?_;have z2:Z h0 h2 ([.ar mb [vi x.kind,.string x.text,.bool x.ord,aA ksl,aA isl] av,.sl s' 1 al (kl.map vi++[vi a1]) g',.sl isl 1 al (il.map vi) gi]++(ML c S1 O'++(R++(J'++L')))):=z2;refine z2.st 0 (cs':=[vi x.kind,.string x.text,.bool x.ord,aA s',aA isl]) λh3 z3=>?_;have z3:Z h0 h3 (FR mb x s' isl (kl++[a1]) il g' gi++(ML c S1 O'++(R++(J'++L')))):=by
     show Z h0 h3 (_::.sl s' 1 al ((kl++[a1]).map vi) g'::_);rw[ahO];exact z3
    refine (J0 h3 S1 (kl++[a1]) s' g' J' L' b1 S2 ks2 is2 e2 e3 hok.1 (by omega) (by simp;omega) (E' _ _ hbe) T' ⟨O',hO',hRO',Z.perm z3 CW.symm⟩).mono λ_ h4 hr=>?_;obtain⟨ksl,isl,gk,gi,J2,L2,T2,E2,st4⟩:=hr;refine⟨ksl,isl,gk,gi,J2,L2,T2,E'.trans E2,?_⟩;rw[acX] at st4;exact st4
   .rw[AT hk] at hv;rw[AT (by simpa using hk)];rw[ei] at hv;cases e2:nv N f iu S with
    |none=>rw[e2] at hv;cases hv
    |some q2=>
    obtain⟨b1,S2⟩:=q2;rw[e2] at hv;simp at hv;cases e3:qU (nv N f) x (l.drop (i+1)) S2 with
    |none=>rw[e3] at hv;cases hv
    |some q3=>
    obtain⟨⟨ks2,is2⟩,S3⟩:=q3;rw[e3] at hv;cases hv;exact J0 h S kl ksl gk J L b1 S2 ks is2 e2 e3 ok hneg (by omega) hbe T ⟨O,hO,hRO,z⟩
  .rw[AT (by simpa using hi)];rw[abY (by omega)] at hv;unfold qU at hv;cases hv;refine ag.2 ⟨ksl,isl,gk,gi,J,L,T,.refl,?_⟩;rw[afx,afx];exact⟨O,hO,hRO,z⟩
end Go.Sh
namespace Go.Sh
open Go Go.Ago Go.Proofs
variable {α β:Type}{h h' h0:ai}{L R J:List aZ}{N:List aq}{root:Int}{B:Nat}{Q:β->ai->Prop}
def ab1 B f:fuV B (f+1)=fuV B f+(B+5):=by unfold fuV;rw[ale];omega
def Tr {O:List aH}{i}{r}:(O.set i r).map aH.v=(O.map aH.v).set i r.v:=by rw[an3]
theorem ab2 (d:Vd N root)(hB:Bd N B)(ht:∀x∈N,x.text.size<=65536)(hsm:∀x∈N,x.kind=10->x.items.length<50){c}(G:ou h0 c.t.s N)(hm:c.m=N.length)(hBm:∀x∈N,x.items.length<=c.B)(hBc:Bd N c.B):∀f,f<=N.length+1->anj h0 c N f:=by
 intro f
 induction f with
 |zero=>intro _ n h k S v S' R J L _ hv;cases hv
 |succ f ih=>
  intro hf n h k S v S' R J L hn hv ok hng T st;have V:=ih (by omega);rw[ab1] at hn;obtain⟨w,x,hw,hx⟩:=ank hv;have hkr:IR N.length k:=nF hx;have hBB:=hBc.2.1;obtain⟨n,rfl⟩:∃n',n=n'+1:=⟨n-1,by omega⟩;show Wp (uV (aP.at n) n k (ak c.x8) (ak c.sK) (ak c.x0) (ak c.x4) (ak c.uy) (ak c.fJ)) h _;unfold uV;obtain⟨O,hO,hRO,z⟩:=st;have lo:O.length=N.length:=by have:=alZ List.length hO;rw[acL,ok.lo] at this;exact this
  have mML:∀{o:aZ} {S:NS} {O:List aH},o∈ML c S O->o∈ML c S O++(R++(J++L)):=λh=>acC _ h;refine z.ld 3 (x:=arr c.ab c.m) ?_;refine z.Q5 1 hw (by rw[ok.la,hm]) ?_;unfold nv at hv;rw[hw,hx] at hv;simp at hv;by_cases h0':0<=w
  .rw[By h0'] at hv;cases hv;rw[By (by simpa using h0')];refine z.ld 3 (x:=arr c.ab c.m) ?_;refine z.Q5 1 hw (by rw[ok.la,hm]) (ag.2 ⟨rfl,J,L,T,.refl,O,hO,hRO,z⟩)
  .rw[AT h0'] at hv;rw[AT (by simpa using h0')];cases hlp:qU (nv N f) x (cd N k) ⟨S.at'.set k.toNat S.gC,S.gC+1,S.out⟩ with
   |none=>rw[hlp] at hv;cases hv
   |some q=>
   obtain⟨⟨ks,is⟩,S2⟩:=q;rw[hlp] at hv;cases hv;have hlt:=ok.le w (ax hw);have hcl:=ok.cle;have hn':=Vy (aB hw).2 (w:=(S.gC:Int)) (by omega) (by omega);have hp:=neg_pos (aB hw).2 (by omega);have hsum:=ok.sum;refine z.ld 0 ?_;refine z.ld 3 (x:=arr c.ab c.m) ?_;refine GF hkr.1 (by rw[hm];exact hkr.2) ?_;rw[ahS];refine z.DV 1 (by rw[ok.la];have:=hkr.1;have:=hkr.2;omega) λh1 z=>?_;refine z.ld 0 ?_;rw[wZ (by have:=hBc.1;omega) hBB];refine z.st 0 (cs':=[vi ((S.gC+1:Nat):Int)]) λh2 z=>?_;have z:Z h0 h2 (ML c ⟨S.at'.set k.toNat S.gC,S.gC+1,S.out⟩ O++(R++(J++L))):=z;refine z.ld 4 (x:=c.t.s) ?_;refine G.P3 z (aB hx).1 (aB hx).2 λa ks0 is0 nd=>?_;refine z.dP [13] (by decide) (by simp) λkb h3 z=>?_;refine cA (cA (cA ?_));have ndz:=nd.fr z.fr;refine ndz.Q0 (ndz.Q8 (ndz.ldO ?_));refine z.newAt 0 λh4 z=>?_;refine z.st 0 (cs':=[vi x.kind,.string x.text,.bool x.ord,aE,aE]) λh5 z=>?_;have z:Z h0 h5 (.ar (kb+13) [vi x.kind,.string x.text,.bool x.ord,aE,aE] av::(ML c ⟨S.at'.set k.toNat S.gC,S.gC+1,S.out⟩ O++(R++(J++L)))):=z;refine z.ld 6 ?_;have z1:Z h0 h5 ((.ar (kb+13) [vi x.kind,.string x.text,.bool x.ord,aE,aE] av::(ML c ⟨S.at'.set k.toNat S.gC,S.gC+1,S.out⟩ O++(R++J)))++L):=by simpa using z
   rw[ah];refine (Fc G d hBc ht hsm hx n h5 _ L (by unfold fuV at hn;omega) T z1).mono λr h6 hr=>?_;obtain⟨be,L1,rfl,hbe,T1,E1,z2⟩:=hr;have z2:Z h0 h6 (.ar (kb+13) [vi x.kind,.string x.text,.bool x.ord,aE,aE] av::(ML c ⟨S.at'.set k.toNat S.gC,S.gC+1,S.out⟩ O++(R++(J++L1)))):=by simpa using z2
   have zn:Z h0 h6 (FR (kb+13) x ow ow [] [] 0 0++(ML c ⟨S.at'.set k.toNat S.gC,S.gC+1,S.out⟩ O++(R++(J++L1)))):=by
    have q1:=Z.add z2.drop (Fr.refl z2.wf) (o:=.sl ow 1 al [] 0) uq.nil (.inl rfl);have q2:=Z.add z2 (Fr.refl z2.wf) (o:=.sl ow 1 al [] 0) uq.nil (.inl rfl);have q3:=Z.add q2 (Fr.refl z2.wf) (o:=.sl ow 1 al [] 0) uq.nil (.inl rfl);exact Z.nK (pre:=[_,_,_]) q3 [2,0,1] (by simp only[abK,agt];decide)
   have o1:LV N ⟨S.at'.set k.toNat S.gC,S.gC+1,S.out⟩:=⟨by rw[ah8];exact ok.la,ok.lo,λw hw=>by
    rcases I5 hw with hw|rfl
    .have:=ok.le w hw;show w<((S.gC+1:Nat):Int);omega
    grind,by simp;omega,ok.fr⟩
   have hord:cd N k=jy (gZ N) x:=by unfold cd;rw[hx]
   have hol:∀a∈cd N k,0<=a/\a<x.items.length:=λa ha=>by rw[hord] at ha;exact iH ha
   have hlen:=tT hx;have st0:Yt h0 c ⟨S.at'.set k.toNat S.gC,S.gC+1,S.out⟩ h6 (FR (kb+13) x ow ow [] [] 0 0++R) J L1:=⟨O,hO,hRO,Z.perm zn CW.symm⟩;have hfn:neg (S.at'.set k.toNat S.gC)<f:=by omega
   .rw[<-hlen,ah];refine (alw (R:=R) d (by omega) V (ax hx) nd hol (by rw[hlen];exact hBm x (ax hx)) (S.gC:Int) n 0 _ S2 ks is [] [] ow ow 0 0 h6 J L1 (by rw[hlen];have:=hBm x (ax hx);omega) (by omega) (by rw[aiq];exact hlp) o1 hfn (by simp) (by simp) hbe T1 st0).mono λ_ h7 hr=>?_;obtain⟨ksl,isl,gk,gi,J2,L2,T2,E2,O2,hO2,hRO2,z7⟩:=hr;rw[afk,afk] at z7;obtain⟨o2,n2,l1,_⟩:=X9 d (ax hx) hol o1 hfn hlp;have lo2:O2.length=N.length:=(by have:=alZ List.length hO2;rw[acL,o2.lo] at this;exact this);have zf:=Z.perm z7 CW;refine zf.GG (x:=arr c.nb c.m) (cs:=[aA (arr c.nb c.m),vi 0]) (e:=aj) (OF _ (acC _ (by simp[ML]))) rfl rfl ?_;refine zf.gh 0 (x:=((x.kind,x.text,x.ord,ksl,isl):j9 [li,.str,.bool,.sl,.sl])) ?_;refine GF (by omega) (by omega) ?_;rw[aba]
    let r:aH:=⟨x.kind,x.text,x.ord,ksl,ks,gk,isl,is,gi⟩
    obtain⟨y,hy⟩:=eC (l:=O2) (i:=S.gC) (by omega);have hsp:aM (O2.flatMap aH.enc) (S.gC*5) [vi x.kind,.string x.text,.bool x.ord,aA ksl,aA isl]=(O2.set S.gC r).flatMap aH.enc:=by
     have:=sA aH.jS (x':=r) hy (o:=0) (vs:=[vi x.kind,.string x.text,.bool x.ord,aA ksl,aA isl]) (by simp) (by unfold aM aH.enc;rfl);rw[ak4] at this;exact this
    have hfl:(O2.flatMap aH.enc).length=N.length*5:=(by rw[eG aH.jS,lo2]);refine zf.st 5 (λh8 z8=>ag.2 ?_) rfl hsp (by rw[hfl];simp;omega) rfl;have z8:Z h0 h8 (FR (kb+13) x ksl isl ks is gk gi++(ML c ⟨S2.at',S2.gC,S2.out.set S.gC r.v⟩ (O2.set S.gC r)++(R++(J2++L2)))):=z8;refine⟨rfl,.sl ksl 1 al (ks.map vi) gk::.sl isl 1 al (is.map vi) gi::J2,L2,T2,E1.trans E2,O2.set S.gC r,?_,λr' hr'=>?_,?_⟩
    .rw[Tr,hO2];rfl
    .rcases I5 hr' with h9|rfl
     .exact (hRO2 r' h9).mono λo ho=>BY _ (BY _ ho)
     .exact⟨.inr IS,.inr (BY _ IS)⟩
    .have z9:=Z.drop (L:=.sl ksl 1 al (ks.map vi) gk::.sl isl 1 al (is.map vi) gi::(ML c ⟨S2.at',S2.gC,S2.out.set S.gC r.v⟩ (O2.set S.gC r)++(R++(J2++L2)))) z8;have pm:(.sl ksl 1 al (ks.map vi) gk::.sl isl 1 al (is.map vi) gi::(ML c ⟨S2.at',S2.gC,S2.out.set S.gC r.v⟩ (O2.set S.gC r)++(R++(J2++L2)))).Perm (ML c ⟨S2.at',S2.gC,S2.out.set S.gC r.v⟩ (O2.set S.gC r)++(R++((.sl ksl 1 al (ks.map vi) gk::.sl isl 1 al (is.map vi) gi::J2)++L2))):=by
      have p1:=ahR [aZ.sl ksl 1 al (ks.map vi) gk,.sl isl 1 al (is.map vi) gi] (ML c ⟨S2.at',S2.gC,S2.out.set S.gC r.v⟩ (O2.set S.gC r)) (R++(J2++L2));have p2:=ahR [aZ.sl ksl 1 al (ks.map vi) gk,.sl isl 1 al (is.map vi) gi] R (J2++L2);exact p1.trans (aiw _ p2)
     exact Z.perm z9 pm
def ab3 {m b}(hm:m<1073741824){x8} a0 a1 a2 :
  ∀n i h L ,m-i<n->i<=m->Z h0 h (.ar x8 [aA (arr b m)] aF::.ar b ((List.replicate i (-1)++List.replicate (m-i) 0).map vi) al::L) ->
   Wp (oQ n a0 a1 a2 (ak x8) (m:Int) (i:Int)) h λ_ h'=>Z h0 h' (.ar x8 [aA (arr b m)] aF::.ar b ((List.replicate m (-1:Int)).map vi) al::L):=by
 intro n
 induction n with
 |zero=>intro i h L h1;omega
 |succ n ih=>
  intro i h L h1 h2 z;rw[Ci];unfold tL;by_cases hi:i<m
  .rw[By (by simp;omega)];refine z.ld 0 (x:=arr b m) ?_;refine GF (by omega) (by omega) ?_;rw[aba,ahS];refine z.DV 1 (xs:=List.replicate i (-1)++List.replicate (m-i) 0) (by simp;omega) (λh3 z=>?_);have hf:(List.replicate i (-1:Int)++List.replicate (m-i) 0).set i (-1)=List.replicate (i+1) (-1)++List.replicate (m-(i+1)) 0:=by
    rw[al8 _ _ (by simp),af2,amW,show m-i=(m-(i+1))+1 by omega,amV,amc,apb,acX];rfl
   rw[hf] at z;rw[wZ h2 (by omega)];exact ih (i+1) h3 L (by omega) (by omega) z
  .rw[AT (by simp;omega),ag];have:i=m:=by omega
   subst this;simpa using z
def of_wp {s}{root}(z:Z h0 h L)(hb:s.len<=da){n} :
  Wp (th n (s,root)) h λr h'=>∃x5 b4,r=some (ak x5)/\Z h0 h' (.ar x5 [aA s,vi root,aA (arr b4 s.len)] dA::.ar b4 (List.replicate s.len aE) aF::L):=by
 unfold th;refine z.new λx0 h1 z _=>z.dP [4,6] (by decide) (by decide) λnb h2 z=>?_;refine z.gh 2 (ls:=[.sl,li]) (x:=(s,root)) ?_;refine z.ld 2 (x:=s) ?_;refine z.adK 0 (by omega) (by omega) λh3 z=>?_;refine z.newAt 1 (cs:=[aA s,vi root,aA (arr (nb+4) s.len)]) λh4 z=>?_;rw[ag];refine⟨nb+6,nb+4,rfl,?_⟩;rw[aba] at z;rw[ZA] at z;have z:=Z.nK (pre:=[_,_,_]) z [1,0,2] (by simp only[abK,agt];decide);exact z.sub (List.Sublist.cons₂ _ (List.Sublist.cons₂ _ (ahy _ _)))
def Og {t}{L}(h1:aZ.ar t.tb [aA t.s,vi t.root,aA (arr t.sb N.length)] dA∈L)(h2:aZ.ar t.sb (List.replicate N.length aE) aF∈L):mu t N L:=by
 refine⟨List.replicate N.length none,by simp,h1,by rw[am0];exact h2,λk b l hg=>?_⟩;have:=amk (ax hg);cases this
def ro0:aH:=⟨0,ofBytes [],false,ow,[],0,ow,[],0⟩
def ab4 m:(List.replicate m ro0).flatMap aH.enc=(List.replicate m [vi 0,Value.string (ofBytes []),Value.bool false,aE,aE]).flatten:=by
 rw[List.flatMap_def,am0];rfl
structure kL (N:List aq):Prop where
 len:N.length<=40
 map:∀x∈N,x.items.length<=80/\x.keys.length<=80
 txt:∀x∈N,x.text.size<=101
def kL.bd (f:kL N):Bd N 80:=⟨by have:=f.len;omega,by omega,λx hx=>⟨(f.map x hx).2,(f.map x hx).1⟩⟩
def kL.ht (f:kL N):∀x∈N,x.text.size<=65536:=λx hx=>by have:=f.txt x hx;omega
def kL.sm (f:kL N)(d:Vd N root):∀x∈N,x.kind=10->x.items.length<50:=λx hx hk=>by
 have h1:=d.alc hx;have h2:=d.map hx hk;have:=f.len;omega
end Go.Sh
namespace Go.Sh
open Go Go.Ago Go.Proofs
variable {α β:Type}{h h' h0:ai}{L R J:List aZ}{N:List aq}{root:Int}{B:Nat}{Q:β->ai->Prop}
def fuN:Nat:=fuV 80 60+100
def OG (nb:Nat)(O:List aH)(J:List aZ):List aZ:=.ar nb (O.flatMap aH.enc) av::J
def OG.read {nb}{O}{J X}(z:Z h0 h X)(hs:∀o∈OG nb O J,o∈X)(hRO:∀r∈O,RO r J):ou h (arr nb O.length) (O.map aH.v):=by
 have l:LB h nb (O.flatMap aH.enc) av:=(z.own _ (hs _ IS)).1;refine⟨O,nb+1,rfl,l.GD (by rw[eG aH.jS]),λr hr=>?_⟩;obtain⟨h1,h2⟩:=hRO r hr;have one:∀{s:Sl} {kl:ε} {g:Nat},(s.len=0/\kl=[])\/aZ.sl s 1 al (kl.map vi) g∈J->IL h s kl:=λ{s kl g} hh=>by
  rcases hh with⟨e1,e2⟩|hm
  .subst e2;exact⟨0,vR.nil e1⟩
  .have o:uq h s 1 al (kl.map vi) g:=(z.own _ (hs _ (BY _ hm))).1;exact⟨g,o.GD⟩
 exact⟨one h1,one h2⟩
def Made (h0 h:ai)(s:Sl)(N':List aq)(L:List aZ):Prop:=∃nb O J,s=arr nb O.length/\O.map aH.v=N'/\(∀r∈O,RO r J)/\Z h0 h (OG nb O J++L)
theorem Made.read {s}{N'}{L}(m:Made h0 h s N' L):ou h s N':=by
 obtain⟨nb,O,J,rfl,rfl,hr,z⟩:=m;exact OG.read z (λo ho=>acC _ ho) hr
theorem Made.sub {s}{N'}{L L'}(m:Made h0 h s N' L)(hs:L'.Sublist L):Made h0 h s N' L':=by
 obtain⟨nb,O,J,e1,e2,hr,z⟩:=m;exact⟨nb,O,J,e1,e2,hr,z.sub ((anZ _).append hs)⟩
theorem Made.on {s}{N'}{L}(m:Made h0 h s N' L){γ}{M:M γ}{Q}(q:∀X,Z h0 h (L++X)->(∀h' L',Z h0 h' (L'++X)->Made h0 h' s N' L')->Wp M h Q):Wp M h Q:=by
 obtain⟨nb,O,J,e1,e2,hr,z⟩:=m;exact q (OG nb O J) (z.perm aiu) λh' L' z'=>⟨nb,O,J,e1,e2,hr,z'.perm aiu⟩
theorem Ya {s}(z:Z h0 h L)(G:ou h0 s N)(f:kL N)(d:Vd N root){n}(hn:fuN<=n) :
  Wp (wM n (s,root)) h λr h'=>r.2=0/\Made h0 h' r.1 (KT N root) L:=by
 have hl:=f.len;have hfu:fuV 80 (N.length+1)<=n:=by
  grind [fuV,Nat.mul_le_mul_right,fuN]
 have hn100:100<=n:=by unfold fuN at hn;omega
 unfold wM;refine z.new λx0 h1 z _=>z.new λx1 h2 z _=>?_;refine z.gh 1 (ls:=[.sl,li]) (x:=(s,root)) ?_;have hsl:s.len=N.length:=G.len;rw[ah];refine (of_wp (s:=s) (root:=root) z (by rw[hsl];unfold da;omega)).mono λx3 h3 hx=>?_;obtain⟨tb,sb,rfl,z⟩:=hx;rw[hsl] at z;refine z.new λx4 h4 z _=>z.st 0 (cs':=[Value.pointer (some (ak tb))]) λh5 z=>?_;refine z.ld 4 (x:=s) ?_;rw[hsl];refine z.Mi (by omega) (by unfold da;omega) λab h6 z _=>?_;rw[aba] at z⊢;rw[pI] at z;refine z.new λx8 h7 z _=>z.st 0 (cs':=[aA (arr ab N.length)]) λh8 z=>?_;refine z.ld 0 (x:=arr ab N.length) ?_;rw[ah];have z0:Z h0 h8 (.ar x8 [aA (arr ab N.length)] aF::.ar ab ((List.replicate 0 (-1)++List.replicate (N.length-0) 0).map vi) al::.ar x4 [Value.pointer (some (ak tb))] bA::.ar tb [aA s,vi root,aA (arr sb N.length)] dA::.ar sb (List.replicate N.length aE) aF::.ar x1 [aE,vi 0] aj::.ar x0 [aA s,vi root] aj::L):=by simpa using z
 refine (ab3 (by omega) (ak x0) (ak x1) (ak x4) n 0 h8 _ (by omega) (by omega) z0).mono λ_ h9 z=>?_;refine z.ld 6 (x:=s) ?_;rw[hsl];refine z.Mi (by omega) (by unfold da;omega) λnb h10 z _=>?_;rw[aba] at z⊢;rw[<-ab4] at z;refine z.new λfJ h11 z _=>z.st 0 (cs':=[aA (arr nb N.length),vi 0]) λh12 z=>?_;refine z.new λsK h13 z _=>z.st 0 (cs':=[vi 0]) λh14 z=>?_;refine z.new λuy h15 z _=>?_
 let c:NC:=⟨ab,x8,sK,x0,x4,uy,nb,fJ,N.length,⟨tb,sb,s,root⟩,80⟩
 refine z.st 0 (cs':=[c.fn]) λh16 z=>?_;have z:Z h0 h16 ([.ar uy [c.fn] iK,.ar sK [vi 0] al,.ar fJ [aA (arr nb N.length),vi 0] aj,.ar nb ((List.replicate N.length ro0).flatMap aH.enc) av,.ar x8 [aA (arr ab N.length)] aF,.ar ab ((List.replicate N.length (-1)).map vi) al,
  .ar x4 [Value.pointer (some (ak tb))] bA,.ar tb [aA s,vi root,aA (arr sb N.length)] dA,.ar sb (List.replicate N.length aE) aF,.ar x1 [aE,vi 0] aj,.ar x0 [aA s,vi root] aj]++L):=z
 have z:=Z.nK z [1,5,3,4,10,6,0,2,9,7,8] (by simp only[abK,agt];decide);have z:Z h0 h16 (ML c (Tq N.length) (List.replicate N.length ro0)++([.ar x1 [aE,vi 0] aj]++([.ar tb [aA s,vi root,aA (arr sb N.length)] dA,.ar sb (List.replicate N.length aE) aF]++L))):=z;have z:Z h0 h16 (ML c (Tq N.length) (List.replicate N.length ro0)++((.ar x1 [aE,vi 0] aj::L)++([]++[.ar tb [aA s,vi root,aA (arr sb N.length)] dA,.ar sb (List.replicate N.length aE) aF]))):=z.perm (aiw _ (List.Perm.cons _ (show ([aZ.ar tb [aA s,vi root,aA (arr sb N.length)] dA,aZ.ar sb (List.replicate N.length aE) aF]++L).Perm (L++[aZ.ar tb [aA s,vi root,aA (arr sb N.length)] dA,aZ.ar sb (List.replicate N.length aE) aF]) from aiu)));obtain⟨v,S,e,en,o,hv⟩:=Of d;refine z.ld 6 ?_;refine z.ld 4 (x:=root) ?_;unfold uW;rw[By (by rfl),ah,ah];refine iA (c:=((ak c.x8,ak c.sK,ak c.x0,ak c.x4,ak c.uy,ak c.fJ):Addr×Addr×Addr×Addr×Addr×Addr)) rfl ?_;have D4:=ab2 (c:=c) d f.bd f.ht (f.sm d) G rfl (λx hx=>(f.map x hx).1) f.bd (N.length+1) (abi _);refine (D4 n h16 root (Tq N.length) v S _ [] _ hfu e abZ (by show neg (List.replicate _ _)<_;rw[Oe];omega) (Og IS (BY _ IS)) ⟨List.replicate N.length ro0,by rw[am0];rfl,λr hr=>by
   have:=amk hr;subst this;exact⟨.inl ⟨rfl,rfl⟩,.inl ⟨rfl,rfl⟩⟩,z⟩).mono λr h17 hr=>?_
 obtain⟨rfl,J',L',_,_,O',hO',hRO',z⟩:=hr;refine z.gh 7 (x:=((arr nb N.length,0):j9 [.sl,li])) ?_;refine z.st 8 (cs':=[aA (arr nb N.length),vi 0]) λh18 z=>?_;refine z.gh 8 (x:=((arr nb N.length,0):j9 [.sl,li])) (ag.2 ⟨rfl,?_⟩);have z:Z h0 h18 (ML c S O'++((.ar x1 [aA (arr nb N.length),vi 0] aj::L)++(J'++L'))):=z;have lo:O'.length=N.length:=by have:=alZ List.length hO';rw[acL,o.lo] at this;exact this
 refine⟨nb,O',J',by rw[lo],by rw[hO',en],hRO',?_⟩;have hsub:(.ar nb (O'.flatMap aH.enc) av::(L++J')).Sublist (ML c S O'++((.ar x1 [aA (arr nb N.length),vi 0] aj::L)++(J'++L'))):=by
  refine aom (l₁:=[_]) ?_ ?_
  .exact List.Sublist.cons _ (List.Sublist.cons _ (List.Sublist.cons_cons _ (List.nil_sublist _)))
  .exact List.Sublist.cons _ ((anZ L).append (ang _ _))
 exact (z.sub hsub).perm (List.Perm.cons _ aiu)
def MK {s}(z:Z h0 h L)(G:ou h0 s N)(f:kL N){k}(hk:gK N.length 80<=k){r0}(hc:ve k N root=some r0){n}(hn:fuN<=n)(hn2:k+66000<n) :
  Wp (qF n (s,root)) h λr h'=>if r0=0 then r.2=0/\r.1.2=0/\Made h0 h' r.1.1 (KT N root) L else r.2=3/\Z h0 h' L:=by
 unfold qF;refine z.new λx0 h1 z _=>z.new λx1 h2 z _=>?_;refine z.gh 1 (ls:=[.sl,li]) (x:=(s,root)) ?_;rw[ah];refine (rB z G f.bd f.ht (by omega) hc).mono λy h3 hy=>?_;obtain⟨rfl,z⟩:=hy;by_cases h0':y=0
 .subst h0';rw[AT (by simp)];simp;have d:Vd N root:=MF f.bd.2.2 f.bd.1 (by omega) hk hc;refine z.gh 1 (ls:=[.sl,li]) (x:=(s,root)) ?_;rw[ah];refine (Ya z G f d hn).mono λr h4 hr=>?_;obtain⟨r2,m⟩:=hr;obtain⟨out,r2'⟩:=r;simp at r2 m;subst r2;refine m.on λX z back=>?_;refine z.st 0 (cs':=[aA out,vi 0]) λh5 z=>?_;refine z.gh 0 (ls:=[.sl,li]) (x:=(out,0)) (ag.2 ⟨rfl,rfl,?_⟩);exact (back h5 (.ar x1 [aA out,vi 0] aj::.ar x0 [aA s,vi root] aj::L) z).sub (List.Sublist.cons _ (List.Sublist.cons _ (anZ _)))
 .simp only[AT h0'];rw[By (by simpa using h0')];refine z.st 0 (cs':=[aE,vi 0]) λh4 z=>?_;refine z.gh 0 (ag.2 ⟨rfl,z.drop.drop⟩)
end Go.Sh
namespace Go.Sh
open Go Go.Ago Go.Proofs
variable {α β:Type}{h h' h0:ai}{L R:List aZ}{N N':List aq}{root v:Int}{φ:Int->Int}{x x':aq}{B:Nat}{Q:β->ai->Prop}
def KF:Nat:=7000
theorem kL.k0 (f:kL N):gK N.length 80<=KF:=by
 grind [f.len,Nat.mul_le_mul,gK,KF]
def kL.tot (f:kL N) root:∃r,ve KF N root=some r:=Tm f.bd.2.2 f.bd.1 (by omega) f.k0
noncomputable def gc (N:List aq)(root:Int):Int:=(ve KF N root).getD 3
theorem kL.gc (f:kL N) root:ve KF N root=some (gc N root):=by
 obtain⟨r,e⟩:=f.tot root;unfold Sh.gc;grind
theorem gf.last {u w}(h:gf N u w):u=w\/∃p,gf N u p/\Edge N p w:=by
 cases h with
 |refl=>grind
 |step r e=>grind
section
variable (d:Vd N root)
include d
theorem Vd.down {H:Int->Nat}(hH:∀u v,KN N v->Edge N u v->H v<H u){u w}(k:KN N u)(h:gf N u w):KN N w/\H w<=H u:=by
 induction h with
 |refl=>grind
 |step _ e ih=>exact⟨ih.1.step e,by have:=hH _ _ (ih.1.step e) e;omega⟩
theorem Vd.apart {i c c'}(e:Edge N i c)(e':Edge N i c')(k:KN N c)(k':KN N c')(hne:c≠c'){w}(h:gf N c w)(h':gf N c' w):False:=by
 obtain⟨H,_,hH⟩:=d.Hx;have loop:∀{c:Int},Edge N i c->KN N c->¬gf N c i:=λ{c} e k r=>by
  have h1:=hH i c k e;have h2:=(d.down hH k r).2;omega
 have one:∀{w p q:Int},KN N w->Edge N p w->Edge N q w->p=q:=λkw e1 e2=>(CV (d.one _ kw) e2).2 _ e1
 induction h with
 |refl=>
  rcases h'.last with q|⟨p,r,q⟩
  .grind
  grind
 |step r ed ih=>
  rename_i p w;have kw:KN N w:=(d.down hH k (r.step ed)).1;rcases h'.last with q|⟨p',r',q⟩
  .grind
  grind
end
theorem AE {p q r}:∀(l:η),(∀i∈l,(p i=true->r i=true)/\(q i=true->r i=true)/\¬(p i=true/\q i=true))->l.countP p+l.countP q<=l.countP r
 |[],_=>by simp
 |i::l,h=>by
  have ih:=AE l λj hj=>h j (BY _ hj)
  grind
noncomputable def cR (N:List aq)(u:Int):Nat:=open Classical in (List.range N.length).countP λi:Nat=>decide (gf N u (i:Int))
theorem ab5:∀(L:ε),(L.Pairwise λc c'=>∀w,¬(gf N c w/\gf N c' w))->(L.map (cR N)).sum<=open Classical in (List.range N.length).countP λi:Nat=>decide (∃c∈L,gf N c (i:Int))
 |[],_=>by simp
 |c::L,h=>by
  rw[anW] at h;have ih:=ab5 L h.2;rw[acW,aoN];refine acY (Nat.add_le_add_left ih _) ?_;unfold cR;refine AE _ λi _=>?_
  grind
def afL (d:Vd N root){u}{x}(hx:gt N u=some x)(k:KN N u):((refs x).map (cR N)).sum+1<=cR N u:=by
 obtain⟨H,_,hH⟩:=d.Hx;have ed:∀c∈refs x,Edge N u c:=λc hc=>⟨x,hx,by grind [refs]⟩;have nd:(refs x).Nodup:=List.nodup_iff_count.2 λc=>by
  by_cases hc:c∈refs x
  .have h1:=d.one c (k.step (ed c hc));have h2:=vw (u:=c) (ax hx)
   grind
  grind
 have h1:=ab5 (refs x) (nd.imp_of_mem λ{c c'} hc hc' hne w q=>d.apart (ed c hc) (ed c' hc') (k.step (ed c hc)) (k.step (ed c' hc')) hne q.1 q.2);have hu:=nF hx;have h2:(List.range N.length).countP (λi=>i==u.toNat)=1:=by
  have:=(ama (n:=N.length)).count (a:=u.toNat);rw[By (List.mem_range.2 (show u.toNat<N.length by have:=hu.1;have:=hu.2;omega))] at this;exact this
 rw[<-h2];refine acY (Nat.add_le_add_right h1 _) ?_;unfold cR;refine AE _ λi _=>?_;simp only[aca,beq_iff_eq];have e:i=u.toNat->(i:Int)=u:=λe=>by have:=hu.1;omega
 refine⟨λ⟨c,q1,q2⟩=>(gf.one (ed c q1)).trans q2,λq=>by rw[e q];exact .refl,λ⟨⟨c,q1,q2⟩,q3⟩=>?_⟩;rw[e q3] at q2;have a1:=hH u c (k.step (ed c q1)) (ed c q1);have a2:=(d.down hH (k.step (ed c q1)) q2).2;omega
theorem MM u:cR N u<=N.length:=by
 grind [cR,Nat.le_trans,List.countP_le_length]
def kL.gv (f:kL N):Sh.gc N root=0↔GV N root:=Tl f.bd.2.2 f.bd.1 (by omega) f.k0 (f.gc root)
def kL.Yu (f:kL N)(h:Sh.gc N root=0):Vd N root:=MF f.bd.2.2 f.bd.1 (by omega) f.k0 (by rw[f.gc root,h])
def kL.anm (f:kL N)(h:Sh.gc N root=0):∃d a,Sh.dep KF N root=some (d,a)/\(a=true↔∀u v,Edge N u v->¬gf N v u):=by
 have d:=f.Yu h;have hk:=f.k0;obtain⟨dd,a,e,_,ha⟩:=ahI (k:=KF) d.ix d.rt f.bd.2.2 d.le f.bd.1 (λv hv=>let ⟨_,_,w⟩:=d.wk v hv;w.Q6) (by grind [gK,Nat.add_mul])
 grind
theorem Cz (hI:pC N N.length)(ha:∀u v,Edge N u v->¬gf N v u){u v}(e:Edge N u v):cR N v<cR N u:=by
 obtain⟨x,hx,_⟩:=id e;have hu:=nF hx;have h2:(List.range N.length).countP (λi=>i==u.toNat)=1:=by
  have:=(ama (n:=N.length)).count (a:=u.toNat);rw[By (List.mem_range.2 (show u.toNat<N.length by have:=hu.1;have:=hu.2;omega))] at this;exact this
 have h3:cR N v+1<=cR N u:=by
  rw[<-h2];unfold cR;refine AE _ λi _=>?_;simp only[aca,beq_iff_eq];have e1:i=u.toNat->(i:Int)=u:=λe=>by have:=hu.1;omega
  refine⟨λq=>(gf.one e).trans q,λq=>by rw[e1 q];exact .refl,λ⟨q,q3⟩=>?_⟩
  grind
 omega
def ab6 {s}{root}{N}(z:Z h0 h L)(G:ou h0 s N){B}(hB:Bd N B)(ht:∀x∈N,x.text.size<=65536){k n}(hn:k+4*B+65600<n)(hv:ve k N root=some 0){d}{a}(hd:dep k N root=some (d,a)) :
  Wp (yu n (s,root)) h λx h'=>x=(d,a)/\Z h0 h' L:=by
 unfold yu;refine z.new λx0 h1 z _=>?_;refine z.gh 0 (ls:=[.sl,li]) (x:=(s,root)) ?_;rw[ah];refine (rB z G hB ht hn hv).mono λy h2 hy=>?_;obtain⟨rfl,z⟩:=hy;rw[AT (by simp)];refine z.gh 0 (ls:=[.sl,li]) (x:=(s,root)) ?_;rw[ah];refine (Qy z G hB (by omega) (by omega) hd).mono λy h3 hy=>?_;obtain⟨rfl,z⟩:=hy;rw[ag];exact⟨rfl,z.drop⟩
def ab7 {s}{root}{N}(z:Z h0 h L)(G:ou h0 s N){B}(hB:Bd N B)(ht:∀x∈N,x.text.size<=65536){k n}(hn:k+4*B+65600<n){r0}(hv:ve k N root=some r0){d}{a}(hd:r0=0->dep k N root=some (d,a)) :
  Wp (o0 n (s,root)) h λx h'=>x=(if r0≠0 then 3 else if a then 0 else 14)/\Z h0 h' L:=by
 unfold o0;refine z.new λx0 h1 z _=>?_;refine z.gh 0 (ls:=[.sl,li]) (x:=(s,root)) ?_;rw[ah];refine (rB z G hB ht hn hv).mono λy h2 hy=>?_;obtain⟨rfl,z⟩:=hy;by_cases h0':y=0
 .subst h0';rw[AT (by simp),AT (by simp)];refine z.gh 0 (ls:=[.sl,li]) (x:=(s,root)) ?_;rw[ah];refine (ab6 z G hB ht hn hv (hd rfl)).mono λy h3 hy=>?_;obtain⟨rfl,z⟩:=hy;cases a
  .exact ag.2 ⟨rfl,z.drop⟩
  .exact ag.2 ⟨rfl,z.drop⟩
 .rw[By (by grind),By h0'];exact ag.2 ⟨rfl,z.drop⟩
end Go.Sh
