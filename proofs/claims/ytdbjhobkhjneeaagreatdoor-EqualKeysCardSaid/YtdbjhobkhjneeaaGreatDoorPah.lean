
import Derived.Test.YtdbjhobkhjneeaaGreatDoorPae
import Derived.Test.YtdbjhobkhjneeaaGreatDoorPaf
import Derived.Test.YtdbjhobkhjneeaaGreatDoorPag
set_option linter.all false
namespace Go.Sh
open Go Go.Ago Go.Proofs
variable {N:List al}{root:Int}{B:Nat}
def nth (l:ε)(a:Int):Int:=(gt l a).getD 0
def iota (m:Nat):ε:=(List.range m).map (λi:Nat=>(i:Int))
theorem mL m:(iota m).length=m:=by simp[iota]
theorem sQ {m i}(hi:i<m):(iota m)[i]?=some (i:Int):=by simp[iota,hi]
def iB m:Good m (iota m):=⟨mL m,λv hv=>by
 grind [iota]⟩
def Q4 (m:Nat)(cv:Int->Int->Int)(a b:Int):Int:=if 0<=a/\a<m/\0<=b/\b<m then cv a b else 0
noncomputable def S8 (cv:Int->Int->Int)(m:Nat):ε:=if h:m<50 then (Ma cv h (iB m)).choose else iota m
noncomputable def F5 (cv:Int->Int->Int)(m:Nat):ε:=S8 (Q4 m cv) m
theorem yv cv m:(F5 cv m).Perm (iota m):=by
 grind [F5,S8]
def ajH {cv}{c:Cx}{P}{h}{n}(hm:c.m<50)(ok:c.OK (Q4 c.m cv))(hn:c.k+600<=n)(st:c.St P h (iota c.m)):Wp ((cl n).dV (arr c.b c.m) c.x) h λ_ h'=>c.St P h' (F5 cv c.m):=by
 unfold F5 S8;rw[dif_pos hm];exact (Ma (Q4 c.m cv) hm (iB c.m)).choose_spec.2 c P h n rfl ok hn st
theorem Wc {cv cv'}{m:Nat}(h:∀a b:Int,0<=a->a<m->0<=b->b<m->cv a b=cv' a b):F5 cv m=F5 cv' m:=by
 have:Q4 m cv=Q4 m cv':=by
  funext a b;grind [Q4]
 grind [F5]
noncomputable def iS (cv:Int->Int->Int)(x:al):ε:=if x.kind=10/\x.ord=false then F5 (λa b=>cv (nth x.keys a) (nth x.keys b)) x.items.length else iota x.items.length
theorem vU cv x:(iS cv x).Perm (iota x.items.length):=by
 grind [iS,yv]
theorem yw cv x:(iS cv x).length=x.items.length:=by rw[(vU cv x).length_eq,mL]
def dP {cv}{x}{a}(ha:a∈iS cv x):0<=a/\a<x.items.length:=(iB _).2 a ((vU cv x).mem_iff.1 ha)
def Bj (cv:Int->Int->Int)(x y:al):ε->ε->Option Int
 |a::p,b::q=>if x.kind=10/\cv (nth x.keys a) (nth y.keys b)≠0 then some (cv (nth x.keys a) (nth y.keys b)) else if cv (nth x.items a) (nth y.items b)≠0 then some (cv (nth x.items a) (nth y.items b)) else Bj cv x y p q
 |_,_=>none
noncomputable def Ep (cv:Int->Int->Int)(x y:al):Int:=
 if x.kind<y.kind then -1 else if y.kind<x.kind then 1 else if x.ord≠y.ord then (if y.ord then -1 else 1) else if vL x.kind x.text y.text≠0 then vL x.kind x.text y.text
 else match Bj cv x y (iS cv x) (iS cv y) with
  |some c=>c
  |none=>if x.items.length<y.items.length then -1 else if y.items.length<x.items.length then 1 else 0
noncomputable def OR (N:List al)(cv:Int->Int->Int)(i j:Int):Int:=match gt N i,gt N j with
 |some x,some y=>Ep cv x y
 |_,_=>0
noncomputable def kG (N:List al):Nat->Int->Int->Int
 |0,_,_=>0
 |f+1,i,j=>OR N (kG N f) i j
theorem aY {l}{a:Int}(h0:0<=a)(h:a<l.length):nth l a∈l:=by
 obtain⟨v,hv⟩:=kB h0 h
 grind [nth,aq]
def Du {cv cv'}{x}(hl:x.kind=10->x.keys.length=x.items.length)(h:∀u∈x.keys,∀v∈x.keys,cv u v=cv' u v):iS cv x=iS cv' x:=by
 grind [iS,Wc,aY]
def Iy {cv cv'}{x y}(h1:x.kind=10->∀u∈x.keys,∀v∈y.keys,cv u v=cv' u v)(h2:∀u∈x.items,∀v∈y.items,cv u v=cv' u v):∀{p q:ε},(∀a∈p,0<=a/\a<x.items.length/\(x.kind=10->a<x.keys.length))->(∀a∈q,0<=a/\a<y.items.length/\(x.kind=10->a<y.keys.length))->Bj cv x y p q=Bj cv' x y p q
 |[],q,_,_=>by cases q<;>rfl
 |a::p,[],_,_=>rfl
 |a::p,b::q,hp,hq=>by
  obtain⟨a1,a2,a3⟩:=hp a IS;obtain⟨b1,b2,b3⟩:=hq b IS;have e2:=h2 _ (aY a1 a2) _ (aY b1 b2);have ih:=Iy h1 h2 (λc hc=>hp c (BY _ hc)) λc hc=>hq c (BY _ hc);unfold Bj;rw[e2,ih]
  grind [aY]
def Dv {cv cv'}{x y}(hx:x.kind=10->x.keys.length=x.items.length)(hy:y.kind=10->y.keys.length=y.items.length)
  (h:∀u v,(u∈x.keys\/u∈x.items\/u∈y.keys\/u∈y.items)->(v∈x.keys\/v∈x.items\/v∈y.keys\/v∈y.items)->cv u v=cv' u v):Ep cv x y=Ep cv' x y:=by
 unfold Ep;split
 .rfl
 split
 .rfl
 rename_i c1 c2;have hk:x.kind=y.kind:=by omega
 split
 .rfl
 split
 .rfl
 rw[Du hx λu hu v hv=>h u v (.inl hu) (.inl hv),Du hy λu hu v hv=>h u v (.inr (.inr (.inl hu))) (.inr (.inr (.inl hv)))];rw[Iy (λ_ u hu v hv=>h u v (.inl hu) (.inr (.inr (.inl hv)))) (λu hu v hv=>h u v (.inr (.inl hu)) (.inr (.inr (.inr hv))))
  (λa ha=>⟨(dP ha).1,(dP ha).2,λe=>by rw[hx e];exact (dP ha).2⟩) (λa ha=>⟨(dP ha).1,(dP ha).2,λe=>by rw[hy (hk▸e)];exact (dP ha).2⟩)]
def Kd (d:Vd N root){H:Int->Nat}(hH:∀u v,KN N v->Edge N u v->H v<H u):∀t f f' ,t<f->t<f'->∀i j,KN N i->KN N j->H i<=t->H j<=t->kG N f i j=kG N f' i j:=by
 intro t
 induction t with
 |zero=>
  intro f f' h1 h2 i j hi hj hti htj;obtain⟨f,rfl⟩:∃g,f=g+1:=⟨f-1,by omega⟩;obtain⟨f',rfl⟩:∃g,f'=g+1:=⟨f' - 1,by omega⟩;unfold kG OR;cases ex:gt N i with
  |none=>rfl
  |some x=>
   cases ey:gt N j with
   |none=>rfl
   |some y=>
    refine Dv (d.map (aq ex)) (d.map (aq ey)) λu v hu hv=>?_;exfalso;rcases hu with h|h|h|h
    .have:=hH i u (.step hi ⟨x,ex,.inl h⟩) ⟨x,ex,.inl h⟩;omega
    .have:=hH i u (.step hi ⟨x,ex,.inr h⟩) ⟨x,ex,.inr h⟩;omega
    .have:=hH j u (.step hj ⟨y,ey,.inl h⟩) ⟨y,ey,.inl h⟩;omega
    .have:=hH j u (.step hj ⟨y,ey,.inr h⟩) ⟨y,ey,.inr h⟩;omega
 |succ t ih=>
  intro f f' h1 h2 i j hi hj hti htj;obtain⟨f,rfl⟩:∃g,f=g+1:=⟨f-1,by omega⟩;obtain⟨f',rfl⟩:∃g,f'=g+1:=⟨f' - 1,by omega⟩;unfold kG OR;cases ex:gt N i with
  |none=>rfl
  |some x=>
   cases ey:gt N j with
   |none=>rfl
   |some y=>
    have low:∀u,(u∈x.keys\/u∈x.items\/u∈y.keys\/u∈y.items)->KN N u/\H u<=t:=λu hu=>by
     rcases hu with h|h|h|h
     .have e:Edge N i u:=⟨x,ex,.inl h⟩;have:=hH i u (.step hi e) e;exact⟨.step hi e,by omega⟩
     .have e:Edge N i u:=⟨x,ex,.inr h⟩;have:=hH i u (.step hi e) e;exact⟨.step hi e,by omega⟩
     .have e:Edge N j u:=⟨y,ey,.inl h⟩;have:=hH j u (.step hj e) e;exact⟨.step hj e,by omega⟩
     .have e:Edge N j u:=⟨y,ey,.inr h⟩;have:=hH j u (.step hj e) e;exact⟨.step hj e,by omega⟩
    exact Dv (d.map (aq ex)) (d.map (aq ey)) λu v hu hv=>ih f f' (by omega) (by omega) u v (low u hu).1 (low v hv).1 (low u hu).2 (low v hv).2
noncomputable def iT (N:List al):Int->Int->Int:=kG N (N.length+1)
noncomputable def bM (N:List al)(i:Int):ε:=match gt N i with
 |some x=>iS (iT N) x
 |none=>[]
theorem fu {k}{x}(hx:gt N k=some x):(bM N k).length=x.items.length:=by
 grind [bM,yw]
def adP (d:Vd N root){i j}{x y}(hi:KN N i)(hj:KN N j)(ex:gt N i=some x)(ey:gt N j=some y):iT N i j=Ep (iT N) x y:=by
 obtain⟨H,hH1,hH2⟩:=d.L9;have e:iT N i j=Ep (kG N N.length) x y:=by
  unfold iT kG OR
  grind
 rw[e];refine Dv (d.map (aq ex)) (d.map (aq ey)) λu v hu hv=>?_;have low:∀u,(u∈x.keys\/u∈x.items\/u∈y.keys\/u∈y.items)->KN N u/\H u<N.length:=λu hu=>by
  have h1:=hH1 i;have h2:=hH1 j;rcases hu with h|h|h|h
  .have e:Edge N i u:=⟨x,ex,.inl h⟩;have:=hH2 i u (.step hi e) e;exact⟨.step hi e,by omega⟩
  .have e:Edge N i u:=⟨x,ex,.inr h⟩;have:=hH2 i u (.step hi e) e;exact⟨.step hi e,by omega⟩
  .have e:Edge N j u:=⟨y,ey,.inl h⟩;have:=hH2 j u (.step hj e) e;exact⟨.step hj e,by omega⟩
  .have e:Edge N j u:=⟨y,ey,.inr h⟩;have:=hH2 j u (.step hj e) e;exact⟨.step hj e,by omega⟩
 have h1:=(low u hu).2;exact Kd d hH2 (N.length-1) _ _ (by omega) (by omega) u v (low u hu).1 (low v hv).1 (by grind) (by grind)
end Go.Sh
namespace Go.Sh
open Go Go.Ago Go.Proofs
variable {N N':List al}{root v:Int}{φ:Int->Int}
def Z7 {n}{R:Nat->Nat->Prop}(h:∀a,a<n->∃b,b<n/\R a b)(inj:∀a a' b,a<n->a'<n->R a b->R a' b->a=a'):∀b,b<n->∃a,a<n/\R a b:=by
 have ex:∀a,∃b,a<n->b<n/\R a b:=λa=>by
  by_cases ha:a<n
  .grind
  .exact⟨0,λq=>absurd q ha⟩
 obtain⟨G,hG⟩:=al7 ex;intro b hb;refine adz λhn=>?_;have nd:((List.range n).map G).Nodup:=by
  refine List.pairwise_map.2 (amW ?_ akh)
  grind
 have nm:b∉(List.range n).map G:=λhm=>by
  obtain⟨a,ha,rfl⟩:=List.mem_map.1 hm
  grind
 have hs:b::(List.range n).map G ⊆ List.range n:=λc hc=>by
  rcases List.mem_cons.1 hc with rfl|hc
  .grind
  .obtain⟨a,ha,rfl⟩:=List.mem_map.1 hc
   grind
 have:=(List.nodup_cons.2 ⟨nm,nd⟩).length_le_of_subset hs
 grind
def vV (hM:∀x∈N,kJ x):∀{f} {a b c},yB N f a b->yB N f b c->yB N f a c
 |0,a,b,c,h,_=>h.elim
 |f+1,a,b,c,⟨x,y,hx,hy,h1,h2,h3,h4,h5⟩,⟨y',z,hy',hz,g1,g2,g3,g4,g5⟩=>by
  rw[hy] at hy';cases hy';refine⟨x,z,hx,hz,h1.trans g1,h2.trans g2,h3.trans g3,h4.trans g4,?_⟩;split at h5
  .rename_i q;rw[By q];rw[By ⟨h1▸q.1,h3▸q.2⟩] at g5;intro a kx p q1 q2;obtain⟨b,ky,r,q3,q4,q5,q6⟩:=h5 a kx p q1 q2;obtain⟨c,kz,s,q7,q8,q9,q10⟩:=g5 b ky r q3 q4;exact⟨c,kz,s,q7,q8,vV hM q5 q9,vV hM q6 q10⟩
  .rename_i q;rw[AT q];rw[AT (λe=>q ⟨h1▸e.1,h3▸e.2⟩)] at g5;intro a p r q1 q2;obtain⟨w,hw⟩:=gG (l:=y.items) (i:=a) (by grind);obtain⟨e1,e2⟩:=h5 a p w q1 hw;obtain⟨e3,e4⟩:=g5 a w r hw q2;refine⟨vV hM e1 e3,λhk kx kz r1 r2=>?_⟩;obtain⟨ky,hky⟩:=gG (by rw[hM y (aq hy) (h1▸hk)];exact bZ hw);exact vV hM (e2 hk kx ky r1 hky) (e4 (h1▸hk) ky kz hky r2)
def wQ (hM:∀x∈N,kJ x)(tw:∀x∈N,x.keys.Pairwise λy x=>¬SM N x y):∀{f} {a b},yB N f a b->yB N f b a
 |0,a,b,h=>h.elim
 |f+1,a,b,⟨x,y,hx,hy,h1,h2,h3,h4,h5⟩=>by
  refine⟨y,x,hy,hx,h1.symm,h2.symm,h3.symm,h4.symm,?_⟩;split at h5
  .rename_i q;rw[By ⟨h1▸q.1,h3▸q.2⟩];have lx:=hM x (aq hx) q.1;have ly:=hM y (aq hy) (h1▸q.1);have key:=Z7 (n:=x.items.length) (R:=λa b=>∃kx ky p r,x.keys[a]?=some kx/\y.keys[b]?=some ky/\x.items[a]?=some p/\y.items[b]?=some r/\yB N f kx ky/\yB N f p r) (λa ha=>by
    obtain⟨kx,hkx⟩:=gG (l:=x.keys) (i:=a) (by omega);obtain⟨p,hp⟩:=gG ha;obtain⟨b,ky,r,e1,e2,e3,e4⟩:=h5 a kx p hkx hp;exact⟨b,by grind,kx,ky,p,r,hkx,e1,hp,e2,e3,e4⟩) (λa a' b ha ha' ⟨kx,ky,p,r,e1,e2,e3,e4,e5,e6⟩ ⟨kx',ky',p',r',g1,g2,g3,g4,g5,g6⟩=>by
    rw[e2] at g2;cases g2;refine adz λhne=>?_;have s1:yB N f kx kx':=vV hM e5 (wQ hM tw g5);have s2:yB N f kx' kx:=vV hM g5 (wQ hM tw e5);have pw:=List.pairwise_iff_getElem.1 (tw x (aq hx));obtain⟨l1,e1⟩:=List.getElem?_eq_some_iff.1 e1;obtain⟨l2,g1⟩:=List.getElem?_eq_some_iff.1 g1;rcases Nat.lt_or_gt_of_ne hne with h|h
    .have:=pw a a' l1 l2 h;rw[e1,g1] at this;exact this ⟨f,s2⟩
    .have:=pw a' a l2 l1 h;rw[e1,g1] at this;exact this ⟨f,s1⟩)
   intro b ky r q1 q2;obtain⟨a,ha,kx,ky',p,r',e1,e2,e3,e4,e5,e6⟩:=key b (by grind);rw[q1] at e2;rw[q2] at e4;cases e2;cases e4;exact⟨a,kx,p,e1,e3,wQ hM tw e5,wQ hM tw e6⟩
  .rename_i q;rw[AT (λe=>q ⟨h1▸e.1,h3▸e.2⟩)];intro a r p q1 q2;obtain⟨e1,e2⟩:=h5 a p r q2 q1;exact⟨wQ hM tw e1,λhk ky kx r1 r2=>wQ hM tw (e2 (h1▸hk) kx ky r2 r1)⟩
structure wR (φ:Int->Int) (x x':al):Prop where
 k:x'.kind=x.kind
 t:x'.text=x.text
 o:x'.ord=x.ord
 e:∃o:ε,o.Perm (iota x.items.length)/\(¬(x.kind=10/\x.ord=false)->o=iota x.items.length)/\x'.items=o.map (λa=>φ (nth x.items a))/\x'.keys=if x.kind=10 then o.map (λa=>φ (nth x.keys a)) else []
theorem lW {l}{i:Nat}{p}(h:l[i]?=some p):nth l (i:Int)=p:=by
 grind [nth,gt]
section
variable {x x':al}
def wR.il (E:wR φ x x'):x'.items.length=x.items.length:=by
 obtain⟨o,h1,_,h3,_⟩:=E.e;rw[h3,adR,h1.length_eq,mL]
def wR.kl (E:wR φ x x')(hm:kJ x)(hk:x.kind≠10->x.keys=[]):x'.keys.length=x.keys.length:=by
 obtain⟨o,h1,_,_,h4⟩:=E.e;rw[h4];by_cases h:x.kind=10
 .rw[By h,adR,h1.length_eq,mL,hm h]
 grind
def wR.to (E:wR φ x x'){a}{p}(h:x.items[a]?=some p):∃a':Nat,x'.items[a']?=some (φ p)/\(x.kind=10->∀k,x.keys[a]?=some k->x'.keys[a']?=some (φ k))/\(¬(x.kind=10/\x.ord=false)->a'=a):=by
 obtain⟨o,h1,h2,h3,h4⟩:=E.e;have hlt:=bZ h;have hm:(a:Int)∈o:=h1.mem_iff.2 (by grind [iota]);by_cases hu:x.kind=10/\x.ord=false
 .obtain⟨a',ha'⟩:=List.mem_iff_getElem?.1 hm;refine⟨a',by grind [lW],λhk k hkk=>by rw[h4,By hk,abi,ha'];simp[lW hkk],λq=>absurd hu q⟩
 .have:=h2 hu;subst this;refine⟨a,by grind [sQ,lW],λhk k hkk=>by rw[h4,By hk,abi,sQ hlt];simp[lW hkk],λ_=>rfl⟩
theorem wR.of (E:wR φ x x'){a'}{p'}(h:x'.items[a']?=some p'):∃(a:Nat) (p:Int),x.items[a]?=some p/\p'=φ p/\(x.kind=10->∀k,x.keys[a]?=some k->x'.keys[a']?=some (φ k))/\(¬(x.kind=10/\x.ord=false)->a'=a):=by
 obtain⟨o,h1,h2,h3,h4⟩:=E.e;rw[h3,abi] at h;cases ho:o[a']? with
 |none=>grind
 |some b=>
  rw[ho] at h;have hb:b∈iota x.items.length:=h1.mem_iff.1 (IN ho);unfold iota at hb;obtain⟨a,ha,rfl⟩:=List.mem_map.1 hb;obtain⟨p,hp⟩:=gG (List.mem_range.1 ha);refine⟨a,p,hp,?_,λhk k hkk=>by rw[h4,By hk,abi,ho];simp[lW hkk],λhu=>?_⟩
  .grind [nth,Option.some.inj,lW]
  grind [bZ,mL,sQ,Option.some.inj]
def wR.form (E:wR φ x x')(hm:kJ x)(hk:x.kind≠10->x.keys=[]):ju x'=ju x:=by
 have h1:=E.il;have h2:=E.kl hm hk;have h3:=E.k;have h4:=E.t;have h5:=E.o
 grind [ju]
end
structure BD (N:List al) (v:Int) (N':List al) (φ:Int->Int):Prop where
 nd:∀u x,gT N v u->gt N u=some x->∃x',gt N' (φ u)=some x'/\wR φ x x'
 inj:∀u w,gT N v u->gT N v w->φ u=φ w->u=w
 sur:∀w,IR N'.length w->∃u,gT N v u/\φ u=w
 len:N'.length<=N.length
section
variable (I:BD N v N' φ)(g:GV N root)(hv:IR N.length v)
include I g hv
theorem BD.ir {u}(h:gT N v u):IR N.length u/\IR N'.length (φ u):=by
 have h1:=h.ir g.ix hv;obtain⟨x,hx⟩:=cP rfl h1;obtain⟨x',hx',_⟩:=I.nd u x h hx
 grind [mK]
theorem GV.map (g:GV N root){x}(hx:x∈N):kJ x:=Ej (g.fm x hx)
end
def GV.zO (g:GV N root){x}(hx:x∈N):kJ x:=Ej (g.fm x hx)
def rn {x}(h:ju x=some true)(hk:x.kind≠10):x.keys=[]:=by
 grind [ju]
end Go.Sh
namespace Go.Sh
open Go Go.Ago Go.Proofs
variable {N N':List al}{root v:Int}{φ:Int->Int}{x x':al}
def wR.toK (E:wR φ x x')(hm:kJ x)(hk:x.kind≠10->x.keys=[]){a:Nat}{k}(h:x.keys[a]?=some k):∃a':Nat,x'.keys[a']?=some (φ k):=by
 have h10:x.kind=10:=adz λq=>by grind
 obtain⟨p,hp⟩:=gG (by rw[<-hm h10];exact bZ h);obtain⟨a',_,h2,_⟩:=E.to hp
 grind
def wR.ofK (E:wR φ x x')(hm:kJ x)(hk:x.kind≠10->x.keys=[]){a':Nat}{k'}(h:x'.keys[a']?=some k'):∃(a:Nat) (k:Int),x.keys[a]?=some k/\k'=φ k:=by
 have hl:=E.kl hm hk;have h10:x.kind=10:=adz λq=>by grind
 obtain⟨p',hp'⟩:=gG (by rw[E.il,<-hm h10,<-hl];exact bZ h);obtain⟨a,p,h1,_,h2,_⟩:=E.of hp';obtain⟨k,hk2⟩:=gG (by rw[hm h10];exact bZ h1)
 grind
section
variable (I:BD N v N' φ)(g:GV N root)(hv:IR N.length v)
include I g
theorem BD.GC {u w}(h:gT N v u)(e:Edge N u w):Edge N' (φ u) (φ w):=by
 obtain⟨x,hx,hm⟩:=e;obtain⟨x',hx',E⟩:=I.nd u x h hx;refine⟨x',hx',?_⟩;rcases hm with hm|hm
 .obtain⟨a,ha⟩:=List.mem_iff_getElem?.1 hm;obtain⟨a',h1⟩:=E.toK (g.zO (aq hx)) (rn (g.fm x (aq hx))) ha
  grind
 .obtain⟨a,ha⟩:=List.mem_iff_getElem?.1 hm;obtain⟨a',h1,_⟩:=E.to ha
  grind
theorem BD.S9 {u w'}(h:gT N v u)(hu:IR N.length u)(e:Edge N' (φ u) w'):∃w,Edge N u w/\φ w=w':=by
 obtain⟨x,hx⟩:=cP rfl hu;obtain⟨x',hx',E⟩:=I.nd u x h hx;obtain⟨y,hy,hm⟩:=e;rw[hx'] at hy;cases hy;rcases hm with hm|hm
 .obtain⟨a',ha⟩:=List.mem_iff_getElem?.1 hm;obtain⟨a,k,h1,rfl⟩:=E.ofK (g.zO (aq hx)) (rn (g.fm x (aq hx))) ha;exact⟨k,⟨x,hx,.inl (IN h1)⟩,rfl⟩
 .obtain⟨a',ha⟩:=List.mem_iff_getElem?.1 hm;obtain⟨a,p,h1,rfl,_⟩:=E.of ha;exact⟨p,⟨x,hx,.inr (IN h1)⟩,rfl⟩
theorem BD.OM {u w}(h:gT N v u)(r:gT N u w):gT N' (φ u) (φ w):=by
 induction r with
 |refl=>exact .refl
 |step r e ih=>exact ih.step (I.GC g (h.trans r) e)
include hv
theorem BD.aln {u w'}(h:gT N v u)(r:gT N' (φ u) w'):∃w,gT N u w/\φ w=w':=by
 induction r with
 |refl=>exact⟨u,.refl,rfl⟩
 |step r e ih=>
  obtain⟨w,h1,h2⟩:=ih;rw[<-h2] at e;obtain⟨z,h3,h4⟩:=I.S9 g (h.trans h1) ((h.trans h1).ir g.ix hv) e;exact⟨z,h1.step h3,h4⟩
theorem BD.adQ {u w}(hu:gT N v u)(hw:gT N v w):gT N' (φ u) (φ w)↔gT N u w:=by
 constructor
 .intro r;obtain⟨z,h1,h2⟩:=I.aln g hv hu r;rw[<-I.inj z w (hu.trans h1) hw h2];exact h1
 .exact I.OM g hu
theorem Ta {n n'}{P P'}(f:Nat->Nat)(h1:∀a,a<n->P a=true->f a<n'/\P' (f a)=true)(h2:∀a b,a<n->b<n->P a=true->P b=true->f a=f b->a=b):(List.range n).countP P<=(List.range n').countP P':=by
 rw[anr,anr];have nd:(((List.range n).filter P).map f).Nodup:=by
  grind [List.Pairwise.imp_of_mem,List.nodup_range]
 have:=nd.length_le_of_subset (l₂:=(List.range n').filter P') λc hc=>by
  grind
 grind
theorem BD.back:∃ψ:Int->Int,(∀w,IR N'.length w->gT N v (ψ w)/\φ (ψ w)=w)/\∀u,gT N v u->ψ (φ u)=u:=by
 have ex:∀w,∃u,IR N'.length w->gT N v u/\φ u=w:=λw=>by
  by_cases h:IR N'.length w
  .obtain⟨u,hu⟩:=I.sur w h;grind
  simp_all
 obtain⟨ψ,h⟩:=al7 ex;refine⟨ψ,h,λu hu=>?_⟩;obtain⟨h1,h2⟩:=h (φ u) (I.ir g hv hu).2;exact I.inj _ _ h1 hu h2
theorem BD.wt {u}(hu:gT N v u):wt N' (φ u)=wt N u:=by
 obtain⟨ψ,p1,p2⟩:=I.back g hv;have nn:∀{n:Nat} {w:Int},IR n w->w.toNat<n/\(w.toNat:Int)=w:=λh=>by grind [IR]
 unfold Sh.wt
 congr 1
 apply Nat.le_antisymm
 .refine Ta I g hv (λw:Nat=>(ψ (w:Int)).toNat) (λw hw h=>?_) λa b ha hb _ _ e=>?_
  .obtain⟨q1,q2⟩:=p1 (w:Int) ⟨by omega,by omega⟩;have q3:=nn (I.ir g hv q1).1;refine⟨q3.1,?_⟩;simp only[abb] at h⊢;rw[q3.2];rw[<-q2] at h;exact⟨(I.adQ g hv hu q1).1 h.1,(I.adQ g hv q1 hu).1 h.2⟩
  .obtain⟨q1,q2⟩:=p1 (a:Int) ⟨by omega,by omega⟩;obtain⟨r1,r2⟩:=p1 (b:Int) ⟨by omega,by omega⟩;have q3:=nn (I.ir g hv q1).1;have r3:=nn (I.ir g hv r1).1
   grind
 .have rc:∀w:Nat,gT N u (w:Int)->gT N v (w:Int):=λw h=>hu.trans h;refine Ta I g hv (λw:Nat=>(φ (w:Int)).toNat) (λw hw h=>?_) λa b ha hb h1 h2 e=>?_
  .simp only[abb] at h⊢;have q3:=nn (I.ir g hv (rc w h.1)).2;rw[q3.2];exact⟨q3.1,(I.adQ g hv hu (rc w h.1)).2 h.1,(I.adQ g hv (rc w h.1) hu).2 h.2⟩
  .simp at h1 h2;have q3:=nn (I.ir g hv (rc a h1.1)).2;have r3:=nn (I.ir g hv (rc b h2.1)).2
   grind
theorem BD.df {f}(hf:DF N f):∃f',DF N' f'/\f' (φ v)=f v:=by
 obtain⟨ψ,p1,p2⟩:=I.back g hv;refine⟨λw=>f (ψ w),λw hw=>?_,by simp;rw[p2 v .refl]⟩;obtain⟨q1,q2⟩:=p1 w hw;obtain⟨h1,h2⟩:=hf (ψ w) (I.ir g hv q1).1;have hwt:=I.wt g hv q1;rw[q2] at hwt;refine⟨by grind,λz hz=>?_⟩;rw[<-q2] at hz;obtain⟨y,r1,rfl⟩:=I.aln g hv q1 hz;have hy:=q1.trans r1;obtain⟨h3,h4⟩:=h2 y r1;simp;rw[p2 y hy,hwt];exact⟨h3,λhn=>h4 λr=>hn (by rw[<-q2];exact I.OM g hy r)⟩
theorem BD.node {x'}(h:x'∈N'):∃u x,gT N v u/\gt N u=some x/\gt N' (φ u)=some x'/\wR φ x x':=by
 obtain⟨j,hj⟩:=List.mem_iff_getElem?.1 h;have hlt:=bZ hj;obtain⟨u,hu,e⟩:=I.sur (j:Int) ⟨by omega,by omega⟩;obtain⟨x,hx⟩:=cP rfl (I.ir g hv hu).1;obtain⟨y,hy,E⟩:=I.nd u x hu hx
 grind [gt]
theorem BD.kn {w}(h:KN N' w):∃u,gT N v u/\φ u=w/\KN N u:=by
 induction h with
 |key hx hw=>
  obtain⟨u,x,hu,hgx,_,E⟩:=I.node g hv hx;obtain⟨a',ha⟩:=List.mem_iff_getElem?.1 hw;obtain⟨a,k,h1,h2⟩:=E.ofK (g.zO (aq hgx)) (rn (g.fm x (aq hgx))) ha;have hk:=IN h1;exact⟨k,hu.step ⟨x,hgx,.inl hk⟩,h2.symm,.key (aq hgx) hk⟩
 |step _ e ih=>
  obtain⟨u,hu,rfl,hk⟩:=ih;obtain⟨w,h1,h2⟩:=I.S9 g hu (I.ir g hv hu).1 e;exact⟨w,hu.step h1,h2,hk.step h1⟩
theorem BD.sm:∀f a b ,gT N v a->gT N v b->(yB N' f (φ a) (φ b)↔yB N f a b)
 |0,a,b,_,_=>Iff.rfl
 |f+1,a,b,ha,hb=>by
  obtain⟨x,hx⟩:=cP rfl (I.ir g hv ha).1;obtain⟨y,hy⟩:=cP rfl (I.ir g hv hb).1;obtain⟨x',hx',E⟩:=I.nd a x ha hx;obtain⟨y',hy',G⟩:=I.nd b y hb hy;have mx:=g.zO (aq hx);have my:=g.zO (aq hy);have ed:∀{u:Int} {z:al} {l:ε} {i:Nat} {p:Int},gT N v u->gt N u=some z->(l=z.keys\/l=z.items)->l[i]?=some p->gT N v p:=λhu hz hl hp=>hu.step ⟨_,hz,by
   grind⟩
  have kz:∀{z:al} {i:Nat} {p:Int},kJ z->z.kind=10->z.items[i]?=some p->∃k,z.keys[i]?=some k:=λhm hk hp=>gG (by rw[hm hk];grind);constructor
  .rintro⟨x2,y2,e1,e2,h1,h2,h3,h4,h5⟩;rw[hx'] at e1;rw[hy'] at e2;cases e1;cases e2;rw[E.k,G.k] at h1;rw[E.t,G.t] at h2;rw[E.o,G.o] at h3;rw[E.il,G.il] at h4;refine⟨x,y,hx,hy,h1,h2,h3,h4,?_⟩;rw[E.k,E.o] at h5;split at h5
   .rename_i q;rw[By q];intro i kx p q1 q2;obtain⟨i',r1,r2,_⟩:=E.to q2;obtain⟨j',ky',p',s1,s2,s3,s4⟩:=h5 i' _ _ (r2 q.1 kx q1) r1;obtain⟨j,pj,t1,rfl,t2,_⟩:=G.of s2;obtain⟨ky,hky⟩:=kz my (h1▸q.1) t1;have:=t2 (h1▸q.1) ky hky;rw[s1] at this;cases this;exact⟨j,ky,pj,hky,t1,(BD.sm f kx ky (ed ha hx (.inl rfl) q1) (ed hb hy (.inl rfl) hky)).1 s3,(BD.sm f p pj (ed ha hx (.inr rfl) q2) (ed hb hy (.inr rfl) t1)).1 s4⟩
   .rename_i q;rw[AT q];intro i p r q1 q2;obtain⟨i',r1,r2,r3⟩:=E.to q1;obtain⟨j',s1,s2,s3⟩:=G.to q2;have:=r3 q;subst this;have:=s3 (λe=>q ⟨h1▸e.1,h3▸e.2⟩);subst this;obtain⟨u1,u2⟩:=h5 _ _ _ r1 s1;exact⟨(BD.sm f p r (ed ha hx (.inr rfl) q1) (ed hb hy (.inr rfl) q2)).1 u1,λhk kx ky v1 v2=>(BD.sm f kx ky (ed ha hx (.inl rfl) v1) (ed hb hy (.inl rfl) v2)).1 (u2 hk _ _ (r2 hk kx v1) (s2 (h1▸hk) ky v2))⟩
  .rintro⟨x2,y2,e1,e2,h1,h2,h3,h4,h5⟩;rw[hx] at e1;rw[hy] at e2;cases e1;cases e2;refine⟨x',y',hx',hy',by rw[E.k,G.k,h1],by rw[E.t,G.t,h2],by rw[E.o,G.o,h3],by rw[E.il,G.il,h4],?_⟩;rw[E.k,E.o];split at h5
   .rename_i q;rw[By q];intro i' kx' p' q1 q2;obtain⟨i,p,r1,rfl,r2,_⟩:=E.of q2;obtain⟨kx,hkx⟩:=kz mx q.1 r1;have:=r2 q.1 kx hkx;rw[q1] at this;cases this;obtain⟨j,ky,r,s1,s2,s3,s4⟩:=h5 i kx p hkx r1;obtain⟨j',t1,t2,_⟩:=G.to s2;exact⟨j',_,_,t2 (h1▸q.1) ky s1,t1,(BD.sm f kx ky (ed ha hx (.inl rfl) hkx) (ed hb hy (.inl rfl) s1)).2 s3,(BD.sm f p r (ed ha hx (.inr rfl) r1) (ed hb hy (.inr rfl) s2)).2 s4⟩
   .rename_i q;rw[AT q];intro i p' r' q1 q2;obtain⟨i',p,r1,rfl,r2,r3⟩:=E.of q1;obtain⟨j',r,s1,rfl,s2,s3⟩:=G.of q2;have:=r3 q;subst this;have:=s3 (λe=>q ⟨h1▸e.1,h3▸e.2⟩);subst this;obtain⟨u1,u2⟩:=h5 _ _ _ r1 s1;refine⟨(BD.sm f p r (ed ha hx (.inr rfl) r1) (ed hb hy (.inr rfl) s1)).2 u1,λhk kx' ky' v1 v2=>?_⟩;obtain⟨kx,hkx⟩:=kz mx hk r1;obtain⟨ky,hky⟩:=kz my (h1▸hk) s1;have:=r2 hk kx hkx;rw[v1] at this;cases this;have:=s2 (h1▸hk) ky hky;rw[v2] at this;cases this;exact (BD.sm f kx ky (ed ha hx (.inl rfl) hkx) (ed hb hy (.inl rfl) hky)).2 (u2 hk kx ky hkx hky)
end
end Go.Sh
namespace Go.Sh
open Go Go.Ago Go.Proofs
variable {N N':List al}{root v:Int}{φ:Int->Int}{x x':al}
theorem BE {γ:Type}{ψ:Int->γ}:∀l ,(iota l.length).map (λa=>ψ (nth l a))=l.map ψ:=λl=>by
 refine alR λi=>?_
 grind [gG,sQ,lW,List.getElem?_eq_none,mL]
def wR.items (E:wR φ x x'):x'.items.Perm (x.items.map φ):=by
 obtain⟨o,h1,_,h3,_⟩:=E.e
 grind [nth,BE]
def wR.keys (E:wR φ x x')(hm:kJ x)(hk:x.kind≠10->x.keys=[]):∃l:ε,l.Perm x.keys/\x'.keys=l.map φ:=by
 obtain⟨o,h1,_,_,h4⟩:=E.e;by_cases h:x.kind=10
 .refine⟨o.map (λa=>nth x.keys a),?_,by simp_all⟩;have:=h1.map (λa=>nth x.keys a);rw[<-hm h,BE (ψ:=λa=>a),List.map_id'] at this
  grind
 simp_all
def Er {u}:∀{l:ε},(∀w∈l,φ w=φ u->w=u)->(l.map φ).count (φ u)=l.count u
 |[],_=>rfl
 |a::l,h=>by
  rw[abv,ake,ake,Er λw hw=>h w (BY _ hw)]
  grind
theorem Ke {u}:∀{X:List al} {i:Nat} {x},X[i]?=some x->(refs x).count u=1->(∀j y,X[j]?=some y->u∈refs y->j=i)->(X.flatMap refs).count u=1
 |[],i,x,h,_,_=>by simp at h
 |y::X,0,x,h,h1,h2=>by
  simp at h;subst h;rw[abz,ako,h1];have:(X.flatMap refs).count u=0:=List.count_eq_zero.2 λhm=>by
   obtain⟨z,hz,hu⟩:=List.mem_flatMap.1 hm;obtain⟨j,hj⟩:=List.mem_iff_getElem?.1 hz;have:=h2 (j+1) z (by grind) hu;omega
  omega
 |y::X,i+1,x,h,h1,h2=>by
  rw[abz,ako,Ke (by simpa using h) h1 λj z hj hu=>by
   have:=h2 (j+1) z (by grind) hu;omega]
  have:(refs y).count u=0:=List.count_eq_zero.2 λhm=>by
   have:=h2 0 y rfl hm;omega
  omega
def xN {u}:∀{X:List al} {x},x∈X->(refs x).count u<=(X.flatMap refs).count u
 |y::X,x,h=>by
  rw[abz,ako];rcases List.mem_cons.1 h with rfl|h
  .omega
  .have:=xN (u:=u) h;omega
section
variable (I:BD N v N' φ)(g:GV N root)(d:Vd N root)(hv:IR N.length v)
include I g d hv
theorem BD.one {u}(hu:gT N v u)(kn:KN N u):(φ v::N'.flatMap refs).count (φ u)=1:=by
 have c1:=g.one u kn;obtain⟨H,_,hH⟩:=d.L9;rw[ake];have who:∀(j:Nat) y,N'[j]?=some y->φ u∈refs y->∃p,gT N v p/\φ p=(j:Int)/\Edge N p u:=λj y hj hm=>by
  obtain⟨p,hp,e⟩:=I.sur (j:Int) ⟨by omega,by grind⟩;have hgj:gt N' (φ p)=some y:=by grind [gt]
  have hed:Edge N' (φ p) (φ u):=⟨y,hgj,by grind [refs]⟩;obtain⟨w,h1,h2⟩:=I.S9 g hp (I.ir g hv hp).1 hed;rw[I.inj w u (hp.step h1) hu h2] at h1
  grind
 by_cases e:u=v
 .subst e;have:(N'.flatMap refs).count (φ u)=0:=List.count_eq_zero.2 λhm=>by
   obtain⟨y,hy,hu'⟩:=List.mem_flatMap.1 hm;obtain⟨j,hj⟩:=List.mem_iff_getElem?.1 hy;obtain⟨p,h1,_,h3⟩:=who j y hj hu';have mono:∀w,gT N u w->KN N w/\H w<=H u:=λw r=>by
    induction r with
    |refl=>grind
    |step _ e ih=>exact⟨ih.1.step e,by have:=hH _ _ (ih.1.step e) e;omega⟩
   grind
  grind
 .have hne:φ v≠φ u:=λq=>e (I.inj v u .refl hu q).symm;rw[AT (by grind)];obtain⟨p,hp,hpu⟩:∃p,gT N v p/\Edge N p u:=by
   cases hu with
   |refl=>grind
   |step r ed=>grind
  obtain⟨x,hx,hm⟩:=id hpu;obtain⟨x',hx',E⟩:=I.nd p x hp hx;obtain⟨l,hl1,hl2⟩:=E.keys (g.zO (aq hx)) (rn (g.fm x (aq hx)));have pr:(refs x').Perm ((refs x).map φ):=by
   unfold refs;rw[hl2,agE];exact (hl1.map φ).append E.items
  have cx:(refs x).count u=1:=by
   have h1:=xN (u:=u) (aq hx)
   grind [refs,List.count_pos_iff]
  have h1:(refs x').count (φ u)=1:=by
   rw[pr.count_eq,Er λw hw q=>I.inj w u (hp.step ⟨x,hx,by grind [refs]⟩) hu q,cx]
  obtain⟨_,g2⟩:=aB hx'
  grind [Ke,L8,Int.toNat_natCast]
theorem BD.gv:GV N' (φ v):=by
 have hroot:=g.OM v hv;refine⟨abt I.len g.le,(I.ir g hv .refl).2,λx' hx'=>?_,λx' hx'=>?_,λw hw=>?_,λw kw=>?_,λx' hx'=>?_,?_⟩
 .obtain⟨u,x,hu,hx,hg,E⟩:=I.node g hv hx';have ok:∀w',Edge N' (φ u) w'->IR N'.length w':=λw' e=>by
   obtain⟨w,h1,rfl⟩:=I.S9 g hu (I.ir g hv hu).1 e;exact (I.ir g hv (hu.step h1)).2
  exact⟨λw hw=>ok w ⟨x',hg,.inl hw⟩,λw hw=>ok w ⟨x',hg,.inr hw⟩⟩
 .obtain⟨u,x,hu,hx,hg,E⟩:=I.node g hv hx';rw[E.form (g.zO (aq hx)) (rn (g.fm x (aq hx)))];exact g.fm x (aq hx)
 .obtain⟨u,hu,rfl⟩:=I.sur w hw;exact I.OM g .refl hu
 .obtain⟨u,hu,rfl,k⟩:=I.kn g hv kw;exact I.one g d hv hu k
 .obtain⟨u,x,hu,hx,hg,E⟩:=I.node g hv hx';obtain⟨l,hl1,hl2⟩:=E.keys (g.zO (aq hx)) (rn (g.fm x (aq hx)));have hM:∀x∈N,kJ x:=λx hx=>g.zO hx;have pw:l.Pairwise λy x=>¬SM N x y:=(hl1.pairwise_iff λ{a b} h q=>h (by
   obtain⟨f,q⟩:=q;exact⟨f,wQ hM g.tw q⟩)).2 (g.tw x (aq hx))
  rw[hl2,List.pairwise_map];refine pw.imp_of_mem λ{a b} ha hb h q=>h ?_;obtain⟨f,q⟩:=q;have ra:∀w∈l,gT N v w:=λw hw=>hu.step ⟨x,hx,.inl (hl1.mem_iff.1 hw)⟩;exact⟨f,(I.sm g hv f b a (ra b hb) (ra a ha)).1 q⟩
 .obtain⟨f,hf,hr⟩:=g.dp;obtain⟨f',h1,h2⟩:=I.df g hv hf;have:=((hf root g.rt).2 v hroot).1
  grind
end
end Go.Sh
namespace Go.Sh
open Go Go.Ago Go.Proofs
variable {α β:Type}{h h' h0:aj}{L R:List bN}{N:List al}{root:Int}{B:Nat}{Q:β->aj->Prop}
def _root_.Go.Ago.Z.GU (z:Z h0 h L){b o:Nat}{cs:δ}{e:μ}{l:uN}{v:ο}{x:l.den}{f:l.den->M β}(hm:bN.ar b cs e∈L)(hv:cs[o]?=some v)(hx:Cq l v=some x)(q:Wp (f x) h Q):Wp (sh (e9 l ⟨b,o,none⟩) f) h Q:=by
 obtain⟨i,hi⟩:=List.mem_iff_getElem?.1 hm;exact z.ld i q hi hv hx
def _root_.Go.Ago.Z.stM (z:Z h0 h (R++L)){b o:Nat}{cs vs cs':δ}{e:μ}{f:Unit->M β}(hm:bN.ar b cs e∈L)(hc:aV cs o vs=cs')(ho:o+vs.length<=cs.length)(hs:vs.all fE=true)
  (q:∀(i:Nat) h',L[i]?=some (.ar b cs e)->Z h0 h' (R++L.set i (.ar b cs' e))->Wp (f ()) h' Q):Wp (sh (sU ⟨b,o,none⟩ vs) f) h Q:=by
 obtain⟨i,hi⟩:=List.mem_iff_getElem?.1 hm;have hi2:(R++L)[R.length+i]?=some (.ar b cs e):=by grind
 refine z.st (R.length+i) (λh1 z1=>q i h1 hi ?_) hi2 hc ho hs
 grind
def aS {a}{f}(q:Wp (f a) h Q):Wp (sh (nn (some a)) f) h Q:=by
 rw[ag];exact⟨a,h,rfl,q⟩
def _root_.Go.Ago.Z.rdM (z:Z h0 h L){b m:Nat}{e:μ}{c:ε}{a v:Int}{f:Int->M β}(hm:bN.ar b (c.map vi) e∈L)(hg:gt c a=some v)(hl:c.length=m)(q:Wp (f v) h Q):Wp (sh (mT (arr b m) a 1) λp=>sh (e9 li p) f) h Q:=by
 obtain⟨i,hi⟩:=List.mem_iff_getElem?.1 hm;exact z.JB i hg hl q hi
structure TbC where
 tb:Nat
 sb:Nat
 s:Sl
 root:Int
abbrev cs:Option (Nat×ε)->ο
 |none=>aI
 |some (b,l)=>aC (arr b l.length)
structure Tab (t:TbC) (N:List al) (C:List (Option (Nat×ε))) (L:List bN):Prop where
 len:C.length=N.length
 Me:bN.ar t.tb [aC t.s,vi t.root,aC (arr t.sb N.length)] dB∈L
 F5:bN.ar t.sb (C.map cs) aJ∈L
 ok:∀k b l,gt C k=some (some (b,l))->l=bM N k/\bN.ar b (l.map vi) au∈L
def qh (t:TbC)(N:List al)(L:List bN):Prop:=∃C,Tab t N C L
def Ext (L L':List bN):Prop:=∀b (l:ε),bN.ar b (l.map vi) au∈L->bN.ar b (l.map vi) au∈L'
theorem Ext.refl {L}:Ext L L:=λ_ _ h=>h
theorem Ext.trans {L1 L2 L3}(a:Ext L1 L2)(b:Ext L2 L3):Ext L1 L3:=λx l h=>b x l (a x l h)
def Q5 {γ:Type}{l:List γ}{i}{x y o}(hi:l[i]?=some x)(ho:o∈l)(hne:o≠x):o∈l.set i y:=by
 obtain⟨j,hj⟩:=List.mem_iff_getElem?.1 ho;have hij:i≠j:=λe=>by grind
 exact List.mem_iff_getElem?.2 ⟨j,by grind⟩
def Mb {γ:Type}{l:List γ}{i}{x y}(hi:l[i]?=some x):y∈l.set i y:=by
 have hlt:=(List.getElem?_eq_some_iff.1 hi).1;exact List.mem_iff_getElem?.2 ⟨i,by grind⟩
theorem Tab.put {t}{C}(T:Tab t N C L){i b}(hi:L[i]?=some (.ar t.sb (C.map cs) aJ)){k}(hk:IR N.length k) :
  Tab t N (C.set k.toNat (some (b,bM N k))) (.ar b ((bM N k).map vi) au::L.set i (.ar t.sb ((C.set k.toNat (some (b,bM N k))).map cs) aJ)) /\
  Ext L (.ar b ((bM N k).map vi) au::L.set i (.ar t.sb ((C.set k.toNat (some (b,bM N k))).map cs) aJ)):=by
 have ne1:∀(b:Nat) (c:δ),bN.ar b c au≠.ar t.sb (C.map cs) aJ:=λb c e=>by grind
 have ne2:∀(b:Nat) (c:δ),bN.ar b c dB≠.ar t.sb (C.map cs) aJ:=λb c e=>by grind
 have ext:∀{o:bN},o∈L->o≠.ar t.sb (C.map cs) aJ->o∈bN.ar b ((bM N k).map vi) au::L.set i (.ar t.sb ((C.set k.toNat (some (b,bM N k))).map cs) aJ):=
  λh1 h2=>BY _ (Q5 hi h1 h2)
 refine⟨⟨by rw[ajq];exact T.len,ext T.Me (ne2 _ _),BY _ (Mb hi),λk' b' l hg=>?_⟩,λb' l hm=>ext hm (ne1 _ _)⟩;rw[gh (by rw[T.len];exact hk)] at hg;split at hg
 .grind
 .obtain⟨h1,h2⟩:=T.ok k' b' l hg
  grind
def ajI {m b}(hm:m<1073741824) a0 a1 a2 :
  ∀n i h L ,m-i<n->i<=m->Z h0 h (.ar b (((iota m).take i++List.replicate (m-i) 0).map vi) au::L) ->
   Wp ((cl n).fG a0 a1 a2 (arr b m) (m:Int) (i:Int)) h λ_ h'=>Z h0 h' (.ar b ((iota m).map vi) au::L):=by
 intro n
 induction n with
 |zero=>intro i h L h1;omega
 |succ n ih=>
  intro i h L h1 h2 z;show Wp (lP (cl n) n a0 a1 a2 (arr b m) (m:Int) (i:Int)) h _;unfold lP;have hl:=mL m;by_cases hi:i<m
  .rw[By (by grind)];refine Ji (by omega) (by omega) ?_;rw[OF,adU];refine z.CB 0 (xs:=(iota m).take i++List.replicate (m-i) 0) (by grind) (λh3 z=>?_);have hf:=fill (sQ hi);rw[hl] at hf;rw[hf] at z;rw[w3 h2 (by omega)];exact ih (i+1) h3 L (by omega) (by omega) z
  .rw[AT (by grind),af]
   grind
def Wd (h0:aj)(t:TbC)(N:List al)(fc:Nat)(i j:Int):Prop:=∀(n:Nat) (h:aj) (R L:List bN),fc<=n->qh t N L->Z h0 h (R++L) ->
 Wp ((cl n).lR (some (ak t.tb)) i (some (ak t.tb)) j none) h λr h'=>r=iT N i j/\∃L',qh t N L'/\Ext L L'/\Z h0 h' (R++L')
def Z8 (h0:aj)(t:TbC)(N:List al)(fe:Nat)(k:Int)(m:Nat):Prop:=∀(n:Nat) (h:aj) (R L:List bN),fe<=n->qh t N L->Z h0 h (R++L) ->
 Wp ((cl n).eG (some (ak t.tb)) k) h λr h'=>∃b L',r=arr b m/\bN.ar b ((bM N k).map vi) au∈L'/\qh t N L'/\Ext L L'/\Z h0 h' (R++L')
def Z9 {C}{k}{c}(hc:gt C k=some c):(C.map cs)[k.toNat*1]?=some (cs c):=by
 rw[adU,abi,(aB hc).2];rfl
def Bl {γ:Type}{a:γ}{R L}:(a::(R++L)).Perm (R++a::L):=List.perm_middle.symm
theorem aaa {t}(G:lJ h0 t.s N)(d:Vd N root)(hB:Bd N B){fc}{k}{x}(hx:gt N k=some x)(hsm:x.kind=10->x.items.length<50)(hc:∀u∈x.keys,∀v∈x.keys,Wd h0 t N fc u v) :
  Z8 h0 t N (fc+700+B) k x.items.length:=by
 intro n h R L hn ⟨C,T⟩ z;have hNB:=hB.2.1;obtain⟨_,hBi⟩:=hB.2.2 x (aq hx);have hkr:IR N.length k:=mK hx;obtain⟨n,rfl⟩:∃n',n=n'+1:=⟨n-1,by omega⟩;show Wp (oC (cl n) n (some (ak t.tb)) k) h _;unfold oC;refine z.new λx0 h1 z _=>?_;refine z.ld 0 (aS ?_);refine z.GU (x:=t.s) (BY _ (abq _ T.Me)) rfl rfl ?_;obtain⟨g1,g2⟩:=aB hx;refine G.RX z g1 g2 λa ks is nd=>?_;refine z.new λx5 h2 z _=>?_;refine z.st 0 (cs':=[Value.pointer (some a)]) λh3 z=>?_;have z:Z h0 h3 (.ar x5 [Value.pointer (some a)] fC::.ar x0 [Value.pointer (some (ak t.tb))] bB::(R++L)):=z;have memL:∀{o:bN},o∈L->o∈bN.ar x5 [Value.pointer (some a)] fC::.ar x0 [Value.pointer (some (ak t.tb))] bB::(R++L):=λh=>BY _ (BY _ (abq _ h));refine z.ld 1 (aS ?_);refine z.GU (x:=arr t.sb N.length) (memL T.Me) rfl rfl ?_;obtain⟨c,hcC⟩:=cP T.len hkr;refine Ji g1 hkr.2 ?_;cases c with
 |some e=>
  obtain⟨b,l⟩:=e;obtain⟨hl,hm⟩:=T.ok k b l hcC;refine z.GU (x:=arr b l.length) (memL T.F5) (Z9 hcC) rfl ?_;rw[By (by rfl)];refine z.ld 1 (aS ?_);refine z.GU (x:=arr t.sb N.length) (memL T.Me) rfl rfl ?_;refine Ji g1 hkr.2 ?_;refine z.GU (x:=arr b l.length) (memL T.F5) (Z9 hcC) rfl (af.2 ?_);subst hl;exact⟨b,L,by rw[fu hx],hm,⟨C,T⟩,.refl,z.drop.drop⟩
 |none=>
  refine z.GU (x:=pY) (memL T.F5) (Z9 hcC) rfl ?_;rw[AT (by simp)];refine z.ld 0 (aS ?_);refine (nd.fr z.fr).D6 ?_;have hlen:is.len=x.items.length:=nd.items.len;rw[hlen];refine z.MH (by omega) (by grind [cQ]) λb h4 z _=>?_;rw[OF] at z⊢;rw[pJ] at z;have z0:Z h0 h4 (.ar b (((iota x.items.length).take 0++List.replicate (x.items.length-0) 0).map vi) au::.ar x5 [Value.pointer (some a)] fC::.ar x0 [Value.pointer (some (ak t.tb))] bB::(R++L)):=by grind
  rw[ag];refine (ajI (by omega) k (ak x0) (ak x5) n 0 h4 _ (by omega) (by omega) z0).mono λ_ h5 z=>?_;refine z.ld 1 (aS ?_);refine (nd.fr z.fr).Od ?_;have store:∀(h:aj) (L:List bN) (C:List (Option (Nat×ε))) (l:ε),l=bM N k->Tab t N C L->Z h0 h (.ar b (l.map vi) au::.ar x5 [Value.pointer (some a)] fC::.ar x0 [Value.pointer (some (ak t.tb))] bB::(R++L)) ->
    Wp (sh (e9 .ptr (ak x0)) λ(x20:θ)=>sh (nn x20) λx21=>sh (e9 .sl (x21.plus 2)) λ(x22:Sl)=>sh (mT x22 k 1) λx23=>sh (sU x23 [aC (arr b x.items.length)]) λx24=>AI (arr b x.items.length)) h λr h'=>
     ∃b L',r=arr b x.items.length/\bN.ar b ((bM N k).map vi) au∈L'/\qh t N L'/\Ext L L'/\Z h0 h' (R++L'):=by
   intro h L C l hl T z;subst hl;refine z.ld 2 (aS ?_);refine z.GU (x:=arr t.sb N.length) (BY _ (BY _ (BY _ (abq _ T.Me)))) rfl rfl ?_;refine Ji g1 hkr.2 ?_;have hsp:aV (C.map cs) (k.toNat*1) [aC (arr b x.items.length)]=(C.set k.toNat (some (b,bM N k))).map cs:=by
    rw[adU,<-CI (by rw[T.len];grind)];simp[cs,fu hx]
   refine Z.stM (R:=.ar b ((bM N k).map vi) au::.ar x5 [Value.pointer (some a)] fC::.ar x0 [Value.pointer (some (ak t.tb))] bB::R) z T.F5 hsp (by rw[adR,T.len,adU];grind) rfl λi h' hi z=>af.2 ?_;obtain⟨T',E'⟩:=T.put (b:=b) hi hkr;refine⟨b,_,rfl,IS,⟨_,T'⟩,E',Z.perm (Z.sub z ?_) Bl⟩
   simp_all
  by_cases hk:x.kind=10
  .rw[By (by grind)];refine z.ld 1 (aS ?_);refine (nd.fr z.fr).ldO ?_;have hkl:=d.map (aq hx) hk;cases ho:x.ord with
   |true=>
    rw[Iu];have e:iota x.items.length=bM N k:=by
     grind [bM,iS]
    exact store h5 L C _ e T z
   |false=>
    rw[It];unfold lQ
    let cx:Cx:=⟨h0,b,x.items.length,Value.func (Fn.func jm) #[] #[Value.pointer (some (ak x0)),Value.pointer (some (ak x5))],fc+1,λLx=>∃L1,Lx=.ar x5 [Value.pointer (some a)] fC::.ar x0 [Value.pointer (some (ak t.tb))] bB::L1/\qh t N L1/\Ext L L1⟩
    have okc:cx.OK (Q4 cx.m λu v=>iT N (nth x.keys u) (nth x.keys v)):=by
     intro n u v h R2 Lx hn hu hu2 hv hv2 ⟨L1,e,T1,E1⟩ z;subst e;have hu2:u<(x.items.length:Int):=hu2;have hv2:v<(x.items.length:Int):=hv2;obtain⟨n,rfl⟩:∃n',n=n'+1:=⟨n-1,by grind⟩;have hn:fc+1<=n+1:=hn;show Wp (av (cl (n+1)) (n+1) (Value.func (Fn.func jm) #[] #[Value.pointer (some (ak x0)),Value.pointer (some (ak x5))]) u v) h _;unfold av;rw[By (by rfl),ag];refine kC (c:=((ak x0,ak x5):Addr×Addr)) rfl ?_;show Wp (mF (cl n) n u v (ak x0) (ak x5)) h _;unfold mF;have m5:bN.ar x5 [Value.pointer (some a)] fC∈R2++(.ar x5 [Value.pointer (some a)] fC::.ar x0 [Value.pointer (some (ak t.tb))] bB::L1):=abq _ IS;have m0:bN.ar x0 [Value.pointer (some (ak t.tb))] bB∈R2++(.ar x5 [Value.pointer (some a)] fC::.ar x0 [Value.pointer (some (ak t.tb))] bB::L1):=abq _ (BY _ IS);obtain⟨ku,hku⟩:=kB (l:=x.keys) hu (by omega);obtain⟨kv,hkv⟩:=kB (l:=x.keys) hv (by omega);have ndz:=nd.fr z.fr;refine z.GU m0 rfl rfl ?_;refine z.GU m5 rfl rfl (aS ?_);refine ndz.Jj (ndz.keys.ix hu (aB hku).2 λ_ _ c1=>c1.tn (l:=li) rfl rfl ?_);refine z.GU m0 rfl rfl ?_;refine z.GU m5 rfl rfl (aS ?_);refine ndz.Jj (ndz.keys.ix hv (aB hkv).2 λ_ _ c1=>c1.tn (l:=li) rfl rfl ?_);rw[ag];have z2:Z h0 h ((R2++[.ar x5 [Value.pointer (some a)] fC,.ar x0 [Value.pointer (some (ak t.tb))] bB])++L1):=(by grind);refine (hc ku (aq hku) kv (aq hkv) n h _ L1 (by omega) T1 z2).mono λr h' hr=>af.2 ?_;obtain⟨rfl,L2,T2,E2,z3⟩:=hr;refine⟨?_,_,⟨L2,rfl,T2,E1.trans E2⟩,by grind⟩
     grind [Q4,nth]
    have st:cx.St R h5 (iota cx.m):=by
     refine⟨_,⟨L,rfl,⟨C,T⟩,.refl⟩,?_⟩;refine Z.perm z (List.Perm.cons _ ?_);exact (List.Perm.cons _ Bl).trans Bl
    rw[ag];refine (ajH (cv:=λu v=>iT N (nth x.keys u) (nth x.keys v)) (c:=cx) (hsm hk) okc (by grind) st).mono λ_ h6 hs=>?_;obtain⟨Lx,⟨L1,rfl,⟨C1,T1⟩,E1⟩,z6⟩:=hs;have z6:Z h0 h6 (.ar b ((F5 (λu v=>iT N (nth x.keys u) (nth x.keys v)) x.items.length).map vi) au::.ar x5 [Value.pointer (some a)] fC::.ar x0 [Value.pointer (some (ak t.tb))] bB::(R++L1)):=by
     refine Z.perm z6 (List.Perm.cons _ ?_);exact ((List.Perm.cons _ Bl).trans Bl).symm
    have e:F5 (λu v=>iT N (nth x.keys u) (nth x.keys v)) x.items.length=bM N k:=by
     unfold bM iS;grind
    exact (store h6 L1 C1 _ e T1 z6).mono λr h7 hr=>by
     obtain⟨b',L',q1,q2,q3,q4,q5⟩:=hr;exact⟨b',L',q1,q2,q3,E1.trans q4,q5⟩
  .rw[AT (by grind)];have e:iota x.items.length=bM N k:=by
    grind [bM,iS]
   exact store h5 L C _ e T z
end Go.Sh
namespace Go.Sh
open Go Go.Ago Go.Proofs
variable {α β:Type}{h h' h0:aj}{L R:List bN}{N:List al}{root:Int}{B:Nat}{Q:β->aj->Prop}
def Mc {c}{a v}(hg:gt c a=some v):(c.map vi)[a.toNat*1]?=some (vi v):=by
 rw[adU,abi,(aB hg).2];rfl
def BF {c:ε}{i:Nat}{v}(hg:gt c (i:Int)=some v):c.drop i=v::c.drop (i+1):=by
 have:=(aB hg).2
 grind [Int.toNat_natCast,drop_cons]
def ajJ {t}{fc}{x y}{a a'}{ks is ks' is'}(nd:FY h0 a x ks is)(nd':FY h0 a' y ks' is'){bp bq}{p q:ε}
  (hp:∀u∈p,0<=u/\u<x.items.length/\(x.kind=10->u<x.keys.length)) (hq:∀u∈q,0<=u/\u<y.items.length/\(x.kind=10->u<y.keys.length)) (hbig:p.length<1073741824)
  (hc:∀u,u∈x.keys\/u∈x.items->∀v,v∈y.keys\/v∈y.items->Wd h0 t N fc u v):∀n i h R L ,fc+(min p.length q.length-i)+1<=n->i<=min p.length q.length->bN.ar bp (p.map vi) au∈L->bN.ar bq (q.map vi) au∈L->qh t N L->Z h0 h (R++L) ->
  Wp ((cl n).jD (some (ak t.tb)) (some (ak t.tb)) none (some a) (some a') (arr bp p.length) (arr bq q.length) ((min p.length q.length:Nat):Int) (i:Int)) h λr h'=>
   r=(match Bj (iT N) x y (p.drop i) (q.drop i) with|some c=>.inr c|none=>.inl ())/\∃L',qh t N L'/\Ext L L'/\Z h0 h' (R++L'):=by
 intro n
 induction n with
 |zero=>intro i h R L h1;omega
 |succ n ih=>
  intro i h R L h1 h2 mp mq T z;show Wp (sB (cl n) n (some (ak t.tb)) (some (ak t.tb)) none (some a) (some a') (arr bp p.length) (arr bq q.length) ((min p.length q.length:Nat):Int) (i:Int)) h _;unfold sB;by_cases hi:i<min p.length q.length
  .rw[By (by grind)];obtain⟨u,hu⟩:=kB (l:=p) (v:=(i:Int)) (by omega) (by omega);obtain⟨v,hv⟩:=kB (l:=q) (v:=(i:Int)) (by omega) (by omega);obtain⟨u1,u2,u3⟩:=hp u (aq hu);obtain⟨v1,v2,v3⟩:=hq v (aq hv);rw[BF hu,BF hv];obtain⟨iu,hiu⟩:=kB u1 u2;obtain⟨iv,hiv⟩:=kB v1 v2;have next:∀(h:aj) (L:List bN),iT N iu iv=0->bN.ar bp (p.map vi) au∈L->bN.ar bq (q.map vi) au∈L->qh t N L->Z h0 h (R++L) ->
     Wp ((cl n).jD (some (ak t.tb)) (some (ak t.tb)) none (some a) (some a') (arr bp p.length) (arr bq q.length) ((min p.length q.length:Nat):Int) (IntKind.i64.wrap ((i:Int)+1))) h λr h'=>
      r=(match Bj (iT N) x y (p.drop (i+1)) (q.drop (i+1)) with|some c=>.inr c|none=>.inl ())/\∃L',qh t N L'/\Ext L L'/\Z h0 h' (R++L'):=by
    intro h L _ mp mq T z;rw[w3 (by omega) hbig];exact ih (i+1) h R L (by omega) (by omega) mp mq T z
   have J0:∀(h:aj) (L:List bN),(x.kind=10->iT N (nth x.keys u) (nth y.keys v)=0)->bN.ar bp (p.map vi) au∈L->bN.ar bq (q.map vi) au∈L->qh t N L->Z h0 h (R++L) ->
     Wp (jf (cl n) n (some (ak t.tb)) (some (ak t.tb)) none (some a) (some a') (arr bp p.length) (arr bq q.length) (i:Int) ((min p.length q.length:Nat):Int) (i:Int)) h λr h'=>
      r=(match Bj (iT N) x y (u::p.drop (i+1)) (v::q.drop (i+1)) with|some c=>.inr c|none=>.inl ())/\∃L',qh t N L'/\Ext L L'/\Z h0 h' (R++L'):=by
    intro h L hk mp mq T z;unfold jf;refine aS (Ji (by omega) (by omega) (aS (Ji (by omega) (by omega) ?_)));have ndz:=nd.fr z.fr;have ndz':=nd'.fr z.fr;refine ndz.D6 ?_;refine z.GU (abq _ mp) (Mc hu) rfl ?_;refine ndz.items.ix u1 (aB hiu).2 λ_ _ c1=>c1.tn (l:=li) rfl rfl ?_;refine ndz'.D6 ?_;refine z.GU (abq _ mq) (Mc hv) rfl ?_;refine ndz'.items.ix v1 (aB hiv).2 λ_ _ c1=>c1.tn (l:=li) rfl rfl ?_;rw[ag];refine (hc iu (.inr (aq hiu)) iv (.inr (aq hiv)) n h R L (by omega) T z).mono λr h' hr=>?_;obtain⟨rfl,L',T',E',z'⟩:=hr;have e1:nth x.items u=iu:=(by grind [nth]);have e2:nth y.items v=iv:=(by grind [nth]);have eq:Bj (iT N) x y (u::p.drop (i+1)) (v::q.drop (i+1))=if iT N iu iv≠0 then some (iT N iu iv) else Bj (iT N) x y (p.drop (i+1)) (q.drop (i+1)):=by
     conv=>lhs;unfold Bj
     grind
    rw[eq];by_cases h0':iT N iu iv=0
    .rw[AT (by grind),AT (show ¬(iT N iu iv≠0) from λe=>e h0')];exact (next h' L' h0' (E' _ _ mp) (E' _ _ mq) T' z').mono λr h2 hr=>⟨hr.1,by obtain⟨L2,t2,e2,z2⟩:=hr.2;exact⟨L2,t2,E'.trans e2,z2⟩⟩
    .rw[By (by grind),By h0'];exact af.2 ⟨rfl,L',T',E',z'⟩
   refine aS ?_;refine (nd.fr z.fr).Od ?_;by_cases hk:x.kind=10
   .rw[By (by grind)];refine aS (Ji (by omega) (by omega) (aS (Ji (by omega) (by omega) ?_)));have ndz:=nd.fr z.fr;have ndz':=nd'.fr z.fr;obtain⟨ku,hku⟩:=kB u1 (u3 hk);obtain⟨kv,hkv⟩:=kB v1 (v3 hk);refine ndz.Jj ?_;refine z.GU (abq _ mp) (Mc hu) rfl ?_;refine ndz.keys.ix u1 (aB hku).2 λ_ _ c1=>c1.tn (l:=li) rfl rfl ?_;refine ndz'.Jj ?_;refine z.GU (abq _ mq) (Mc hv) rfl ?_;refine ndz'.keys.ix v1 (aB hkv).2 λ_ _ c1=>c1.tn (l:=li) rfl rfl ?_;rw[ag];refine (hc ku (.inl (aq hku)) kv (.inl (aq hkv)) n h R L (by omega) T z).mono λr h' hr=>?_;obtain⟨rfl,L',T',E',z'⟩:=hr;have e1:nth x.keys u=ku:=(by unfold nth;grind);have e2:nth y.keys v=kv:=(by unfold nth;grind);by_cases h0':iT N ku kv=0
    .rw[AT (by grind)];exact (J0 h' L' (λ_=>by grind) (E' _ _ mp) (E' _ _ mq) T' z').mono λr h2 hr=>⟨hr.1,by obtain⟨L2,t2,e2,z2⟩:=hr.2;exact⟨L2,t2,E'.trans e2,z2⟩⟩
    .rw[By (by grind)];unfold Bj;rw[e1,e2,By ⟨hk,h0'⟩];exact af.2 ⟨rfl,L',T',E',z'⟩
   .rw[AT (by grind)];exact J0 h L (λe=>absurd e hk) mp mq T z
  .rw[AT (by grind)];refine af.2 ⟨?_,L,T,.refl,z⟩;have:p.drop i=[]\/q.drop i=[]:=by
    grind
   rcases this with e|e
   .rw[e];cases q.drop i<;>rfl
   .rw[e];cases p.drop i<;>rfl
theorem ajK {t}(G:lJ h0 t.s N)(d:Vd N root)(hB:Bd N B)(ht:∀x∈N,x.text.size<=65536){fc fe}{i j}{x y}(hx:gt N i=some x)(hy:gt N j=some y)(hi:KN N i)(hj:KN N j)
  (hfe:65600<=fe) (hfc:fc+B<=fe) (ei:Z8 h0 t N fe i x.items.length) (ej:Z8 h0 t N fe j y.items.length) (hc:∀u,u∈x.keys\/u∈x.items->∀v,v∈y.keys\/v∈y.items->Wd h0 t N fc u v):Wd h0 t N (fe+10) i j:=by
 intro n h R L hn T z;have hBB:=hB.2.1;obtain⟨n,rfl⟩:∃n',n=n'+2:=⟨n-2,by omega⟩;show Wp (u9 (cl (n+1)) (n+1) (some (ak t.tb)) i (some (ak t.tb)) j none) h _;unfold u9;rw[ag];refine⟨((false,0):Bool×Int),h,rfl,?_⟩;show Wp (sh ((cl (n+1)).sC (some (ak t.tb)) i (some (ak t.tb)) j none) _) h _;rw[ag];rw[adP d hi hj hx hy];have main:Wp (wG (cl n) n (some (ak t.tb)) i (some (ak t.tb)) j none) h λr h'=>r=Ep (iT N) x y/\∃L',qh t N L'/\Ext L L'/\Z h0 h' (R++L'):=by
  unfold wG Ep;obtain⟨C,TC⟩:=T;have tabm:=abq R TC.Me;refine aS (aS ?_);refine z.GU (x:=t.s) tabm rfl rfl ?_;refine G.RX z (aB hx).1 (aB hx).2 λa ks is nd=>?_;refine z.GU (x:=t.s) tabm rfl rfl ?_;refine G.RX z (aB hy).1 (aB hy).2 λa' ks' is' nd'=>?_;have ndz:=nd.fr z.fr;have ndz':=nd'.fr z.fr;refine aS (aS (ndz.Od (ndz'.Od ?_)));by_cases c1:x.kind<y.kind
  .rw[By (by grind),By c1];exact af.2 ⟨rfl,L,⟨C,TC⟩,.refl,z⟩
  rw[AT (by grind),AT c1];refine aS (aS (ndz.Od (ndz'.Od ?_)));by_cases c2:y.kind<x.kind
  .rw[By (by grind),By c2];exact af.2 ⟨rfl,L,⟨C,TC⟩,.refl,z⟩
  rw[AT (by grind),AT c2];have hk:x.kind=y.kind:=by omega
  refine aS (aS (ndz.ldO (ndz'.ldO ?_)));by_cases c3:x.ord=y.ord
  .rw[AT (by grind),AT (by grind)];refine aS (aS (aS (ndz.Od (ndz.I4 (ndz'.I4 ?_)))));have hsx:=ht x (aq hx);have hsy:=ht y (aq hy);refine z.call (Z6 hsx hsy (by omega) z.wf) λr h1 hr f1 z1=>?_;subst hr;by_cases c4:vL x.kind x.text y.text=0
   .rw[AT (by grind),AT (by grind)];rw[ag];refine (ei n h1 R L (by omega) ⟨C,TC⟩ z1).mono λr h2 hr=>?_;obtain⟨bp,L1,rfl,mp,T1,E1,z2⟩:=hr;rw[ag];refine (ej n h2 R L1 (by omega) T1 z2).mono λr h3 hr=>?_;obtain⟨bq,L2,rfl,mq,T2,E2,z3⟩:=hr;have lp:=fu hx;have lq:=fu hy;have hbx:=(hB.2.2 x (aq hx)).2;have hby:=(hB.2.2 y (aq hy)).2;have em:(if ((arr bq y.items.length).len:Int)<((arr bp x.items.length).len:Int) then ((arr bq y.items.length).len:Int) else ((arr bp x.items.length).len:Int))=((min (bM N i).length (bM N j).length:Nat):Int):=by
     rw[lp,lq];show (if (y.items.length:Int)<(x.items.length:Int) then (y.items.length:Int) else (x.items.length:Int))=_
     grind
    rw[em];rw[ag];have ox:bM N i=iS (iT N) x:=(by grind [bM]);have oy:bM N j=iS (iT N) y:=(by grind [bM]);have key:=ajJ nd nd' (λu hu=>by
      rw[ox] at hu;have:=dP hu;exact⟨this.1,this.2,λe=>by rw[d.map (aq hx) e];grind⟩) (λu hu=>by
      rw[oy] at hu;have:=dP hu;exact⟨this.1,this.2,λe=>by rw[d.map (aq hy) (hk▸e)];grind⟩) (by omega) hc n 0 h3 R L2 (by omega) (by omega) (E2 _ _ mp) mq T2 z3
    rw[lp,lq] at key;rw[lp,lq];refine key.mono λr h4 hr=>?_;obtain⟨hr,L3,T3,E3,z4⟩:=hr;rw[akc,akc,ox,oy] at hr;have fin:∃L',qh t N L'/\Ext L L'/\Z h0 h4 (R++L'):=⟨L3,T3,(E1.trans E2).trans E3,z4⟩;cases hd:Bj (iT N) x y (iS (iT N) x) (iS (iT N) y) with
    |some c=>rw[hd] at hr;subst hr;exact af.2 ⟨rfl,fin⟩
    |none=>
     rw[hd] at hr;subst hr;show Wp (if decide ((x.items.length:Int)<(y.items.length:Int))=true then AI (-1) else if decide ((y.items.length:Int)<(x.items.length:Int))=true then AI 1 else AI 0) h4 _;by_cases l1:x.items.length<y.items.length
     .rw[By (by grind)];simp[By l1];exact af.2 ⟨rfl,fin⟩
     .rw[AT (by grind)];simp only[AT l1];by_cases l2:y.items.length<x.items.length
      .rw[By (by grind)];simp[By l2];exact af.2 ⟨rfl,fin⟩
      .rw[AT (by grind)];simp[AT l2];exact af.2 ⟨rfl,fin⟩
   .rw[By (by grind),By c4];exact af.2 ⟨rfl,L,⟨C,TC⟩,.refl,z1⟩
  .rw[By (by grind),By c3];refine aS (ndz'.ldO ?_);cases y.ord
   .exact af.2 ⟨rfl,L,⟨C,TC⟩,.refl,z⟩
   .exact af.2 ⟨rfl,L,⟨C,TC⟩,.refl,z⟩
 refine main.mono λr h1 hr=>?_;rw[AT (by simp)];exact af.2 hr
def fuC (B d:Nat):Nat:=66000+d*(2*B+800)
theorem adS {t}(G:lJ h0 t.s N)(d:Vd N root)(hB:Bd N B)(ht:∀x∈N,x.text.size<=65536)(hsm:∀x∈N,x.kind=10->x.items.length<50){H:Int->Nat}(hH:∀u v,KN N v->Edge N u v->H v<H u) :
  ∀e ,(∀i j,KN N i->KN N j->H i<e->H j<e->Wd h0 t N (fuC B e) i j)/\∀k x,gt N k=some x->H k<=e->Z8 h0 t N (fuC B e+700+B) k x.items.length:=by
 intro e
 induction e with
 |zero=>
  refine⟨λi j _ _ h1=>absurd h1 (by omega),λk x hx hk=>aaa G d hB hx (hsm x (aq hx)) λu hu v hv=>?_⟩;have:=hH k u (.key (aq hx) hu) ⟨x,hx,.inl hu⟩;omega
 |succ e ih=>
  have cmp:∀i j,KN N i->KN N j->H i<e+1->H j<e+1->Wd h0 t N (fuC B (e+1)) i j:=λi j hi hj h1 h2=>by
   obtain⟨x,hx⟩:=cP rfl (hi.ir d.ix);obtain⟨y,hy⟩:=cP rfl (hj.ir d.ix);have:=ajK G d hB ht hx hy hi hj (fc:=fuC B e) (by grind [fuC]) (by omega) (ih.2 i x hx (by omega)) (ih.2 j y hy (by omega)) λu hu v hv=>by
    have eu:Edge N i u:=⟨x,hx,hu⟩;have ev:Edge N j v:=⟨y,hy,hv⟩;have q1:=hH i u (.step hi eu) eu;have q2:=hH j v (.step hj ev) ev;exact ih.1 u v (.step hi eu) (.step hj ev) (by omega) (by omega)
   intro n h R L hn T z;refine this n h R L ?_ T z
   grind [fuC]
  refine⟨cmp,λk x hx hk=>?_⟩;refine aaa G d hB hx (hsm x (aq hx)) λu hu v hv=>?_;have q1:=hH k u (.key (aq hx) hu) ⟨x,hx,.inl hu⟩;have q2:=hH k v (.key (aq hx) hv) ⟨x,hx,.inl hv⟩;exact cmp u v (.key (aq hx) hu) (.key (aq hx) hv) (by omega) (by omega)
def fuE (B:Nat):Nat:=fuC B B+700+B
theorem Iz {t}(G:lJ h0 t.s N)(d:Vd N root)(hB:Bd N B)(ht:∀x∈N,x.text.size<=65536)(hsm:∀x∈N,x.kind=10->x.items.length<50){k}{x}(hx:gt N k=some x):Z8 h0 t N (fuE B) k x.items.length:=by
 obtain⟨H,hH1,hH2⟩:=d.L9;have h1:=(adS G d hB ht hsm hH2 N.length).2 k x hx (hH1 k);intro n h R L hn T z;refine h1 n h R L ?_ T z;have h2:fuC B N.length<=fuC B B:=Nat.add_le_add_left (aep _ hB.1) _
 grind [fuE]
end Go.Sh
namespace Go.Ago
open Go
variable {α β:Type}{h h' h0:aj}{L:List bN}
def Z.Q6 (z:Z h0 h L) i {st}{s}{sz n}{e}{cs new}{g}{f:Sl->M β}{Q}(hi:L[i]?=some (.sl s sz e cs g))(hn:n≠0)(hl:new.length=n*sz)(hb:s.len+n<=cQ)
  (q:∀s' h' g',s'.len=s.len+n->Z h0 h' (L.set i (.sl s' sz e (cs++new) g'))->Fr (·=g) h h'->Wp (f s') h' Q):Wp (sh (Ago.app st s sz e n new) f) h Q:=by
 rw[ag];have o:uQ h s sz e cs g:=z.get i hi;refine o.app z.wf hn hl hb λs' h' g' h1 hcap h2 h3 h4=>q s' h' g' h1 ?_ h4;by_cases hg:g=0
 .have h3:=h3.resolve_left (λx=>x.2 hg);have f0:Fr (λ_=>False) h h':=⟨h4.wf,h4.next,λj c g2 b e2 hj _=>h4.cells j c g2 b e2 hj λe3=>by grind,λg2 h5 _=>h4.ot g2 h5 λe3=>by grind,h4.used,h4.none,λj x hj _=>h4.maps j x hj (by omega)⟩
  have z1:=z.add f0 (o:=.sl s' sz e (cs++new) g') h2 (.inr (by simp[bN.iL];omega));refine⟨z1.Ls,z1.fr,λx hx=>z1.own x ?_,EW rO (List.pairwise_cons.1 z1.wU).2 λj y hj hne e2=>(List.pairwise_cons.1 z1.wU).1 y (IN hj) e2⟩
  grind
 .refine z.vN hi hg h4 h2 ?_
  grind [bN.iL]
theorem Z.oM (z:Z h0 h L) i {m}{kt}{fn}{n}{k v}{f:Unit->M β}{Q}(hi:L[i]?=some (.map m kt fn n))
  (q:∀h' n',Z h0 h' (L.set i (.map m kt (zT fn k v) n'))->Wp (f ()) h' Q):Wp (sh (FG kt (some m) k v) f) h Q:=by
 rw[ag];exact MB.amo (z.get i hi) z.wf λh' l fr=>q h' _ (z.vN hi (by simp[bN.iL]) fr l (.inl rfl))
end Go.Ago
namespace Go.Sh
open Go Go.Ago Go.Proofs
variable {N:List al}{root:Int}{B:Nat}
structure NS where
 at':ε
 kW:Nat
 out:List al
def oF (F:Int->NS->Option (Int×NS))(x:al):ε->NS->Option ((ε×ε)×NS)
 |[],S=>some (([],[]),S)
 |k::r,S=>if x.kind=10 then (match F (nth x.keys k) S with
   |none=>none
   |some (a,S1)=>match F (nth x.items k) S1 with
    |none=>none
    |some (b,S2)=>match oF F x r S2 with
     |none=>none
     |some ((ks,is),S3)=>some ((a::ks,b::is),S3))
  else match F (nth x.items k) S with
   |none=>none
   |some (b,S2)=>match oF F x r S2 with
    |none=>none
    |some ((ks,is),S3)=>some ((ks,b::is),S3)
noncomputable def nv (N:List al):Nat->Int->NS->Option (Int×NS)
 |0,_,_=>none
 |f+1,k,S=>match gt S.at' k,gt N k with
  |some v,some x=>if 0<=v then some (v,S) else match oF (nv N f) x (bM N k) ⟨S.at'.set k.toNat S.kW,S.kW+1,S.out⟩ with
   |none=>none
   |some ((ks,is),S2)=>some ((S.kW:Int),⟨S2.at',S2.kW,S2.out.set S.kW ⟨x.kind,x.text,x.ord,ks,is⟩⟩)
  |_,_=>none
def nd0:al:=⟨0,ofBytes [],false,[],[]⟩
def We (m:Nat):NS:=⟨List.replicate m (-1),0,List.replicate m nd0⟩
noncomputable def oO (N:List al)(root:Int):List al:=match nv N (N.length+1) root (We N.length) with
 |some (_,S)=>S.out
 |none=>[]
def neg (l:ε):Nat:=l.countP (λv=>decide (v<0))
def Md:∀{l} {i} {v w},l[i]?=some v->v<0->0<=w->neg (l.set i w)+1=neg l
 |[],i,v,w,h,_,_=>by simp at h
 |a::l,0,v,w,h,h1,h2=>by
  grind [neg]
 |a::l,i+1,v,w,h,h1,h2=>by
  grind [neg]
def neg_pos {l}{i:Nat}{v}(h:l[i]?=some v)(hv:v<0):0<neg l:=by
 grind [neg,List.countP_pos_iff,List.mem_of_getElem?]
def alq (N:List al)(m:Nat)(y:al):Prop:=y=nd0\/∃x∈N,y.kind=x.kind/\y.text=x.text/\y.ord=x.ord/\y.items.length=x.items.length/\y.keys.length=x.keys.length/\(∀v∈y.keys,IR m v)/\∀v∈y.items,IR m v
structure Fw (N:List al) (S:NS):Prop where
 la:S.at'.length=N.length
 lo:S.out.length=N.length
 le:∀v∈S.at',v<(S.kW:Int)
 sum:neg S.at'+S.kW=N.length
 fr:∀y∈S.out,alq N N.length y
def Fw.cle {S}(o:Fw N S):S.kW<=N.length:=by have:=o.sum;omega
def zB {F}{x}{n}(hF:∀k S,Fw N S->neg S.at'<=n->IR N.length k->∃v S',F k S=some (v,S')/\Fw N S'/\neg S'.at'<=neg S.at'/\IR N.length v)
  (hk:x.kind=10->x.keys.length=x.items.length) (hI:(∀v∈x.keys,IR N.length v)/\∀v∈x.items,IR N.length v):∀(l:ε) S ,(∀a∈l,0<=a/\a<x.items.length)->Fw N S->neg S.at'<=n ->
   ∃ks is S',oF F x l S=some ((ks,is),S')/\Fw N S'/\neg S'.at'<=neg S.at'/\is.length=l.length/\ks.length=(if x.kind=10 then l.length else 0)/\(∀v∈ks,IR N.length v)/\∀v∈is,IR N.length v
 |[],S,_,o,hn=>⟨[],[],S,rfl,o,aao _,rfl,by simp,by simp,by simp⟩
 |a::l,S,ha,o,hn=>by
  obtain⟨a1,a2⟩:=ha a IS;unfold oF;by_cases hx:x.kind=10
  .rw[By hx];obtain⟨v,S1,e1,o1,n1,r1⟩:=hF (nth x.keys a) S o hn (hI.1 _ (aY a1 (by grind)));rw[e1];obtain⟨w,S2,e2,o2,n2,r2⟩:=hF (nth x.items a) S1 o1 (by omega) (hI.2 _ (aY a1 a2));simp only[e2];obtain⟨ks,is,S3,e3,o3,n3,l1,l2,q1,q2⟩:=zB hF hk hI l S2 (λb hb=>ha b (BY _ hb)) o2 (by omega);simp only[e3];refine⟨v::ks,w::is,S3,rfl,o3,by omega,by simp[l1],by grind,λu hu=>?_,λu hu=>?_⟩
   .grind
   grind
  .rw[AT hx];obtain⟨w,S2,e2,o2,n2,r2⟩:=hF (nth x.items a) S o hn (hI.2 _ (aY a1 a2));simp only[e2];obtain⟨ks,is,S3,e3,o3,n3,l1,l2,q1,q2⟩:=zB hF hk hI l S2 (λb hb=>ha b (BY _ hb)) o2 (by omega);simp only[e3];refine⟨ks,w::is,S3,rfl,o3,by omega,by simp[l1],by grind,q1,λu hu=>?_⟩
   grind
def Es {γ:Type}{l:List γ}{i}{x y}(h:y∈l.set i x):y∈l\/y=x:=by
 grind
def IA (d:Vd N root):∀f k S ,Fw N S->neg S.at'<f->IR N.length k->∃v S',nv N f k S=some (v,S')/\Fw N S'/\neg S'.at'<=neg S.at'/\IR N.length v:=by
 intro f
 induction f with
 |zero=>grind
 |succ f ih=>
  intro k S o hf hk;obtain⟨v,hv⟩:=cP o.la hk;obtain⟨x,hx⟩:=cP rfl hk;unfold nv;rw[hv,hx];simp;have hlt:=o.le v (aq hv);have hcl:=o.cle;by_cases h0:0<=v
  .rw[By h0];exact⟨v,S,rfl,o,aao _,h0,by omega⟩
  .rw[AT h0];have hn:=Md (aB hv).2 (w:=(S.kW:Int)) (by omega) (by omega);have hp:=neg_pos (aB hv).2 (by omega);have hsum:=o.sum;have o1:Fw N ⟨S.at'.set k.toNat S.kW,S.kW+1,S.out⟩:=⟨by rw[ajq];exact o.la,o.lo,λw hw=>by
    rcases Es hw with hw|rfl
    .have:=o.le w hw
     grind
    grind,by grind,o.fr⟩
   have hord:bM N k=iS (iT N) x:=by grind [bM]
   obtain⟨ks,is,S2,e2,o2,n2,l1,l2,q1,q2⟩:=zB (n:=f-1) (λk S o hn hk=>ih k S o (by omega) hk) (d.map (aq hx)) (d.ix x (aq hx)) (bM N k) _ (λa ha=>by rw[hord] at ha;exact dP ha) o1 (by grind);rw[e2];simp only at n2⊢;refine⟨_,_,rfl,⟨o2.la,by rw[ajq];exact o2.lo,o2.le,o2.sum,λy hy=>?_⟩,by grind,by omega,by omega⟩;rcases Es hy with hy|rfl
   .exact o2.fr y hy
   .refine .inr ⟨x,aq hx,rfl,rfl,rfl,by grind [fu],?_,q1,q2⟩;show ks.length=_;rw[l2,fu hx];by_cases h10:x.kind=10
    .rw[By h10,d.map (aq hx) h10]
    .rw[AT h10,d.keys (aq hx) h10];rfl
def GW m:neg (List.replicate m (-1))=m:=by
 grind [neg,List.countP_replicate]
def Q7:Fw N (We N.length):=⟨by simp[We],by simp[We],λv hv=>by
 have:=agi hv
 grind,by show neg (List.replicate _ _)+0=_;rw[GW];rfl,λy hy=>.inl (agi hy)⟩
def GX (d:Vd N root):∃v S,nv N (N.length+1) root (We N.length)=some (v,S)/\oO N root=S.out/\Fw N S/\IR N.length v:=by
 obtain⟨v,S,e,o,_,r⟩:=IA d (N.length+1) root (We N.length) Q7 (by show neg (List.replicate _ _)<_;rw[GW];omega) d.rt
 grind [oO]
def sR (d:Vd N root):(oO N root).length=N.length:=by
 obtain⟨v,S,_,e,o,_⟩:=GX d;rw[e];exact o.lo
def BG (d:Vd N root){y}(hy:y∈oO N root):alq N N.length y:=by
 obtain⟨v,S,_,e,o,_⟩:=GX d;rw[e] at hy;exact o.fr y hy
def GY (d:Vd N root):jE (oO N root) (oO N root).length:=λy hy=>by
 rw[sR d];rcases BG d hy with rfl|⟨x,_,_,_,_,_,_,h1,h2⟩
 .grind [nd0]
 grind
def OS (d:Vd N root){y}(hy:y∈oO N root):y.keys.length=(if y.kind=10 then y.items.length else 0):=by
 rcases BG d hy with rfl|⟨x,hx,h1,_,_,h4,h5,_⟩
 .rfl
 .rw[h5,h1,h4];by_cases h10:x.kind=10
  .rw[By h10,d.map hx h10]
  .rw[AT h10,d.keys hx h10];rfl
def adT (d:Vd N root)(hB:Bd N B):Bd (oO N root) B:=⟨by rw[sR d];exact hB.1,hB.2.1,λy hy=>by
 rcases BG d hy with rfl|⟨x,hx,_,_,_,h4,h5,_⟩
 .exact⟨aku _,aku _⟩
 .rw[h4,h5];exact hB.2.2 x hx⟩
end Go.Sh
namespace Go.Sh
open Go Go.Ago Go.Proofs
variable {N:List al}{root:Int}{S S1 S2 S':NS}
def BH (S:NS)(u:Int):Int:=(gt S.at' u).getD 0
def JE (S:NS)(u:Int):Prop:=∃a,gt S.at' u=some a/\0<=a
theorem JE.gt {u}(h:JE S u):gt S.at' u=some (BH S u)/\0<=BH S u:=by
 obtain⟨a,h1,h2⟩:=h
 grind [BH]
def OT (N:List al)(S:NS)(u:Int):Prop:=∃x,Sh.gt N u=some x/\JE S u/\(∀c,Edge N u c->JE S c) /\
 Sh.gt S.out (BH S u)=some ⟨x.kind,x.text,x.ord,if x.kind=10 then (bM N u).map (λa=>BH S (nth x.keys a)) else [],(bM N u).map (λa=>BH S (nth x.items a))⟩
def Wf (S:NS):Prop:=∀u w a,Sh.gt S.at' u=some a->Sh.gt S.at' w=some a->0<=a->u=w
structure NX (N:List al) (S S':NS):Prop where
 ok:Fw N S'
 ng:neg S'.at'<=neg S.at'
 inj:Wf S'
 ext:∀u a,Sh.gt S.at' u=some a->0<=a->Sh.gt S'.at' u=some a
 xW:∀j,j<S.kW->S'.out[j]?=S.out[j]?
 kW:S.kW<=S'.kW
 new:∀u,JE S' u->JE S u\/OT N S' u
def NX.num (h:NX N S S'){u}(hu:JE S u):JE S' u/\BH S' u=BH S u:=by
 obtain⟨h1,h2⟩:=hu.gt;have:=h.ext u _ h1 h2;exact⟨⟨_,this,h2⟩,by grind [BH]⟩
def Kf {u}{x}(hx:gt N u=some x)(hm:kJ x){a}(ha:a∈bM N u):nth x.items a∈x.items/\(x.kind=10->nth x.keys a∈x.keys):=by
 have ho:bM N u=iS (iT N) x:=by grind [bM]
 rw[ho] at ha;obtain⟨h1,h2⟩:=dP ha;exact⟨aY h1 h2,λhk=>aY h1 (by rw[hm hk];exact h2)⟩
def OT.mono (d:Vd N root)(ok:Fw N S)(h:NX N S S'){u}(o:OT N S u):OT N S' u:=by
 obtain⟨x,hx,hu,hc,hy⟩:=o;obtain⟨n1,n2⟩:=h.num hu;obtain⟨g1,g2⟩:=hu.gt;have ce:∀c,Edge N u c->BH S' c=BH S c:=λc e=>(h.num (hc c e)).2;refine⟨x,hx,n1,λc e=>(h.num (hc c e)).1,?_⟩;have e1:(bM N u).map (λa=>BH S' (nth x.items a))=(bM N u).map (λa=>BH S (nth x.items a)):=amP λa ha=>ce _ ⟨x,hx,.inr (Kf hx (d.map (aq hx)) ha).1⟩;rw[n2,e1];have e2:(if x.kind=10 then (bM N u).map (λa=>BH S' (nth x.keys a)) else [])=if x.kind=10 then (bM N u).map (λa=>BH S (nth x.keys a)) else []:=by
  by_cases hk:x.kind=10
  .rw[By hk,By hk];exact amP λa ha=>ce _ ⟨x,hx,.inl ((Kf hx (d.map (aq hx)) ha).2 hk)⟩
  grind
 rw[e2,<-hy];have hlt:=ok.le _ (aq g1);unfold Sh.gt;rw[By g2,By g2];exact h.xW _ (by omega)
def NX.refl (ok:Fw N S)(inj:Wf S):NX N S S:=⟨ok,aao _,inj,λ_ _ h _=>h,λ_ _=>rfl,aao _,λ_ h=>.inl h⟩
theorem NX.trans (d:Vd N root)(h:NX N S S1)(h':NX N S1 S2):NX N S S2:=
 ⟨h'.ok,abt h'.ng h.ng,h'.inj,λu a h1 h2=>h'.ext u a (h.ext u a h1 h2) h2,λj hj=>(h'.xW j (aky hj h.kW)).trans (h.xW j hj),abt h.kW h'.kW,λu hu=>by
  rcases h'.new u hu with q|q
  .rcases h.new u q with q|q
   .grind
   .exact .inr (q.mono d h.ok h')
  grind⟩
theorem IB (d:Vd N root){f}{x}(hx:x∈N)(hF:∀k S v S',Fw N S->Wf S->neg S.at'<f->IR N.length k->nv N f k S=some (v,S')->NX N S S'/\gt S'.at' k=some v/\0<=v) :
  ∀(l:ε) S ks is S' ,(∀a∈l,0<=a/\a<x.items.length)->Fw N S->Wf S->neg S.at'<f->oF (nv N f) x l S=some ((ks,is),S') ->
   NX N S S'/\is=l.map (λa=>BH S' (nth x.items a))/\(ks=if x.kind=10 then l.map (λa=>BH S' (nth x.keys a)) else [])/\∀a∈l,JE S' (nth x.items a)/\(x.kind=10->JE S' (nth x.keys a))
 |[],S,ks,is,S',_,ok,inj,_,h=>by
  cases h;exact⟨.refl ok inj,rfl,by simp,λa ha=>(by cases ha)⟩
 |a::l,S,ks,is,S',hl,ok,inj,hn,h=>by
  obtain⟨a1,a2⟩:=hl a IS;have hI:=d.ix x hx;have one:∀{k v:Int} {T T':NS},gt T.at' k=some v->0<=v->NX N T T'->JE T' k/\v=BH T' k:=λh1 h2 h3=>by
   have:=h3.ext _ _ h1 h2;exact⟨⟨_,this,h2⟩,by grind [BH]⟩
  unfold oF at h;by_cases hk:x.kind=10
  .rw[By hk] at h;cases e1:nv N f (nth x.keys a) S with
   |none=>grind
   |some q1=>
   obtain⟨v1,S1⟩:=q1;rw[e1] at h;simp at h;cases e2:nv N f (nth x.items a) S1 with
   |none=>grind
   |some q2=>
   obtain⟨v2,S2⟩:=q2;rw[e2] at h;simp at h;cases e3:oF (nv N f) x l S2 with
   |none=>grind
   |some q3=>
   obtain⟨⟨ks2,is2⟩,S3⟩:=q3;rw[e3] at h;cases h;obtain⟨x1,g1,p1⟩:=hF _ S v1 S1 ok inj hn (hI.1 _ (aY a1 (by rw[d.map hx hk];exact a2))) e1;obtain⟨x2,g2,p2⟩:=hF _ S1 v2 S2 x1.ok x1.inj (amb x1.ng hn) (hI.2 _ (aY a1 a2)) e2;obtain⟨x3,h1,h2,h3⟩:=IB d hx hF l S2 ks2 is2 _ (λb hb=>hl b (BY _ hb)) x2.ok x2.inj (amb (abt x2.ng x1.ng) hn) e3;obtain⟨r1,r2⟩:=one g1 p1 (x2.trans d x3);obtain⟨r3,r4⟩:=one g2 p2 x3;rw[By hk] at h2;refine⟨(x1.trans d x2).trans d x3,by grind,by grind,λb hb=>?_⟩;rcases List.mem_cons.1 hb with rfl|hb
   .grind
   grind
  .rw[AT hk] at h;cases e2:nv N f (nth x.items a) S with
   |none=>grind
   |some q2=>
   obtain⟨v2,S2⟩:=q2;rw[e2] at h;simp at h;cases e3:oF (nv N f) x l S2 with
   |none=>grind
   |some q3=>
   obtain⟨⟨ks2,is2⟩,S3⟩:=q3;rw[e3] at h;cases h;obtain⟨x2,g2,p2⟩:=hF _ S v2 S2 ok inj hn (hI.2 _ (aY a1 a2)) e2;obtain⟨x3,h1,h2,h3⟩:=IB d hx hF l S2 _ is2 _ (λb hb=>hl b (BY _ hb)) x2.ok x2.inj (amb x2.ng hn) e3;obtain⟨r3,r4⟩:=one g2 p2 x3;rw[AT hk] at h2;refine⟨x2.trans d x3,by grind,by grind,λb hb=>?_⟩
   grind
theorem alr (d:Vd N root):∀f k S v S' ,Fw N S->Wf S->neg S.at'<f->IR N.length k->nv N f k S=some (v,S')->NX N S S'/\gt S'.at' k=some v/\0<=v
 |0,k,S,v,S',_,_,h,_,_=>by omega
 |f+1,k,S,v,S',ok,inj,hf,hk,h=>by
  obtain⟨v0,T,e0,ok',ng',_⟩:=IA d (f+1) k S ok hf hk;rw[h] at e0;cases e0;obtain⟨w,hw⟩:=cP ok.la hk;obtain⟨x,hx⟩:=cP rfl hk;unfold nv at h;rw[hw,hx] at h;simp at h;have hlt:=ok.le w (aq hw);have hcl:=ok.cle;by_cases h0:0<=w
  .rw[By h0] at h;cases h;exact⟨.refl ok inj,hw,h0⟩
  .rw[AT h0] at h;have hn:=Md (aB hw).2 (w:=(S.kW:Int)) (by omega) (by omega);have hp:=neg_pos (aB hw).2 (by omega);have hsum:=ok.sum;have o1:Fw N ⟨S.at'.set k.toNat S.kW,S.kW+1,S.out⟩:=⟨by rw[ajq];exact ok.la,ok.lo,λw hw=>by
    rcases Es hw with hw|rfl
    .have:=ok.le w hw
     grind
    grind,by grind,ok.fr⟩
   have gs:∀u,gt (S.at'.set k.toNat (S.kW:Int)) u=if u=k then some (S.kW:Int) else gt S.at' u:=λu=>gh (mK hw);have i1:Wf ⟨S.at'.set k.toNat S.kW,S.kW+1,S.out⟩:=λu w a h1 h2 h3=>by
    simp at h1 h2;rw[gs] at h1 h2;split at h1<;>split at h2
    .grind
    .cases h1;have:=ok.le _ (aq h2);omega
    .cases h2;have:=ok.le _ (aq h1);omega
    .exact inj u w a h1 h2 h3
   cases hlp:oF (nv N f) x (bM N k) ⟨S.at'.set k.toNat S.kW,S.kW+1,S.out⟩ with
   |none=>grind
   |some q=>
   obtain⟨⟨ks,is⟩,S2⟩:=q;rw[hlp] at h;cases h;have hord:bM N k=iS (iT N) x:=by grind [bM]
   obtain⟨X,hi,hks,hnum⟩:=IB d (aq hx) (λk S v S' a b c e=>alr d f k S v S' a b c e) (bM N k) _ ks is S2 (λa ha=>by rw[hord] at ha;exact dP ha) o1 i1 (by grind) hlp;have gk:gt S2.at' k=some (S.kW:Int):=X.ext k _ (by grind) (by omega);have nk:BH S2 k=(S.kW:Int):=by grind [BH]
   have hc2:=X.kW;simp at hc2;have lo2:=X.ok.lo;have nmbe:∀u,BH ⟨S2.at',S2.kW,S2.out.set S.kW ⟨x.kind,x.text,x.ord,ks,is⟩⟩ u=BH S2 u:=λ_=>rfl;have nume:∀u,JE S2 u->JE ⟨S2.at',S2.kW,S2.out.set S.kW ⟨x.kind,x.text,x.ord,ks,is⟩⟩ u:=λ_ h=>h;have chld:∀c,Edge N k c->JE S2 c:=λc ⟨y,hy,hm⟩=>by
    rw[hx] at hy;cases hy;have pos:∀{i:Nat},i<x.items.length->(i:Int)∈bM N k:=λ{i} hi=>by
     rw[hord];exact (vU (iT N) x).mem_iff.2 (IN (sQ hi))
    rcases hm with hm|hm
    .obtain⟨i,hi'⟩:=List.mem_iff_getElem?.1 hm;have hk10:x.kind=10:=adz λq=>(by rw[d.keys (aq hx) q] at hi';grind);have:=(hnum i (pos (by rw[<-d.map (aq hx) hk10];grind))).2 hk10
     grind [lW]
    .obtain⟨i,hi'⟩:=List.mem_iff_getElem?.1 hm
     grind [bZ,lW]
   refine⟨⟨ok',ng',X.inj,λu a h1 h2=>?_,λj hj=>?_,by grind,λu hu=>?_⟩,gk,by omega⟩
   .have hne:u≠k:=λe=>(by grind);exact X.ext u a (by grind) h2
   .simp;rw[an5 (by omega)];exact X.xW j (by grind)
   .by_cases e:u=k
    .subst e;refine .inr ⟨x,hx,⟨_,gk,by omega⟩,chld,?_⟩;rw[nmbe,nk];unfold Sh.gt
     grind
    .rcases X.new u hu with q|⟨y,hy,q1,q2,q3⟩
     .obtain⟨a,r1,r2⟩:=q;simp at r1;rw[gs,AT e] at r1;exact .inl ⟨a,r1,r2⟩
     .refine .inr ⟨y,hy,q1,q2,?_⟩;obtain⟨r1,r2⟩:=q1.gt;have hne:BH S2 u≠(S.kW:Int):=λe2=>e (X.inj u k _ (by grind) gk (by omega));rw[nmbe];unfold Sh.gt at q3⊢
      grind
theorem aab (g:GV N root)(d:Vd N root):∃φ,BD N root (oO N root) φ/\φ root=0/\∀u x,gt N u=some x->∃x',gt (oO N root) (φ u)=some x'/\x'.items=(bM N u).map (λa=>φ (nth x.items a))/\(x.kind=10->x'.keys=(bM N u).map (λa=>φ (nth x.keys a))):=by
 obtain⟨v,S,e,e2,ok,hv⟩:=GX d;have n0:∀u,¬JE (We N.length) u:=λu ⟨a,h1,h2⟩=>by
  have:=agi (aq h1);omega
 obtain⟨X,gr,_⟩:=alr d (N.length+1) root (We N.length) v S Q7 (λu w a h1 _ h2=>absurd ⟨a,h1,h2⟩ (n0 u)) (by show neg (List.replicate _ _)<_;rw[GW];omega) d.rt e;have v0:v=0:=by
  obtain⟨w,hw⟩:=cP (l:=(We N.length).at') (by simp[We]) d.rt;obtain⟨x,hx⟩:=cP rfl d.rt;have hw1:=agi (aq hw);unfold nv at e;rw[hw,hx] at e;simp at e;rw[AT (by omega)] at e;split at e
  .cases e
  .cases e;rfl
 subst v0;have oo:∀u,JE S u->OT N S u:=λu h=>(X.new u h).resolve_left (n0 u);have all:∀u,gT N root u->JE S u:=λu r=>by
  induction r with
  |refl=>exact⟨0,gr,af6 _⟩
  |step _ e ih=>obtain⟨_,_,_,h,_⟩:=oo _ ih;grind
 have nir:∀u,IR N.length u->JE S u:=λu hu=>all u (g.OM u hu);have hlt:∀u,JE S u->BH S u<(N.length:Int):=λu h=>by
  have:=ok.le _ (aq h.gt.1);have:=ok.cle;omega
 have inj:∀u w,JE S u->JE S w->BH S u=BH S w->u=w:=λu w h1 h2 e=>X.inj u w _ h1.gt.1 (by rw[e];exact h2.gt.1) h1.gt.2;have out:∀u x,gt N u=some x->gt (oO N root) (BH S u)=some ⟨x.kind,x.text,x.ord,if x.kind=10 then (bM N u).map (λa=>BH S (nth x.keys a)) else [],(bM N u).map (λa=>BH S (nth x.items a))⟩:=λu x hx=>by
  obtain⟨y,hy,_,_,h⟩:=oo u (nir u (mK hx))
  grind
 refine⟨BH S,⟨λu x _ hx=>⟨_,out u x hx,rfl,rfl,rfl,bM N u,?_,?_,rfl,rfl⟩,λu w h1 h2=>inj u w (all u h1) (all w h2),λw hw=>?_,by rw[sR d];grind⟩,by grind [BH],λu x hx=>⟨_,out u x hx,rfl,λhk=>by grind⟩⟩
 .grind [bM,vU]
 .intro hn;unfold bM;rw[hx];simp;unfold iS;grind
 .rw[sR d] at hw;obtain⟨a,ha,e3⟩:=Z7 (n:=N.length) (R:=λa b=>BH S (a:Int)=(b:Int)) (λa ha=>by
   have h1:=nir (a:Int) ⟨by omega,by omega⟩;have h2:=hlt _ h1;have h3:=h1.gt.2;exact⟨(BH S (a:Int)).toNat,by omega,by omega⟩) (λa a' b ha ha' h1 h2=>by
   have:=inj _ _ (nir (a:Int) ⟨by omega,by omega⟩) (nir (a':Int) ⟨by omega,by omega⟩) (h1.trans h2.symm);omega) w.toNat (by have:=hw.1;have:=hw.2;omega)
  exact⟨(a:Int),g.OM _ ⟨by omega,by omega⟩,by rw[e3];have:=hw.1;omega⟩
end Go.Sh
namespace Go.Sh
open Go Go.Ago Go.Proofs
variable {α β:Type}{h h' h0:aj}{L R J:List bN}{N:List al}{root:Int}{B:Nat}{Q:β->aj->Prop}
structure NC where
 ab:Nat
 x8:Nat
 rA:Nat
 x0:Nat
 x4:Nat
 w4:Nat
 nb:Nat
 j5:Nat
 m:Nat
 t:TbC
 B:Nat
abbrev NC.fn (c:NC):ο:=Value.func (Fn.func pF) #[] #[Value.pointer (some (ak c.x8)),Value.pointer (some (ak c.rA)),Value.pointer (some (ak c.x0)),Value.pointer (some (ak c.x4)),Value.pointer (some (ak c.w4)),Value.pointer (some (ak c.j5))]
def ML (c:NC)(S:NS)(O:List cT):List bN:=[.ar c.rA [vi S.kW] au,.ar c.ab (S.at'.map vi) au,.ar c.nb (O.flatMap cT.enc) az,.ar c.x8 [aC (arr c.ab c.m)] aJ,.ar c.x0 [aC c.t.s,vi c.t.root] ah,
 .ar c.x4 [Value.pointer (some (ak c.t.tb))] bB,.ar c.w4 [c.fn] ql,.ar c.j5 [aC (arr c.nb c.m),vi 0] ah]
def RO (r:cT)(J:List bN):Prop:=((r.ks.len=0/\r.kl=[])\/bN.sl r.ks 1 au (r.kl.map vi) r.kg∈J)/\((r.is.len=0/\r.il=[])\/bN.sl r.is 1 au (r.il.map vi) r.ig∈J)
def RO.mono {r}{J J'}(hr:RO r J)(hs:∀o∈J,o∈J'):RO r J':=⟨hr.1.imp id (hs _),hr.2.imp id (hs _)⟩
def WK (h0:aj)(c:NC)(S:NS)(h:aj)(R J L:List bN):Prop:=∃O:List cT,O.map cT.v=S.out/\(∀r∈O,RO r J)/\Z h0 h (ML c S O++(R++(J++L)))
def fuV (B f:Nat):Nat:=fuE B+f*(B+5)+5
def als (h0:aj)(c:NC)(N:List al)(f:Nat):Prop:=∀(n:Nat) (h:aj) (k:Int) (S:NS) (v:Int) (S':NS) (R J L:List bN),fuV c.B f<=n->nv N f k S=some (v,S')->Fw N S->neg S.at'<f->qh c.t N L->WK h0 c S h R J L ->
 Wp ((aP.at n).mH k (ak c.x8) (ak c.rA) (ak c.x0) (ak c.x4) (ak c.w4) (ak c.j5)) h λr h'=>r=v/\∃J' L',qh c.t N L'/\Ext L L'/\WK h0 c S' h' R J' L'
def FR (mb:Nat)(x:al)(ksl isl:Sl)(kl il:ε)(gk gi:Nat):List bN:=[.ar mb [vi x.kind,.string x.text,.bool x.ord,aC ksl,aC isl] az,.sl ksl 1 au (kl.map vi) gk,.sl isl 1 au (il.map vi) gi]
def BI {M F R X:List bN}:(M++((F++R)++X)).Perm (F++(M++(R++X))):=by
 grind [List.append_assoc,List.perm_append_comm_assoc]
def akU {s}{kl:ε}{g}{o:uQ h s 1 au (kl.map vi) g}:s.len=kl.length:=by have:=o.1;simp at this;omega
def alu {f}{k}{S}{v}{S'}(h:nv N f k S=some (v,S')):∃w x,gt S.at' k=some w/\gt N k=some x:=by
 cases f with
 |zero=>cases h
 |succ f=>
  grind [nv]
def Wg (d:Vd N root){f}{x}(hx:x∈N){l:ε}(hl:∀a∈l,0<=a/\a<x.items.length){S S'}{ks is}(o:Fw N S)(hn:neg S.at'<f)(h:oF (nv N f) x l S=some ((ks,is),S')):Fw N S'/\neg S'.at'<=neg S.at'/\is.length=l.length/\ks.length<=l.length:=by
 obtain⟨ks',is',S2,e,o2,n2,l1,l2,_⟩:=zB (n:=f-1) (F:=nv N f) (x:=x) (λk S o hn hk=>IA d f k S o (by omega) hk) (d.map hx) (d.ix x hx) l S hl o (by omega)
 grind
theorem ajL (d:Vd N root){c}(hm:c.B<1073741824){f}(V:als h0 c N f){x}(hx:x∈N){a}{ks0 is0}(nd:FY h0 a x ks0 is0){mb be}{l:ε}(hl:∀a∈l,0<=a/\a<x.items.length)(hll:l.length<=c.B) me :
  ∀n i S S' ks is kl il ksl isl gk gi h J L ,fuV c.B f+(l.length-i)+1<=n->i<=l.length->oF (nv N f) x (l.drop i) S=some ((ks,is),S')->Fw N S->neg S.at'<f->kl.length<=i->il.length<=i->bN.ar be (l.map vi) au∈L->qh c.t N L ->
   WK h0 c S h (FR mb x ksl isl kl il gk gi++R) J L ->
   Wp ((aP.at n).jq (ak c.w4) (ak c.j5) me (some a) (ak mb) (arr be l.length) (l.length:Int) (i:Int)) h λ_ h'=>∃ksl isl gk gi J' L',qh c.t N L'/\Ext L L'/\WK h0 c S' h' (FR mb x ksl isl (kl++ks) (il++is) gk gi++R) J' L':=by
 intro n
 induction n with
 |zero=>intro i S S' ks is kl il ksl isl gk gi h J L h1;omega
 |succ n ih=>
  intro i S S' ks is kl il ksl isl gk gi h J L h1 h2 hv ok hneg hkl hil hbe T ⟨O,hO,hRO,z⟩;show Wp (qe (aP.at n) n (ak c.w4) (ak c.j5) me (some a) (ak mb) (arr be l.length) (l.length:Int) (i:Int)) h _;unfold qe;by_cases hi:i<l.length
  .rw[By (by simpa using hi)];obtain⟨u,hu⟩:=kB (l:=l) (v:=(i:Int)) (by omega) (by omega);obtain⟨u1,u2⟩:=hl u (aq hu);rw[BF hu] at hv;obtain⟨iu,hiu⟩:=kB u1 u2;have ei:nth x.items u=iu:=by unfold nth;rw[hiu];rfl
   refine z.rdM (abq _ (abq _ (abq _ hbe))) hu rfl ?_;refine aS ((nd.fr z.fr).Od ?_);have call:∀(h:aj) (k:Int) (S1:NS) (v:Int) (S2:NS) (ksl isl:Sl) (kl il:ε) (gk gi:Nat) (J L:List bN) (ads:Addr) (fv:ο) (Q:Int->aj->Prop) (γ:Type) (K:Int->M γ) (Q2:γ->aj->Prop),ads.block=mb->fv=c.fn->nv N f k S1=some (v,S2)->Fw N S1->neg S1.at'<f->qh c.t N L ->
     WK h0 c S1 h (FR mb x ksl isl kl il gk gi++R) J L->(∀h' J' L',qh c.t N L'->Ext L L'->WK h0 c S2 h' (FR mb x ksl isl kl il gk gi++R) J' L'->Wp (K v) h' Q2) ->
     Wp (sh (Ago.uw [some ads] (jh (aP.at n) n fv k)) K) h Q2:=by
    intro h k S1 v S2 ksl isl kl il gk gi J L ads fv Q γ K Q2 ha hf hv ok hng T st q;subst hf;have lb:∀{S:NS} {h:aj} {J L:List bN},WK h0 c S h (FR mb x ksl isl kl il gk gi++R) J L->LB h mb [vi x.kind,.string x.text,.bool x.ord,aC ksl,aC isl] az:=λ⟨O,_,_,z⟩=>by
     have:=(z.own (.ar mb [vi x.kind,.string x.text,.bool x.ord,aC ksl,aC isl] az) (abq _ (abx _ (abx _ IS)))).1;exact this
    refine Eh (P:=λr h'=>r=v/\∃J' L',qh c.t N L'/\Ext L L'/\WK h0 c S2 h' (FR mb x ksl isl kl il gk gi++R) J' L') (λb hb=>?_) ?_ λr h' hr=>?_
    .grind
    .unfold jh;rw[By (by rfl),ag];refine kC (c:=((ak c.x8,ak c.rA,ak c.x0,ak c.x4,ak c.w4,ak c.j5):Addr×Addr×Addr×Addr×Addr×Addr)) rfl ?_;exact V n h k S1 v S2 _ J L (by omega) hv ok hng T st
    .obtain⟨rfl,J',L',T',E',st'⟩:=hr;exact q h' J' L' T' E' st'
   have J0:∀(h:aj) (S1:NS) (kl:ε) (ksl:Sl) (gk:Nat) (J L:List bN) (b:Int) (S2:NS) (ks is:ε),nv N f iu S1=some (b,S2)->oF (nv N f) x (l.drop (i+1)) S2=some ((ks,is),S')->Fw N S1->neg S1.at'<f->kl.length<=i+1->bN.ar be (l.map vi) au∈L->qh c.t N L ->
     WK h0 c S1 h (FR mb x ksl isl kl il gk gi++R) J L->Wp (iq (aP.at n) n (ak c.w4) (ak c.j5) me (some a) (ak mb) u (arr be l.length) (l.length:Int) (i:Int)) h λ_ h'=>∃ksl isl gk gi J' L',qh c.t N L'/\Ext L L'/\WK h0 c S' h' (FR mb x ksl isl (kl++ks) (il++(b::is)) gk gi++R) J' L':=by
    intro h S1 kl ksl gk J L b S2 ks is hv1 hv2 ok hneg hkl hbe T st;unfold iq;obtain⟨O,hO,hRO,z⟩:=st;refine aS ?_;refine z.GU (x:=isl) (abq _ (abx _ (abx _ IS))) rfl rfl ?_;refine z.GU (cs:=[c.fn]) (e:=ql) (abx _ (by simp[ML])) rfl rfl ?_;refine (nd.fr z.fr).D6 ((nd.fr z.fr).items.ix u1 (aB hiu).2 λ_ _ c1=>c1.tn (l:=li) rfl rfl ?_);refine call h iu S1 b S2 ksl isl kl il gk gi J L _ _ (λ_ _=>True) _ _ _ rfl rfl hv1 ok hneg T ⟨O,hO,hRO,z⟩ λh' J' L' T' E' st'=>?_;obtain⟨O',hO',hRO',z'⟩:=st';have zf:=Z.perm z' BI;have ilen:isl.len=il.length:=by
     have o:uQ h' isl 1 au (il.map vi) gi:=zf.get 2 rfl;have:=o.1;simp at this;omega
    refine Z.Q6 zf 2 rfl (by omega) rfl (by rw[ilen];unfold cQ;omega) λs' h2 g' hs' z2 _=>?_;have z2:Z h0 h2 ([.ar mb [vi x.kind,.string x.text,.bool x.ord,aC ksl,aC isl] az,.sl ksl 1 au (kl.map vi) gk,.sl s' 1 au (il.map vi++[vi b]) g']++(ML c S2 O'++(R++(J'++L')))):=z2;refine z2.st 0 (cs':=[vi x.kind,.string x.text,.bool x.ord,aC ksl,aC s']) λh3 z3=>?_;have z3:Z h0 h3 (FR mb x ksl s' kl (il++[b]) gk g'++(ML c S2 O'++(R++(J'++L')))):=by
     show Z h0 h3 (_::_::.sl s' 1 au ((il++[b]).map vi) g'::_);rw[agE];exact z3
    have hok:Fw N S2/\neg S2.at'<=neg S1.at':=by
     obtain⟨v',S'',e,o,n',_⟩:=IA d f iu S1 ok hneg ((d.ix x hx).2 iu (aq hiu));rw[hv1] at e;cases e;exact⟨o,n'⟩
    rw[w3 (by omega) hm];have st3:WK h0 c S2 h3 (FR mb x ksl s' kl (il++[b]) gk g'++R) J' L':=⟨O',hO',hRO',Z.perm z3 BI.symm⟩;refine (ih (i+1) S2 S' ks is kl (il++[b]) ksl s' gk g' h3 J' L' (by omega) (by omega) hv2 hok.1 (by omega) hkl (by simp;omega) (E' _ _ hbe) T' st3).mono λ_ h4 hr=>?_;obtain⟨ksl,isl,gk,gi,J2,L2,T2,E2,st4⟩:=hr;refine⟨ksl,isl,gk,gi,J2,L2,T2,E'.trans E2,?_⟩;rw[abp] at st4;exact st4
   unfold oF at hv;by_cases hk:x.kind=10
   .rw[By hk] at hv;rw[By (by simpa using hk)];obtain⟨ku,hku⟩:=kB u1 (by rw[d.map hx hk];exact u2);have ek:nth x.keys u=ku:=(by unfold nth;rw[hku];rfl);rw[ek,ei] at hv;cases e1:nv N f ku S with
    |none=>rw[e1] at hv;cases hv
    |some q1=>
    obtain⟨a1,S1⟩:=q1;rw[e1] at hv;simp at hv;cases e2:nv N f iu S1 with
    |none=>rw[e2] at hv;cases hv
    |some q2=>
    obtain⟨b1,S2⟩:=q2;rw[e2] at hv;simp at hv;cases e3:oF (nv N f) x (l.drop (i+1)) S2 with
    |none=>rw[e3] at hv;cases hv
    |some q3=>
    obtain⟨⟨ks2,is2⟩,S3⟩:=q3;rw[e3] at hv;cases hv;have hok:Fw N S1/\neg S1.at'<=neg S.at':=by
     obtain⟨v',S'',e,o,n',_⟩:=IA d f ku S ok hneg ((d.ix x hx).1 ku (aq hku));rw[e1] at e;cases e;exact⟨o,n'⟩
    refine aS ?_;refine z.GU (x:=ksl) (abq _ (abx _ (abx _ IS))) rfl rfl ?_;refine z.GU (cs:=[c.fn]) (e:=ql) (abx _ (by simp[ML])) rfl rfl ?_;refine (nd.fr z.fr).Jj ((nd.fr z.fr).keys.ix u1 (aB hku).2 λ_ _ c1=>c1.tn (l:=li) rfl rfl ?_);refine call h ku S a1 S1 ksl isl kl il gk gi J L _ _ (λ_ _=>True) _ _ _ rfl rfl e1 ok hneg T ⟨O,hO,hRO,z⟩ λh' J' L' T' E' st'=>?_;obtain⟨O',hO',hRO',z'⟩:=st';have zf:=Z.perm z' BI;have klen:ksl.len=kl.length:=by
     have o:uQ h' ksl 1 au (kl.map vi) gk:=zf.get 1 rfl;have:=o.1;simp at this;omega
    refine Z.Q6 zf 1 rfl (by omega) rfl (by rw[klen];unfold cQ;omega) λs' h2 g' hs' z2 _=>?_;have z2:Z h0 h2 ([.ar mb [vi x.kind,.string x.text,.bool x.ord,aC ksl,aC isl] az,.sl s' 1 au (kl.map vi++[vi a1]) g',.sl isl 1 au (il.map vi) gi]++(ML c S1 O'++(R++(J'++L')))):=z2;refine z2.st 0 (cs':=[vi x.kind,.string x.text,.bool x.ord,aC s',aC isl]) λh3 z3=>?_;have z3:Z h0 h3 (FR mb x s' isl (kl++[a1]) il g' gi++(ML c S1 O'++(R++(J'++L')))):=by
     show Z h0 h3 (_::.sl s' 1 au ((kl++[a1]).map vi) g'::_);rw[agE];exact z3
    refine (J0 h3 S1 (kl++[a1]) s' g' J' L' b1 S2 ks2 is2 e2 e3 hok.1 (by omega) (by simp;omega) (E' _ _ hbe) T' ⟨O',hO',hRO',Z.perm z3 BI.symm⟩).mono λ_ h4 hr=>?_;obtain⟨ksl,isl,gk,gi,J2,L2,T2,E2,st4⟩:=hr;refine⟨ksl,isl,gk,gi,J2,L2,T2,E'.trans E2,?_⟩;rw[abp] at st4;exact st4
   .rw[AT hk] at hv;rw[AT (by simpa using hk)];rw[ei] at hv;cases e2:nv N f iu S with
    |none=>rw[e2] at hv;cases hv
    |some q2=>
    obtain⟨b1,S2⟩:=q2;rw[e2] at hv;simp at hv;cases e3:oF (nv N f) x (l.drop (i+1)) S2 with
    |none=>rw[e3] at hv;cases hv
    |some q3=>
    obtain⟨⟨ks2,is2⟩,S3⟩:=q3;rw[e3] at hv;cases hv;exact J0 h S kl ksl gk J L b1 S2 ks is2 e2 e3 ok hneg (by omega) hbe T ⟨O,hO,hRO,z⟩
  .rw[AT (by simpa using hi)];rw[abn (by omega)] at hv;unfold oF at hv;cases hv;refine af.2 ⟨ksl,isl,gk,gi,J,L,T,.refl,?_⟩;rw[aeD,aeD];exact⟨O,hO,hRO,z⟩
end Go.Sh
namespace Go.Sh
open Go Go.Ago Go.Proofs
variable {α β:Type}{h h' h0:aj}{L R J:List bN}{N:List al}{root:Int}{B:Nat}{Q:β->aj->Prop}
def aac B f:fuV B (f+1)=fuV B f+(B+5):=by unfold fuV;rw[aeN];omega
def Q8 {O:List cT}{i}{r}:(O.set i r).map cT.v=(O.map cT.v).set i r.v:=by rw[ani]
theorem aad (d:Vd N root)(hB:Bd N B)(ht:∀x∈N,x.text.size<=65536)(hsm:∀x∈N,x.kind=10->x.items.length<50){c}(G:lJ h0 c.t.s N)(hm:c.m=N.length)(hBm:∀x∈N,x.items.length<=c.B)(hBc:Bd N c.B):∀f,f<=N.length+1->als h0 c N f:=by
 intro f
 induction f with
 |zero=>intro _ n h k S v S' R J L _ hv;cases hv
 |succ f ih=>
  intro hf n h k S v S' R J L hn hv ok hng T st;have V:=ih (by omega);rw[aac] at hn;obtain⟨w,x,hw,hx⟩:=alu hv;have hkr:IR N.length k:=mK hx;have hBB:=hBc.2.1;obtain⟨n,rfl⟩:∃n',n=n'+1:=⟨n-1,by omega⟩;show Wp (tW (aP.at n) n k (ak c.x8) (ak c.rA) (ak c.x0) (ak c.x4) (ak c.w4) (ak c.j5)) h _;unfold tW;obtain⟨O,hO,hRO,z⟩:=st;have lo:O.length=N.length:=by have:=akn List.length hO;rw[adR,ok.lo] at this;exact this
  have mML:∀{o:bN} {S:NS} {O:List cT},o∈ML c S O->o∈ML c S O++(R++(J++L)):=λh=>abx _ h;refine z.ld 3 (x:=arr c.ab c.m) ?_;refine z.JB 1 hw (by rw[ok.la,hm]) ?_;unfold nv at hv;rw[hw,hx] at hv;simp at hv;by_cases h0':0<=w
  .rw[By h0'] at hv;cases hv;rw[By (by simpa using h0')];refine z.ld 3 (x:=arr c.ab c.m) ?_;refine z.JB 1 hw (by rw[ok.la,hm]) (af.2 ⟨rfl,J,L,T,.refl,O,hO,hRO,z⟩)
  .rw[AT h0'] at hv;rw[AT (by simpa using h0')];cases hlp:oF (nv N f) x (bM N k) ⟨S.at'.set k.toNat S.kW,S.kW+1,S.out⟩ with
   |none=>rw[hlp] at hv;cases hv
   |some q=>
   obtain⟨⟨ks,is⟩,S2⟩:=q;rw[hlp] at hv;cases hv;have hlt:=ok.le w (aq hw);have hcl:=ok.cle;have hn':=Md (aB hw).2 (w:=(S.kW:Int)) (by omega) (by omega);have hp:=neg_pos (aB hw).2 (by omega);have hsum:=ok.sum;refine z.ld 0 ?_;refine z.ld 3 (x:=arr c.ab c.m) ?_;refine Ji hkr.1 (by rw[hm];exact hkr.2) ?_;rw[adU];refine z.CB 1 (by rw[ok.la];have:=hkr.1;have:=hkr.2;omega) λh1 z=>?_;refine z.ld 0 ?_;rw[w3 (by have:=hBc.1;omega) hBB];refine z.st 0 (cs':=[vi ((S.kW+1:Nat):Int)]) λh2 z=>?_;have z:Z h0 h2 (ML c ⟨S.at'.set k.toNat S.kW,S.kW+1,S.out⟩ O++(R++(J++L))):=z;refine z.ld 4 (x:=c.t.s) ?_;refine G.RX z (aB hx).1 (aB hx).2 λa ks0 is0 nd=>?_;refine z.eE [13] (by decide) (by simp) λkb h3 z=>?_;refine aS (aS (aS ?_));have ndz:=nd.fr z.fr;refine ndz.Od (ndz.I4 (ndz.ldO ?_));refine z.newAt 0 λh4 z=>?_;refine z.st 0 (cs':=[vi x.kind,.string x.text,.bool x.ord,aI,aI]) λh5 z=>?_;have z:Z h0 h5 (.ar (kb+13) [vi x.kind,.string x.text,.bool x.ord,aI,aI] az::(ML c ⟨S.at'.set k.toNat S.kW,S.kW+1,S.out⟩ O++(R++(J++L)))):=z;refine z.ld 6 ?_;have z1:Z h0 h5 ((.ar (kb+13) [vi x.kind,.string x.text,.bool x.ord,aI,aI] az::(ML c ⟨S.at'.set k.toNat S.kW,S.kW+1,S.out⟩ O++(R++J)))++L):=by simpa using z
   rw[ag];refine (Iz G d hBc ht hsm hx n h5 _ L (by unfold fuV at hn;omega) T z1).mono λr h6 hr=>?_;obtain⟨be,L1,rfl,hbe,T1,E1,z2⟩:=hr;have z2:Z h0 h6 (.ar (kb+13) [vi x.kind,.string x.text,.bool x.ord,aI,aI] az::(ML c ⟨S.at'.set k.toNat S.kW,S.kW+1,S.out⟩ O++(R++(J++L1)))):=by simpa using z2
   have zn:Z h0 h6 (FR (kb+13) x pY pY [] [] 0 0++(ML c ⟨S.at'.set k.toNat S.kW,S.kW+1,S.out⟩ O++(R++(J++L1)))):=by
    have q1:=Z.add z2.drop (Fr.refl z2.wf) (o:=.sl pY 1 au [] 0) uQ.nil (.inl rfl);have q2:=Z.add z2 (Fr.refl z2.wf) (o:=.sl pY 1 au [] 0) uQ.nil (.inl rfl);have q3:=Z.add q2 (Fr.refl z2.wf) (o:=.sl pY 1 au [] 0) uQ.nil (.inl rfl);exact Z.uR (pre:=[_,_,_]) q3 [2,0,1] (by simp only[aaH,adr];decide)
   have o1:Fw N ⟨S.at'.set k.toNat S.kW,S.kW+1,S.out⟩:=⟨by rw[ajq];exact ok.la,ok.lo,λw hw=>by
    rcases Es hw with hw|rfl
    .have:=ok.le w hw;show w<((S.kW+1:Nat):Int);omega
    grind,by simp;omega,ok.fr⟩
   have hord:bM N k=iS (iT N) x:=by unfold bM;rw[hx]
   have hol:∀a∈bM N k,0<=a/\a<x.items.length:=λa ha=>by rw[hord] at ha;exact dP ha
   have hlen:=fu hx;have st0:WK h0 c ⟨S.at'.set k.toNat S.kW,S.kW+1,S.out⟩ h6 (FR (kb+13) x pY pY [] [] 0 0++R) J L1:=⟨O,hO,hRO,Z.perm zn BI.symm⟩;have hfn:neg (S.at'.set k.toNat S.kW)<f:=by omega
   .rw[<-hlen,ag];refine (ajL (R:=R) d (by omega) V (aq hx) nd hol (by rw[hlen];exact hBm x (aq hx)) (S.kW:Int) n 0 _ S2 ks is [] [] pY pY 0 0 h6 J L1 (by rw[hlen];have:=hBm x (aq hx);omega) (by omega) (by rw[akc];exact hlp) o1 hfn (by simp) (by simp) hbe T1 st0).mono λ_ h7 hr=>?_;obtain⟨ksl,isl,gk,gi,J2,L2,T2,E2,O2,hO2,hRO2,z7⟩:=hr;rw[abr,abr] at z7;obtain⟨o2,n2,l1,_⟩:=Wg d (aq hx) hol o1 hfn hlp;have lo2:O2.length=N.length:=(by have:=akn List.length hO2;rw[adR,o2.lo] at this;exact this);have zf:=Z.perm z7 BI;refine zf.GU (x:=arr c.nb c.m) (cs:=[aC (arr c.nb c.m),vi 0]) (e:=ah) (abq _ (abx _ (by simp[ML]))) rfl rfl ?_;refine zf.fI 0 (x:=((x.kind,x.text,x.ord,ksl,isl):eC [li,.str,.bool,.sl,.sl])) ?_;refine Ji (by omega) (by omega) ?_;rw[OF]
    let r:cT:=⟨x.kind,x.text,x.ord,ksl,ks,gk,isl,is,gi⟩
    obtain⟨y,hy⟩:=gG (l:=O2) (i:=S.kW) (by omega);have hsp:aV (O2.flatMap cT.enc) (S.kW*5) [vi x.kind,.string x.text,.bool x.ord,aC ksl,aC isl]=(O2.set S.kW r).flatMap cT.enc:=by
     have:=NV cT.xd (x':=r) hy (o:=0) (vs:=[vi x.kind,.string x.text,.bool x.ord,aC ksl,aC isl]) (by simp) (by unfold aV cT.enc;rfl);rw[alb] at this;exact this
    have hfl:(O2.flatMap cT.enc).length=N.length*5:=(by rw[oR cT.xd,lo2]);refine zf.st 5 (λh8 z8=>af.2 ?_) rfl hsp (by rw[hfl];simp;omega) rfl;have z8:Z h0 h8 (FR (kb+13) x ksl isl ks is gk gi++(ML c ⟨S2.at',S2.kW,S2.out.set S.kW r.v⟩ (O2.set S.kW r)++(R++(J2++L2)))):=z8;refine⟨rfl,.sl ksl 1 au (ks.map vi) gk::.sl isl 1 au (is.map vi) gi::J2,L2,T2,E1.trans E2,O2.set S.kW r,?_,λr' hr'=>?_,?_⟩
    .rw[Q8,hO2];rfl
    .rcases Es hr' with h9|rfl
     .exact (hRO2 r' h9).mono λo ho=>BY _ (BY _ ho)
     .exact⟨.inr IS,.inr (BY _ IS)⟩
    .have z9:=Z.drop (L:=.sl ksl 1 au (ks.map vi) gk::.sl isl 1 au (is.map vi) gi::(ML c ⟨S2.at',S2.kW,S2.out.set S.kW r.v⟩ (O2.set S.kW r)++(R++(J2++L2)))) z8;have pm:(.sl ksl 1 au (ks.map vi) gk::.sl isl 1 au (is.map vi) gi::(ML c ⟨S2.at',S2.kW,S2.out.set S.kW r.v⟩ (O2.set S.kW r)++(R++(J2++L2)))).Perm (ML c ⟨S2.at',S2.kW,S2.out.set S.kW r.v⟩ (O2.set S.kW r)++(R++((.sl ksl 1 au (ks.map vi) gk::.sl isl 1 au (is.map vi) gi::J2)++L2))):=by
      have p1:=alp [bN.sl ksl 1 au (ks.map vi) gk,.sl isl 1 au (is.map vi) gi] (ML c ⟨S2.at',S2.kW,S2.out.set S.kW r.v⟩ (O2.set S.kW r)) (R++(J2++L2));have p2:=alp [bN.sl ksl 1 au (ks.map vi) gk,.sl isl 1 au (is.map vi) gi] R (J2++L2);exact p1.trans (akL _ p2)
     exact Z.perm z9 pm
def aae {m b}(hm:m<1073741824){x8} a0 a1 a2 :
  ∀n i h L ,m-i<n->i<=m->Z h0 h (.ar x8 [aC (arr b m)] aJ::.ar b ((List.replicate i (-1)++List.replicate (m-i) 0).map vi) au::L) ->
   Wp (n8 n a0 a1 a2 (ak x8) (m:Int) (i:Int)) h λ_ h'=>Z h0 h' (.ar x8 [aC (arr b m)] aJ::.ar b ((List.replicate m (-1:Int)).map vi) au::L):=by
 intro n
 induction n with
 |zero=>intro i h L h1;omega
 |succ n ih=>
  intro i h L h1 h2 z;rw[A8];unfold sJ;by_cases hi:i<m
  .rw[By (by simp;omega)];refine z.ld 0 (x:=arr b m) ?_;refine Ji (by omega) (by omega) ?_;rw[OF,adU];refine z.CB 1 (xs:=List.replicate i (-1)++List.replicate (m-i) 0) (by simp;omega) (λh3 z=>?_);have hf:(List.replicate i (-1:Int)++List.replicate (m-i) 0).set i (-1)=List.replicate (i+1) (-1)++List.replicate (m-(i+1)) 0:=by
    rw[akC _ _ (by simp),aeA,al2,show m-i=(m-(i+1))+1 by omega,akq,aki,amB,abp];rfl
   rw[hf] at z;rw[w3 h2 (by omega)];exact ih (i+1) h3 L (by omega) (by omega) z
  .rw[AT (by simp;omega),af];have:i=m:=by omega
   subst this;simpa using z
def of_wp {s}{root}(z:Z h0 h L)(hb:s.len<=cQ){n} :
  Wp (AR n (s,root)) h λr h'=>∃x5 b4,r=some (ak x5)/\Z h0 h' (.ar x5 [aC s,vi root,aC (arr b4 s.len)] dB::.ar b4 (List.replicate s.len aI) aJ::L):=by
 unfold AR;refine z.new λx0 h1 z _=>z.eE [4,6] (by decide) (by decide) λnb h2 z=>?_;refine z.fI 2 (ls:=[.sl,li]) (x:=(s,root)) ?_;refine z.ld 2 (x:=s) ?_;refine z.ace 0 (by omega) (by omega) λh3 z=>?_;refine z.newAt 1 (cs:=[aC s,vi root,aC (arr (nb+4) s.len)]) λh4 z=>?_;rw[af];refine⟨nb+6,nb+4,rfl,?_⟩;rw[OF] at z;rw[XU] at z;have z:=Z.uR (pre:=[_,_,_]) z [1,0,2] (by simp only[aaH,adr];decide);exact z.sub (List.Sublist.cons₂ _ (List.Sublist.cons₂ _ (amc _ _)))
def Tb {t}{L}(h1:bN.ar t.tb [aC t.s,vi t.root,aC (arr t.sb N.length)] dB∈L)(h2:bN.ar t.sb (List.replicate N.length aI) aJ∈L):qh t N L:=by
 refine⟨List.replicate N.length none,by simp,h1,by rw[alo];exact h2,λk b l hg=>?_⟩;have:=agi (aq hg);cases this
def ro0:cT:=⟨0,ofBytes [],false,pY,[],0,pY,[],0⟩
def aaf m:(List.replicate m ro0).flatMap cT.enc=(List.replicate m [vi 0,Value.string (ofBytes []),Value.bool false,aI,aI]).flatten:=by
 rw[List.flatMap_def,alo];rfl
structure eZ (N:List al):Prop where
 len:N.length<=40
 map:∀x∈N,x.items.length<=80/\x.keys.length<=80
 txt:∀x∈N,x.text.size<=101
def eZ.bd (f:eZ N):Bd N 80:=⟨by have:=f.len;omega,by omega,λx hx=>⟨(f.map x hx).2,(f.map x hx).1⟩⟩
def eZ.ht (f:eZ N):∀x∈N,x.text.size<=65536:=λx hx=>by have:=f.txt x hx;omega
def eZ.sm (f:eZ N)(d:Vd N root):∀x∈N,x.kind=10->x.items.length<50:=λx hx hk=>by
 have h1:=d.ajp hx;have h2:=d.map hx hk;have:=f.len;omega
end Go.Sh
namespace Go.Sh
open Go Go.Ago Go.Proofs
variable {α β:Type}{h h' h0:aj}{L R J:List bN}{N:List al}{root:Int}{B:Nat}{Q:β->aj->Prop}
def fuN:Nat:=fuV 80 60+100
def OG (nb:Nat)(O:List cT)(J:List bN):List bN:=.ar nb (O.flatMap cT.enc) az::J
def OG.read {nb}{O}{J X}(z:Z h0 h X)(hs:∀o∈OG nb O J,o∈X)(hRO:∀r∈O,RO r J):lJ h (arr nb O.length) (O.map cT.v):=by
 have l:LB h nb (O.flatMap cT.enc) az:=(z.own _ (hs _ IS)).1;refine⟨O,nb+1,rfl,l.Jg (by rw[oR cT.xd]),λr hr=>?_⟩;obtain⟨h1,h2⟩:=hRO r hr;have one:∀{s:Sl} {kl:ε} {g:Nat},(s.len=0/\kl=[])\/bN.sl s 1 au (kl.map vi) g∈J->IL h s kl:=λ{s kl g} hh=>by
  rcases hh with⟨e1,e2⟩|hm
  .subst e2;exact⟨0,vj.nil e1⟩
  .have o:uQ h s 1 au (kl.map vi) g:=(z.own _ (hs _ (BY _ hm))).1;exact⟨g,o.Jg⟩
 exact⟨one h1,one h2⟩
def Made (h0 h:aj)(s:Sl)(N':List al)(L:List bN):Prop:=∃nb O J,s=arr nb O.length/\O.map cT.v=N'/\(∀r∈O,RO r J)/\Z h0 h (OG nb O J++L)
theorem Made.z {s}{N'}{L}(m:Made h0 h s N' L):Z h0 h L:=by
 obtain⟨nb,O,J,_,_,_,z⟩:=m;exact z.sub (akW _ _)
theorem Made.read {s}{N'}{L}(m:Made h0 h s N' L):lJ h s N':=by
 obtain⟨nb,O,J,rfl,rfl,hr,z⟩:=m;exact OG.read z (λo ho=>abx _ ho) hr
theorem Made.sub {s}{N'}{L L'}(m:Made h0 h s N' L)(hs:L'.Sublist L):Made h0 h s N' L':=by
 obtain⟨nb,O,J,e1,e2,hr,z⟩:=m;exact⟨nb,O,J,e1,e2,hr,z.sub ((aiX _).append hs)⟩
theorem Made.on {s}{N'}{L}(m:Made h0 h s N' L){γ}{M:M γ}{Q}(q:∀X,Z h0 h (L++X)->(∀h' L',Z h0 h' (L'++X)->Made h0 h' s N' L')->Wp M h Q):Wp M h Q:=by
 obtain⟨nb,O,J,e1,e2,hr,z⟩:=m;exact q (OG nb O J) (z.perm ajh) λh' L' z'=>⟨nb,O,J,e1,e2,hr,z'.perm ajh⟩
def Fx {s}(z:Z h0 h L)(G:lJ h0 s N)(f:eZ N)(d:Vd N root){n}(hn:fuN<=n) :
  Wp (pT n (s,root)) h λr h'=>r.2=0/\Made h0 h' r.1 (oO N root) L:=by
 have hl:=f.len;have hfu:fuV 80 (N.length+1)<=n:=by
  grind [fuV,Nat.mul_le_mul_right,fuN]
 have hn100:100<=n:=by unfold fuN at hn;omega
 unfold pT;refine z.new λx0 h1 z _=>z.new λx1 h2 z _=>?_;refine z.fI 1 (ls:=[.sl,li]) (x:=(s,root)) ?_;have hsl:s.len=N.length:=G.len;rw[ag];refine (of_wp (s:=s) (root:=root) z (by rw[hsl];unfold cQ;omega)).mono λx3 h3 hx=>?_;obtain⟨tb,sb,rfl,z⟩:=hx;rw[hsl] at z;refine z.new λx4 h4 z _=>z.st 0 (cs':=[Value.pointer (some (ak tb))]) λh5 z=>?_;refine z.ld 4 (x:=s) ?_;rw[hsl];refine z.MH (by omega) (by unfold cQ;omega) λab h6 z _=>?_;rw[OF] at z⊢;rw[pJ] at z;refine z.new λx8 h7 z _=>z.st 0 (cs':=[aC (arr ab N.length)]) λh8 z=>?_;refine z.ld 0 (x:=arr ab N.length) ?_;rw[ag];have z0:Z h0 h8 (.ar x8 [aC (arr ab N.length)] aJ::.ar ab ((List.replicate 0 (-1)++List.replicate (N.length-0) 0).map vi) au::.ar x4 [Value.pointer (some (ak tb))] bB::.ar tb [aC s,vi root,aC (arr sb N.length)] dB::.ar sb (List.replicate N.length aI) aJ::.ar x1 [aI,vi 0] ah::.ar x0 [aC s,vi root] ah::L):=by simpa using z
 refine (aae (by omega) (ak x0) (ak x1) (ak x4) n 0 h8 _ (by omega) (by omega) z0).mono λ_ h9 z=>?_;refine z.ld 6 (x:=s) ?_;rw[hsl];refine z.MH (by omega) (by unfold cQ;omega) λnb h10 z _=>?_;rw[OF] at z⊢;rw[<-aaf] at z;refine z.new λj5 h11 z _=>z.st 0 (cs':=[aC (arr nb N.length),vi 0]) λh12 z=>?_;refine z.new λrA h13 z _=>z.st 0 (cs':=[vi 0]) λh14 z=>?_;refine z.new λw4 h15 z _=>?_
 let c:NC:=⟨ab,x8,rA,x0,x4,w4,nb,j5,N.length,⟨tb,sb,s,root⟩,80⟩
 refine z.st 0 (cs':=[c.fn]) λh16 z=>?_;have z:Z h0 h16 ([.ar w4 [c.fn] ql,.ar rA [vi 0] au,.ar j5 [aC (arr nb N.length),vi 0] ah,.ar nb ((List.replicate N.length ro0).flatMap cT.enc) az,.ar x8 [aC (arr ab N.length)] aJ,.ar ab ((List.replicate N.length (-1)).map vi) au,
  .ar x4 [Value.pointer (some (ak tb))] bB,.ar tb [aC s,vi root,aC (arr sb N.length)] dB,.ar sb (List.replicate N.length aI) aJ,.ar x1 [aI,vi 0] ah,.ar x0 [aC s,vi root] ah]++L):=z
 have z:=Z.uR z [1,5,3,4,10,6,0,2,9,7,8] (by simp only[aaH,adr];decide);have z:Z h0 h16 (ML c (We N.length) (List.replicate N.length ro0)++([.ar x1 [aI,vi 0] ah]++([.ar tb [aC s,vi root,aC (arr sb N.length)] dB,.ar sb (List.replicate N.length aI) aJ]++L))):=z;have z:Z h0 h16 (ML c (We N.length) (List.replicate N.length ro0)++((.ar x1 [aI,vi 0] ah::L)++([]++[.ar tb [aC s,vi root,aC (arr sb N.length)] dB,.ar sb (List.replicate N.length aI) aJ]))):=z.perm (akL _ (List.Perm.cons _ (show ([bN.ar tb [aC s,vi root,aC (arr sb N.length)] dB,bN.ar sb (List.replicate N.length aI) aJ]++L).Perm (L++[bN.ar tb [aC s,vi root,aC (arr sb N.length)] dB,bN.ar sb (List.replicate N.length aI) aJ]) from ajh)));obtain⟨v,S,e,en,o,hv⟩:=GX d;refine z.ld 6 ?_;refine z.ld 4 (x:=root) ?_;unfold tX;rw[By (by rfl),ag,ag];refine kC (c:=((ak c.x8,ak c.rA,ak c.x0,ak c.x4,ak c.w4,ak c.j5):Addr×Addr×Addr×Addr×Addr×Addr)) rfl ?_;have Cb:=aad (c:=c) d f.bd f.ht (f.sm d) G rfl (λx hx=>(f.map x hx).1) f.bd (N.length+1) (aao _);refine (Cb n h16 root (We N.length) v S _ [] _ hfu e Q7 (by show neg (List.replicate _ _)<_;rw[GW];omega) (Tb IS (BY _ IS)) ⟨List.replicate N.length ro0,by rw[alo];rfl,λr hr=>by
   have:=agi hr;subst this;exact⟨.inl ⟨rfl,rfl⟩,.inl ⟨rfl,rfl⟩⟩,z⟩).mono λr h17 hr=>?_
 obtain⟨rfl,J',L',_,_,O',hO',hRO',z⟩:=hr;refine z.fI 7 (x:=((arr nb N.length,0):eC [.sl,li])) ?_;refine z.st 8 (cs':=[aC (arr nb N.length),vi 0]) λh18 z=>?_;refine z.fI 8 (x:=((arr nb N.length,0):eC [.sl,li])) (af.2 ⟨rfl,?_⟩);have z:Z h0 h18 (ML c S O'++((.ar x1 [aC (arr nb N.length),vi 0] ah::L)++(J'++L'))):=z;have lo:O'.length=N.length:=by have:=akn List.length hO';rw[adR,o.lo] at this;exact this
 refine⟨nb,O',J',by rw[lo],by rw[hO',en],hRO',?_⟩;have hsub:(.ar nb (O'.flatMap cT.enc) az::(L++J')).Sublist (ML c S O'++((.ar x1 [aC (arr nb N.length),vi 0] ah::L)++(J'++L'))):=by
  refine ak6 (l₁:=[_]) ?_ ?_
  .exact List.Sublist.cons _ (List.Sublist.cons _ (List.Sublist.cons_cons _ (List.nil_sublist _)))
  .exact List.Sublist.cons _ ((aiX L).append (al0 _ _))
 exact (z.sub hsub).perm (List.Perm.cons _ ajh)
def Fy {s}(z:Z h0 h L)(G:lJ h0 s N)(f:eZ N){k}(hk:gK N.length 80<=k){r0}(hc:pA k N root=some r0){n}(hn:fuN<=n)(hn2:k+66000<n) :
  Wp (sK n (s,root)) h λr h'=>if r0=0 then r.2=0/\r.1.2=0/\Made h0 h' r.1.1 (oO N root) L else r.2=3/\Z h0 h' L:=by
 unfold sK;refine z.new λx0 h1 z _=>z.new λx1 h2 z _=>?_;refine z.fI 1 (ls:=[.sl,li]) (x:=(s,root)) ?_;rw[ag];refine (sO z G f.bd f.ht (by omega) hc).mono λy h3 hy=>?_;obtain⟨rfl,z⟩:=hy;by_cases h0':y=0
 .subst h0';rw[AT (by simp)];simp;have d:Vd N root:=vT f.bd.2.2 f.bd.1 (by omega) hk hc;refine z.fI 1 (ls:=[.sl,li]) (x:=(s,root)) ?_;rw[ag];refine (Fx z G f d hn).mono λr h4 hr=>?_;obtain⟨r2,m⟩:=hr;obtain⟨out,r2'⟩:=r;simp at r2 m;subst r2;refine m.on λX z back=>?_;refine z.st 0 (cs':=[aC out,vi 0]) λh5 z=>?_;refine z.fI 0 (ls:=[.sl,li]) (x:=(out,0)) (af.2 ⟨rfl,rfl,?_⟩);exact (back h5 (.ar x1 [aC out,vi 0] ah::.ar x0 [aC s,vi root] ah::L) z).sub (List.Sublist.cons _ (List.Sublist.cons _ (aiX _)))
 .simp only[AT h0'];rw[By (by simpa using h0')];refine z.st 0 (cs':=[aI,vi 0]) λh4 z=>?_;refine z.fI 0 (af.2 ⟨rfl,z.drop.drop⟩)
end Go.Sh
