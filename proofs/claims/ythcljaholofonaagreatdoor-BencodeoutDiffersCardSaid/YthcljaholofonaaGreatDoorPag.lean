
import Derived.Test.YthcljaholofonaaGreatDoorPad
import Derived.Test.YthcljaholofonaaGreatDoorPae
import Derived.Test.YthcljaholofonaaGreatDoorPaf
set_option linter.all false
namespace Go.Sh
open Go Go.Ago Go.Proofs
variable {N:List ao}{root:Int}{B:Nat}
def nth (l:ε)(a:Int):Int:=(gt l a).getD 0
def iota (m:Nat):ε:=(List.range m).map (λi:Nat=>(i:Int))
theorem gN m:(iota m).length=m:=by simp[iota]
theorem vc {m i}(hi:i<m):(iota m)[i]?=some (i:Int):=by simp[iota,hi]
def ye m:Good m (iota m):=⟨gN m,λv hv=>by
 grind [iota]⟩
def inM (m:Nat)(cv:Int->Int->Int)(a b:Int):Int:=if 0<=a/\a<m/\0<=b/\b<m then cv a b else 0
noncomputable def acS (cv:Int->Int->Int)(m:Nat):ε:=if h:m<50 then (Oq cv h (ye m)).choose else iota m
noncomputable def OU (cv:Int->Int->Int)(m:Nat):ε:=acS (inM m cv) m
theorem acT cv m:(OU cv m).Perm (iota m):=by
 grind [OU,acS]
def amF {cv}{c:Cx}{P}{h}{n}(hm:c.m<50)(ok:c.OK (inM c.m cv))(hn:c.k+600<=n)(st:c.St P h (iota c.m)):Wp ((cl n).cn (arr c.b c.m) c.x) h λ_ h'=>c.St P h' (OU cv c.m):=by
 unfold OU acS;rw[dif_pos hm];exact (Oq (inM c.m cv) hm (ye c.m)).choose_spec.2 c P h n rfl ok hn st
theorem YB {cv cv'}{m:Nat}(h:∀a b:Int,0<=a->a<m->0<=b->b<m->cv a b=cv' a b):OU cv m=OU cv' m:=by
 have:inM m cv=inM m cv':=by
  funext a b;grind [inM]
 grind [OU]
noncomputable def BR (cv:Int->Int->Int)(x:ao):ε:=if x.kind=10/\x.ord=false then OU (λa b=>cv (nth x.keys a) (nth x.keys b)) x.items.length else iota x.items.length
def MV cv x:(BR cv x).Perm (iota x.items.length):=by
 grind [BR,acT]
theorem acU cv x:(BR cv x).length=x.items.length:=by rw[(MV cv x).length_eq,gN]
def s6 {cv}{x}{a}(ha:a∈BR cv x):0<=a/\a<x.items.length:=(ye _).2 a ((MV cv x).mem_iff.1 ha)
def HS (cv:Int->Int->Int)(x y:ao):ε->ε->Option Int
 |a::p,b::q=>if x.kind=10/\cv (nth x.keys a) (nth y.keys b)≠0 then some (cv (nth x.keys a) (nth y.keys b)) else if cv (nth x.items a) (nth y.items b)≠0 then some (cv (nth x.items a) (nth y.items b)) else HS cv x y p q
 |_,_=>none
noncomputable def QS (cv:Int->Int->Int)(x y:ao):Int:=
 if x.kind<y.kind then -1 else if y.kind<x.kind then 1 else if x.ord≠y.ord then (if y.ord then -1 else 1) else if acR x.kind x.text y.text≠0 then acR x.kind x.text y.text
 else match HS cv x y (BR cv x) (BR cv y) with
  |some c=>c
  |none=>if x.items.length<y.items.length then -1 else if y.items.length<x.items.length then 1 else 0
noncomputable def agJ (N:List ao)(cv:Int->Int->Int)(i j:Int):Int:=match gt N i,gt N j with
 |some x,some y=>QS cv x y
 |_,_=>0
noncomputable def QT (N:List ao):Nat->Int->Int->Int
 |0,_,_=>0
 |f+1,i,j=>agJ N (QT N f) i j
theorem Jq {l}{a:Int}(h0:0<=a)(h:a<l.length):nth l a∈l:=by
 obtain⟨v,hv⟩:=lQ h0 h
 grind [nth,aE]
def Lh {cv cv'}{x}(hl:x.kind=10->x.keys.length=x.items.length)(h:∀u∈x.keys,∀v∈x.keys,cv u v=cv' u v):BR cv x=BR cv' x:=by
 grind [BR,YB,Jq]
def Li {cv cv'}{x y}(h1:x.kind=10->∀u∈x.keys,∀v∈y.keys,cv u v=cv' u v)(h2:∀u∈x.items,∀v∈y.items,cv u v=cv' u v):∀{p q:ε},(∀a∈p,0<=a/\a<x.items.length/\(x.kind=10->a<x.keys.length))->(∀a∈q,0<=a/\a<y.items.length/\(x.kind=10->a<y.keys.length))->HS cv x y p q=HS cv' x y p q
 |[],q,_,_=>by cases q<;>rfl
 |a::p,[],_,_=>rfl
 |a::p,b::q,hp,hq=>by
  obtain⟨a1,a2,a3⟩:=hp a OF;obtain⟨b1,b2,b3⟩:=hq b OF;have e2:=h2 _ (Jq a1 a2) _ (Jq b1 b2);have ih:=Li h1 h2 (λc hc=>hp c (IN _ hc)) λc hc=>hq c (IN _ hc);unfold HS;rw[e2,ih]
  grind [Jq]
def FK {cv cv'}{x y}(hx:x.kind=10->x.keys.length=x.items.length)(hy:y.kind=10->y.keys.length=y.items.length)
  (h:∀u v,(u∈x.keys\/u∈x.items\/u∈y.keys\/u∈y.items)->(v∈x.keys\/v∈x.items\/v∈y.keys\/v∈y.items)->cv u v=cv' u v):QS cv x y=QS cv' x y:=by
 unfold QS;split
 .rfl
 split
 .rfl
 rename_i c1 c2;have hk:x.kind=y.kind:=by omega
 split
 .rfl
 split
 .rfl
 rw[Lh hx λu hu v hv=>h u v (.inl hu) (.inl hv),Lh hy λu hu v hv=>h u v (.inr (.inr (.inl hu))) (.inr (.inr (.inl hv)))];rw[Li (λ_ u hu v hv=>h u v (.inl hu) (.inr (.inr (.inl hv)))) (λu hu v hv=>h u v (.inr (.inl hu)) (.inr (.inr (.inr hv))))
  (λa ha=>⟨(s6 ha).1,(s6 ha).2,λe=>by rw[hx e];exact (s6 ha).2⟩) (λa ha=>⟨(s6 ha).1,(s6 ha).2,λe=>by rw[hy (hk▸e)];exact (s6 ha).2⟩)]
def YC (d:Vd N root){H:Int->Nat}(hH:∀u v,KN N v->Edge N u v->H v<H u):∀t f f' ,t<f->t<f'->∀i j,KN N i->KN N j->H i<=t->H j<=t->QT N f i j=QT N f' i j:=by
 intro t
 induction t with
 |zero=>
  intro f f' h1 h2 i j hi hj hti htj;obtain⟨f,rfl⟩:∃g,f=g+1:=⟨f-1,by omega⟩;obtain⟨f',rfl⟩:∃g,f'=g+1:=⟨f' - 1,by omega⟩;unfold QT agJ;cases ex:gt N i with
  |none=>rfl
  |some x=>
   cases ey:gt N j with
   |none=>rfl
   |some y=>
    refine FK (d.map (aE ex)) (d.map (aE ey)) λu v hu hv=>?_;exfalso;rcases hu with h|h|h|h
    .have:=hH i u (.step hi ⟨x,ex,.inl h⟩) ⟨x,ex,.inl h⟩;omega
    .have:=hH i u (.step hi ⟨x,ex,.inr h⟩) ⟨x,ex,.inr h⟩;omega
    .have:=hH j u (.step hj ⟨y,ey,.inl h⟩) ⟨y,ey,.inl h⟩;omega
    .have:=hH j u (.step hj ⟨y,ey,.inr h⟩) ⟨y,ey,.inr h⟩;omega
 |succ t ih=>
  intro f f' h1 h2 i j hi hj hti htj;obtain⟨f,rfl⟩:∃g,f=g+1:=⟨f-1,by omega⟩;obtain⟨f',rfl⟩:∃g,f'=g+1:=⟨f' - 1,by omega⟩;unfold QT agJ;cases ex:gt N i with
  |none=>rfl
  |some x=>
   cases ey:gt N j with
   |none=>rfl
   |some y=>
    have low:∀u,(u∈x.keys\/u∈x.items\/u∈y.keys\/u∈y.items)->KN N u/\H u<=t:=λu hu=>by
     rcases hu with h|h|h|h
     .have e:Edge N i u:=⟨x,ex,.inl h⟩;have:=hH i u (.step hi e) e;exact⟨.step hi e,by omega⟩
     .have e:Edge N i u:=⟨x,ex,.inr h⟩;have:=hH i u (.step hi e) e;exact⟨.step hi e,by omega⟩
     .have e:Edge N j u:=⟨y,ey,.inl h⟩;have:=hH j u (.step hj e) e;exact⟨.step hj e,by omega⟩
     .have e:Edge N j u:=⟨y,ey,.inr h⟩;have:=hH j u (.step hj e) e;exact⟨.step hj e,by omega⟩
    exact FK (d.map (aE ex)) (d.map (aE ey)) λu v hu hv=>ih f f' (by omega) (by omega) u v (low u hu).1 (low v hv).1 (low u hu).2 (low v hv).2
noncomputable def tY (N:List ao):Int->Int->Int:=QT N (N.length+1)
noncomputable def qR (N:List ao)(i:Int):ε:=match gt N i with
 |some x=>BR (tY N) x
 |none=>[]
def AM {k}{x}(hx:gt N k=some x):(qR N k).length=x.items.length:=by
 grind [qR,acU]
def agK (d:Vd N root){i j}{x y}(hi:KN N i)(hj:KN N j)(ex:gt N i=some x)(ey:gt N j=some y):tY N i j=QS (tY N) x y:=by
 obtain⟨H,hH1,hH2⟩:=d.Yt;have e:tY N i j=QS (QT N N.length) x y:=by
  unfold tY QT agJ
  grind
 rw[e];refine FK (d.map (aE ex)) (d.map (aE ey)) λu v hu hv=>?_;have low:∀u,(u∈x.keys\/u∈x.items\/u∈y.keys\/u∈y.items)->KN N u/\H u<N.length:=λu hu=>by
  have h1:=hH1 i;have h2:=hH1 j;rcases hu with h|h|h|h
  .have e:Edge N i u:=⟨x,ex,.inl h⟩;have:=hH2 i u (.step hi e) e;exact⟨.step hi e,by omega⟩
  .have e:Edge N i u:=⟨x,ex,.inr h⟩;have:=hH2 i u (.step hi e) e;exact⟨.step hi e,by omega⟩
  .have e:Edge N j u:=⟨y,ey,.inl h⟩;have:=hH2 j u (.step hj e) e;exact⟨.step hj e,by omega⟩
  .have e:Edge N j u:=⟨y,ey,.inr h⟩;have:=hH2 j u (.step hj e) e;exact⟨.step hj e,by omega⟩
 have h1:=(low u hu).2;exact YC d hH2 (N.length-1) _ _ (by omega) (by omega) u v (low u hu).1 (low v hv).1 (by grind) (by grind)
end Go.Sh
namespace Go.Sh
open Go Go.Ago Go.Proofs
variable {N N':List ao}{root v:Int}{φ:Int->Int}
structure GG (φ:Int->Int) (x x':ao):Prop where
 k:x'.kind=x.kind
 t:x'.text=x.text
 o:x'.ord=x.ord
 e:∃o:ε,o.Perm (iota x.items.length)/\(¬(x.kind=10/\x.ord=false)->o=iota x.items.length)/\x'.items=o.map (λa=>φ (nth x.items a))/\x'.keys=if x.kind=10 then o.map (λa=>φ (nth x.keys a)) else []
theorem xW {l}{i:Nat}{p}(h:l[i]?=some p):nth l (i:Int)=p:=by
 grind [nth,gt]
section
variable {x x':ao}
def GG.il (E:GG φ x x'):x'.items.length=x.items.length:=by
 obtain⟨o,h1,_,h3,_⟩:=E.e;rw[h3,aii,h1.length_eq,gN]
def GG.kl (E:GG φ x x')(hm:La x)(hk:x.kind≠10->x.keys=[]):x'.keys.length=x.keys.length:=by
 obtain⟨o,h1,_,_,h4⟩:=E.e;rw[h4];by_cases h:x.kind=10
 .rw[By h,aii,h1.length_eq,gN,hm h]
 grind
def GG.to (E:GG φ x x'){a}{p}(h:x.items[a]?=some p):∃a':Nat,x'.items[a']?=some (φ p)/\(x.kind=10->∀k,x.keys[a]?=some k->x'.keys[a']?=some (φ k))/\(¬(x.kind=10/\x.ord=false)->a'=a):=by
 obtain⟨o,h1,h2,h3,h4⟩:=E.e;have hlt:=aN h;have hm:(a:Int)∈o:=h1.mem_iff.2 (by grind [iota]);by_cases hu:x.kind=10/\x.ord=false
 .obtain⟨a',ha'⟩:=List.mem_iff_getElem?.1 hm;refine⟨a',by grind [xW],λhk k hkk=>by rw[h4,By hk,abt,ha'];simp[xW hkk],λq=>absurd hu q⟩
 .have:=h2 hu;subst this;refine⟨a,by grind [vc,xW],λhk k hkk=>by rw[h4,By hk,abt,vc hlt];simp[xW hkk],λ_=>rfl⟩
theorem GG.of (E:GG φ x x'){a'}{p'}(h:x'.items[a']?=some p'):∃(a:Nat) (p:Int),x.items[a]?=some p/\p'=φ p/\(x.kind=10->∀k,x.keys[a]?=some k->x'.keys[a']?=some (φ k))/\(¬(x.kind=10/\x.ord=false)->a'=a):=by
 obtain⟨o,h1,h2,h3,h4⟩:=E.e;rw[h3,abt] at h;cases ho:o[a']? with
 |none=>grind
 |some b=>
  rw[ho] at h;have hb:b∈iota x.items.length:=h1.mem_iff.1 (BY ho);unfold iota at hb;obtain⟨a,ha,rfl⟩:=List.mem_map.1 hb;obtain⟨p,hp⟩:=cG (List.mem_range.1 ha);refine⟨a,p,hp,?_,λhk k hkk=>by rw[h4,By hk,abt,ho];simp[xW hkk],λhu=>?_⟩
  .grind [nth,Option.some.inj,xW]
  grind [aN,gN,vc,Option.some.inj]
end
structure Iso (N:List ao) (v:Int) (N':List ao) (φ:Int->Int):Prop where
 nd:∀u x,ow N v u->gt N u=some x->∃x',gt N' (φ u)=some x'/\GG φ x x'
 inj:∀u w,ow N v u->ow N v w->φ u=φ w->u=w
 sur:∀w,IR N'.length w->∃u,ow N v u/\φ u=w
 len:N'.length<=N.length
section
variable (I:Iso N v N' φ)(g:GV N root)(hv:IR N.length v)
include I g hv
def Iso.ir {u}(h:ow N v u):IR N.length u/\IR N'.length (φ u):=by
 have h1:=h.ir g.ix hv;obtain⟨x,hx⟩:=mK rfl h1;obtain⟨x',hx',_⟩:=I.nd u x h hx
 grind [kF]
def GV.map (g:GV N root){x}(hx:x∈N):La x:=GC (g.fm x hx)
end
def GV.Lj (g:GV N root){x}(hx:x∈N):La x:=GC (g.fm x hx)
end Go.Sh
namespace Go.Sh
open Go Go.Ago Go.Proofs
variable {N N':List ao}{root v:Int}{φ:Int->Int}{x x':ao}
section
variable (I:Iso N v N' φ)(g:GV N root)(hv:IR N.length v)
include I g
include hv
def Iso.node {x'}(h:x'∈N'):∃u x,ow N v u/\gt N u=some x/\gt N' (φ u)=some x'/\GG φ x x':=by
 obtain⟨j,hj⟩:=List.mem_iff_getElem?.1 h;have hlt:=aN hj;obtain⟨u,hu,e⟩:=I.sur (j:Int) ⟨by omega,by omega⟩;obtain⟨x,hx⟩:=mK rfl (I.ir g hv hu).1;obtain⟨y,hy,E⟩:=I.nd u x hu hx
 grind [gt]
end
end Go.Sh
namespace Go.Sh
open Go Go.Ago Go.Proofs
variable {N N':List ao}{root v:Int}{φ:Int->Int}{x x':ao}
theorem GH {γ:Type}{ψ:Int->γ}:∀l ,(iota l.length).map (λa=>ψ (nth l a))=l.map ψ:=λl=>by
 refine anF λi=>?_
 grind [cG,vc,xW,List.getElem?_eq_none,gN]
def GG.items (E:GG φ x x'):x'.items.Perm (x.items.map φ):=by
 obtain⟨o,h1,_,h3,_⟩:=E.e
 grind [nth,GH]
def GG.keys (E:GG φ x x')(hm:La x)(hk:x.kind≠10->x.keys=[]):∃l:ε,l.Perm x.keys/\x'.keys=l.map φ:=by
 obtain⟨o,h1,_,_,h4⟩:=E.e;by_cases h:x.kind=10
 .refine⟨o.map (λa=>nth x.keys a),?_,by simp_all⟩;have:=h1.map (λa=>nth x.keys a);rw[<-hm h,GH (ψ:=λa=>a),List.map_id'] at this
  grind
 simp_all
def Am {u}:∀{X:List ao} {x},x∈X->(refs x).count u<=(X.flatMap refs).count u
 |y::X,x,h=>by
  rw[ahr,anN];rcases List.mem_cons.1 h with rfl|h
  .omega
  .have:=Am (u:=u) h;omega
section
variable (I:Iso N v N' φ)(g:GV N root)(d:Vd N root)(hv:IR N.length v)
include I g d hv
end
end Go.Sh
namespace Go.Sh
open Go Go.Ago Go.Proofs
variable {α β:Type}{h h' h0:aj}{L R:List bA}{N:List ao}{root:Int}{B:Nat}{Q:β->aj->Prop}
def _root_.Go.Ago.Z.Lk (z:Z h0 h L){b o:Nat}{cs:δ}{e:κ}{l:yf}{v:ξ}{x:l.den}{f:l.den->M β}(hm:bA.au b cs e∈L)(hv:cs[o]?=some v)(hx:D9 l v=some x)(q:Wp (f x) h Q):Wp (sh (dz l ⟨b,o,none⟩) f) h Q:=by
 obtain⟨i,hi⟩:=List.mem_iff_getElem?.1 hm;exact z.ld i q hi hv hx
def _root_.Go.Ago.Z.stM (z:Z h0 h (R++L)){b o:Nat}{cs vs cs':δ}{e:κ}{f:Unit->M β}(hm:bA.au b cs e∈L)(hc:aR cs o vs=cs')(ho:o+vs.length<=cs.length)(hs:vs.all fv=true)
  (q:∀(i:Nat) h',L[i]?=some (.au b cs e)->Z h0 h' (R++L.set i (.au b cs' e))->Wp (f ()) h' Q):Wp (sh (sL ⟨b,o,none⟩ vs) f) h Q:=by
 obtain⟨i,hi⟩:=List.mem_iff_getElem?.1 hm;have hi2:(R++L)[R.length+i]?=some (.au b cs e):=by grind
 refine z.st (R.length+i) (λh1 z1=>q i h1 hi ?_) hi2 hc ho hs
 grind
def aP {a}{f}(q:Wp (f a) h Q):Wp (sh (nn (some a)) f) h Q:=by
 rw[ah];exact⟨a,h,rfl,q⟩
structure Y4 where
 tb:Nat
 sb:Nat
 s:Sl
 root:Int
abbrev cs:Option (Nat×ε)->ξ
 |none=>aI
 |some (b,l)=>aA (arr b l.length)
structure Tab (t:Y4) (N:List ao) (C:List (Option (Nat×ε))) (L:List bA):Prop where
 len:C.length=N.length
 MW:bA.au t.tb [aA t.s,vi t.root,aA (arr t.sb N.length)] jP∈L
 OU:bA.au t.sb (C.map cs) aT∈L
 ok:∀k b l,gt C k=some (some (b,l))->l=qR N k/\bA.au b (l.map vi) an∈L
def sK (t:Y4)(N:List ao)(L:List bA):Prop:=∃C,Tab t N C L
def Ext (L L':List bA):Prop:=∀b (l:ε),bA.au b (l.map vi) an∈L->bA.au b (l.map vi) an∈L'
def Ext.refl {L}:Ext L L:=λ_ _ h=>h
theorem Ext.trans {L1 L2 L3}(a:Ext L1 L2)(b:Ext L2 L3):Ext L1 L3:=λx l h=>b x l (a x l h)
def TB {γ:Type}{l:List γ}{i}{x y o}(hi:l[i]?=some x)(ho:o∈l)(hne:o≠x):o∈l.set i y:=by
 obtain⟨j,hj⟩:=List.mem_iff_getElem?.1 ho;have hij:i≠j:=λe=>by grind
 exact List.mem_iff_getElem?.2 ⟨j,by grind⟩
def Ot {γ:Type}{l:List γ}{i}{x y}(hi:l[i]?=some x):y∈l.set i y:=by
 have hlt:=(List.getElem?_eq_some_iff.1 hi).1;exact List.mem_iff_getElem?.2 ⟨i,by grind⟩
theorem Tab.put {t}{C}(T:Tab t N C L){i b}(hi:L[i]?=some (.au t.sb (C.map cs) aT)){k}(hk:IR N.length k) :
  Tab t N (C.set k.toNat (some (b,qR N k))) (.au b ((qR N k).map vi) an::L.set i (.au t.sb ((C.set k.toNat (some (b,qR N k))).map cs) aT)) /\
  Ext L (.au b ((qR N k).map vi) an::L.set i (.au t.sb ((C.set k.toNat (some (b,qR N k))).map cs) aT)):=by
 have ne1:∀(b:Nat) (c:δ),bA.au b c an≠.au t.sb (C.map cs) aT:=λb c e=>by grind
 have ne2:∀(b:Nat) (c:δ),bA.au b c jP≠.au t.sb (C.map cs) aT:=λb c e=>by grind
 have ext:∀{o:bA},o∈L->o≠.au t.sb (C.map cs) aT->o∈bA.au b ((qR N k).map vi) an::L.set i (.au t.sb ((C.set k.toNat (some (b,qR N k))).map cs) aT):=
  λh1 h2=>IN _ (TB hi h1 h2)
 refine⟨⟨by rw[anA];exact T.len,ext T.MW (ne2 _ _),IN _ (Ot hi),λk' b' l hg=>?_⟩,λb' l hm=>ext hm (ne1 _ _)⟩;rw[fG (by rw[T.len];exact hk)] at hg;split at hg
 .grind
 .obtain⟨h1,h2⟩:=T.ok k' b' l hg
  grind
def amG {m b}(hm:m<1073741824) a0 a1 a2 :
  ∀n i h L ,m-i<n->i<=m->Z h0 h (.au b (((iota m).take i++List.replicate (m-i) 0).map vi) an::L) ->
   Wp ((cl n).gb a0 a1 a2 (arr b m) (m:Int) (i:Int)) h λ_ h'=>Z h0 h' (.au b ((iota m).map vi) an::L):=by
 intro n
 induction n with
 |zero=>intro i h L h1;omega
 |succ n ih=>
  intro i h L h1 h2 z;show Wp (oq (cl n) n a0 a1 a2 (arr b m) (m:Int) (i:Int)) h _;unfold oq;have hl:=gN m;by_cases hi:i<m
  .rw[By (by grind)];refine ze (by omega) (by omega) ?_;rw[IS,adY];refine z.Cb 0 (xs:=(iota m).take i++List.replicate (m-i) 0) (by grind) (λh3 z=>?_);have hf:=fill (vc hi);rw[hl] at hf;rw[hf] at z;rw[pA h2 (by omega)];exact ih (i+1) h3 L (by omega) (by omega) z
  .rw[AT (by grind),ag]
   grind
def YD (h0:aj)(t:Y4)(N:List ao)(fc:Nat)(i j:Int):Prop:=∀(n:Nat) (h:aj) (R L:List bA),fc<=n->sK t N L->Z h0 h (R++L) ->
 Wp ((cl n).iB (some (ak t.tb)) i (some (ak t.tb)) j none) h λr h'=>r=tY N i j/\∃L',sK t N L'/\Ext L L'/\Z h0 h' (R++L')
def HU (h0:aj)(t:Y4)(N:List ao)(fe:Nat)(k:Int)(m:Nat):Prop:=∀(n:Nat) (h:aj) (R L:List bA),fe<=n->sK t N L->Z h0 h (R++L) ->
 Wp ((cl n).eW (some (ak t.tb)) k) h λr h'=>∃b L',r=arr b m/\bA.au b ((qR N k).map vi) an∈L'/\sK t N L'/\Ext L L'/\Z h0 h' (R++L')
def acV {C}{k}{c}(hc:gt C k=some c):(C.map cs)[k.toNat*1]?=some (cs c):=by
 rw[adY,abt,(ax hc).2];rfl
def DO {γ:Type}{a:γ}{R L}:(a::(R++L)).Perm (R++a::L):=List.perm_middle.symm
def acW {t}(G:iK h0 t.s N)(d:Vd N root)(hB:Bd N B){fc}{k}{x}(hx:gt N k=some x)(hsm:x.kind=10->x.items.length<50)(hc:∀u∈x.keys,∀v∈x.keys,YD h0 t N fc u v) :
  HU h0 t N (fc+700+B) k x.items.length:=by
 intro n h R L hn ⟨C,T⟩ z;have hNB:=hB.2.1;obtain⟨_,hBi⟩:=hB.2.2 x (aE hx);have hkr:IR N.length k:=kF hx;obtain⟨n,rfl⟩:∃n',n=n'+1:=⟨n-1,by omega⟩;show Wp (qO (cl n) n (some (ak t.tb)) k) h _;unfold qO;refine z.new λx0 h1 z _=>?_;refine z.ld 0 (aP ?_);refine z.Lk (x:=t.s) (IN _ (adr _ T.MW)) rfl rfl ?_;obtain⟨g1,g2⟩:=ax hx;refine G.Wf z g1 g2 λa ks is nd=>?_;refine z.new λx5 h2 z _=>?_;refine z.st 0 (cs':=[Value.pointer (some a)]) λh3 z=>?_;have z:Z h0 h3 (.au x5 [Value.pointer (some a)] fS::.au x0 [Value.pointer (some (ak t.tb))] dv::(R++L)):=z;have memL:∀{o:bA},o∈L->o∈bA.au x5 [Value.pointer (some a)] fS::.au x0 [Value.pointer (some (ak t.tb))] dv::(R++L):=λh=>IN _ (IN _ (adr _ h));refine z.ld 1 (aP ?_);refine z.Lk (x:=arr t.sb N.length) (memL T.MW) rfl rfl ?_;obtain⟨c,hcC⟩:=mK T.len hkr;refine ze g1 hkr.2 ?_;cases c with
 |some e=>
  obtain⟨b,l⟩:=e;obtain⟨hl,hm⟩:=T.ok k b l hcC;refine z.Lk (x:=arr b l.length) (memL T.OU) (acV hcC) rfl ?_;rw[By (by rfl)];refine z.ld 1 (aP ?_);refine z.Lk (x:=arr t.sb N.length) (memL T.MW) rfl rfl ?_;refine ze g1 hkr.2 ?_;refine z.Lk (x:=arr b l.length) (memL T.OU) (acV hcC) rfl (ag.2 ?_);subst hl;exact⟨b,L,by rw[AM hx],hm,⟨C,T⟩,.refl,z.drop.drop⟩
 |none=>
  refine z.Lk (x:=oz) (memL T.OU) (acV hcC) rfl ?_;rw[AT (by simp)];refine z.ld 0 (aP ?_);refine (nd.fr z.fr).Hh ?_;have hlen:is.len=x.items.length:=nd.items.len;rw[hlen];refine z.Ig (by omega) (by grind [bJ]) λb h4 z _=>?_;rw[IS] at z⊢;rw[lH] at z;have z0:Z h0 h4 (.au b (((iota x.items.length).take 0++List.replicate (x.items.length-0) 0).map vi) an::.au x5 [Value.pointer (some a)] fS::.au x0 [Value.pointer (some (ak t.tb))] dv::(R++L)):=by grind
  rw[ah];refine (amG (by omega) k (ak x0) (ak x5) n 0 h4 _ (by omega) (by omega) z0).mono λ_ h5 z=>?_;refine z.ld 1 (aP ?_);refine (nd.fr z.fr).Sa ?_;have store:∀(h:aj) (L:List bA) (C:List (Option (Nat×ε))) (l:ε),l=qR N k->Tab t N C L->Z h0 h (.au b (l.map vi) an::.au x5 [Value.pointer (some a)] fS::.au x0 [Value.pointer (some (ak t.tb))] dv::(R++L)) ->
    Wp (sh (dz .ptr (ak x0)) λ(x20:θ)=>sh (nn x20) λx21=>sh (dz .sl (x21.plus 2)) λ(x22:Sl)=>sh (ni x22 k 1) λx23=>sh (sL x23 [aA (arr b x.items.length)]) λx24=>AI (arr b x.items.length)) h λr h'=>
     ∃b L',r=arr b x.items.length/\bA.au b ((qR N k).map vi) an∈L'/\sK t N L'/\Ext L L'/\Z h0 h' (R++L'):=by
   intro h L C l hl T z;subst hl;refine z.ld 2 (aP ?_);refine z.Lk (x:=arr t.sb N.length) (IN _ (IN _ (IN _ (adr _ T.MW)))) rfl rfl ?_;refine ze g1 hkr.2 ?_;have hsp:aR (C.map cs) (k.toNat*1) [aA (arr b x.items.length)]=(C.set k.toNat (some (b,qR N k))).map cs:=by
    rw[adY,<-yv (by rw[T.len];grind)];simp[cs,AM hx]
   refine Z.stM (R:=.au b ((qR N k).map vi) an::.au x5 [Value.pointer (some a)] fS::.au x0 [Value.pointer (some (ak t.tb))] dv::R) z T.OU hsp (by rw[aii,T.len,adY];grind) rfl λi h' hi z=>ag.2 ?_;obtain⟨T',E'⟩:=T.put (b:=b) hi hkr;refine⟨b,_,rfl,OF,⟨_,T'⟩,E',Z.perm (Z.sub z ?_) DO⟩
   simp_all
  by_cases hk:x.kind=10
  .rw[By (by grind)];refine z.ld 1 (aP ?_);refine (nd.fr z.fr).ldO ?_;have hkl:=d.map (aE hx) hk;cases ho:x.ord with
   |true=>
    rw[Ld];have e:iota x.items.length=qR N k:=by
     grind [qR,BR]
    exact store h5 L C _ e T z
   |false=>
    rw[Lc];unfold ot
    let cx:Cx:=⟨h0,b,x.items.length,Value.func (Fn.func kA) #[] #[Value.pointer (some (ak x0)),Value.pointer (some (ak x5))],fc+1,λLx=>∃L1,Lx=.au x5 [Value.pointer (some a)] fS::.au x0 [Value.pointer (some (ak t.tb))] dv::L1/\sK t N L1/\Ext L L1⟩
    have okc:cx.OK (inM cx.m λu v=>tY N (nth x.keys u) (nth x.keys v)):=by
     intro n u v h R2 Lx hn hu hu2 hv hv2 ⟨L1,e,T1,E1⟩ z;subst e;have hu2:u<(x.items.length:Int):=hu2;have hv2:v<(x.items.length:Int):=hv2;obtain⟨n,rfl⟩:∃n',n=n'+1:=⟨n-1,by grind⟩;have hn:fc+1<=n+1:=hn;show Wp (aw (cl (n+1)) (n+1) (Value.func (Fn.func kA) #[] #[Value.pointer (some (ak x0)),Value.pointer (some (ak x5))]) u v) h _;unfold aw;rw[AT (by exact Bool.false_ne_true),By (by rfl),ah];refine lD (c:=((ak x0,ak x5):Addr×Addr)) rfl ?_;show Wp (pj (cl n) n u v (ak x0) (ak x5)) h _;unfold pj;have m5:bA.au x5 [Value.pointer (some a)] fS∈R2++(.au x5 [Value.pointer (some a)] fS::.au x0 [Value.pointer (some (ak t.tb))] dv::L1):=adr _ OF;have m0:bA.au x0 [Value.pointer (some (ak t.tb))] dv∈R2++(.au x5 [Value.pointer (some a)] fS::.au x0 [Value.pointer (some (ak t.tb))] dv::L1):=adr _ (IN _ OF);obtain⟨ku,hku⟩:=lQ (l:=x.keys) hu (by omega);obtain⟨kv,hkv⟩:=lQ (l:=x.keys) hv (by omega);have ndz:=nd.fr z.fr;refine z.Lk m0 rfl rfl ?_;refine z.Lk m5 rfl rfl (aP ?_);refine ndz.Fj (ndz.keys.ix hu (ax hku).2 λ_ _ c1=>c1.mN (l:=li) rfl rfl ?_);refine z.Lk m0 rfl rfl ?_;refine z.Lk m5 rfl rfl (aP ?_);refine ndz.Fj (ndz.keys.ix hv (ax hkv).2 λ_ _ c1=>c1.mN (l:=li) rfl rfl ?_);rw[ah];have z2:Z h0 h ((R2++[.au x5 [Value.pointer (some a)] fS,.au x0 [Value.pointer (some (ak t.tb))] dv])++L1):=(by grind);refine (hc ku (aE hku) kv (aE hkv) n h _ L1 (by omega) T1 z2).mono λr h' hr=>ag.2 ?_;obtain⟨rfl,L2,T2,E2,z3⟩:=hr;refine⟨?_,_,⟨L2,rfl,T2,E1.trans E2⟩,by grind⟩
     grind [inM,nth]
    have st:cx.St R h5 (iota cx.m):=by
     refine⟨_,⟨L,rfl,⟨C,T⟩,.refl⟩,?_⟩;refine Z.perm z (List.Perm.cons _ ?_);exact (List.Perm.cons _ DO).trans DO
    rw[ah];refine (amF (cv:=λu v=>tY N (nth x.keys u) (nth x.keys v)) (c:=cx) (hsm hk) okc (by grind) st).mono λ_ h6 hs=>?_;obtain⟨Lx,⟨L1,rfl,⟨C1,T1⟩,E1⟩,z6⟩:=hs;have z6:Z h0 h6 (.au b ((OU (λu v=>tY N (nth x.keys u) (nth x.keys v)) x.items.length).map vi) an::.au x5 [Value.pointer (some a)] fS::.au x0 [Value.pointer (some (ak t.tb))] dv::(R++L1)):=by
     refine Z.perm z6 (List.Perm.cons _ ?_);exact ((List.Perm.cons _ DO).trans DO).symm
    have e:OU (λu v=>tY N (nth x.keys u) (nth x.keys v)) x.items.length=qR N k:=by
     unfold qR BR;grind
    exact (store h6 L1 C1 _ e T1 z6).mono λr h7 hr=>by
     obtain⟨b',L',q1,q2,q3,q4,q5⟩:=hr;exact⟨b',L',q1,q2,q3,E1.trans q4,q5⟩
  .rw[AT (by grind)];have e:iota x.items.length=qR N k:=by
    grind [qR,BR]
   exact store h5 L C _ e T z
end Go.Sh
namespace Go.Sh
open Go Go.Ago Go.Proofs
variable {α β:Type}{h h' h0:aj}{L R:List bA}{N:List ao}{root:Int}{B:Nat}{Q:β->aj->Prop}
def DP {c}{a v}(hg:gt c a=some v):(c.map vi)[a.toNat*1]?=some (vi v):=by
 rw[adY,abt,(ax hg).2];rfl
def Vl {c:ε}{i:Nat}{v}(hg:gt c (i:Int)=some v):c.drop i=v::c.drop (i+1):=by
 have:=(ax hg).2
 grind [Int.toNat_natCast,drop_cons]
def amH {t}{fc}{x y}{a a'}{ks is ks' is'}(nd:Ji h0 a x ks is)(nd':Ji h0 a' y ks' is'){bp bq}{p q:ε}
  (hp:∀u∈p,0<=u/\u<x.items.length/\(x.kind=10->u<x.keys.length)) (hq:∀u∈q,0<=u/\u<y.items.length/\(x.kind=10->u<y.keys.length)) (hbig:p.length<1073741824)
  (hc:∀u,u∈x.keys\/u∈x.items->∀v,v∈y.keys\/v∈y.items->YD h0 t N fc u v):∀n i h R L ,fc+(min p.length q.length-i)+1<=n->i<=min p.length q.length->bA.au bp (p.map vi) an∈L->bA.au bq (q.map vi) an∈L->sK t N L->Z h0 h (R++L) ->
  Wp ((cl n).jh (some (ak t.tb)) (some (ak t.tb)) none (some a) (some a') (arr bp p.length) (arr bq q.length) ((min p.length q.length:Nat):Int) (i:Int)) h λr h'=>
   r=(match HS (tY N) x y (p.drop i) (q.drop i) with|some c=>.inr c|none=>.inl ())/\∃L',sK t N L'/\Ext L L'/\Z h0 h' (R++L'):=by
 intro n
 induction n with
 |zero=>intro i h R L h1;omega
 |succ n ih=>
  intro i h R L h1 h2 mp mq T z;show Wp (nJ (cl n) n (some (ak t.tb)) (some (ak t.tb)) none (some a) (some a') (arr bp p.length) (arr bq q.length) ((min p.length q.length:Nat):Int) (i:Int)) h _;unfold nJ;by_cases hi:i<min p.length q.length
  .rw[By (by grind)];obtain⟨u,hu⟩:=lQ (l:=p) (v:=(i:Int)) (by omega) (by omega);obtain⟨v,hv⟩:=lQ (l:=q) (v:=(i:Int)) (by omega) (by omega);obtain⟨u1,u2,u3⟩:=hp u (aE hu);obtain⟨v1,v2,v3⟩:=hq v (aE hv);rw[Vl hu,Vl hv];obtain⟨iu,hiu⟩:=lQ u1 u2;obtain⟨iv,hiv⟩:=lQ v1 v2;have next:∀(h:aj) (L:List bA),tY N iu iv=0->bA.au bp (p.map vi) an∈L->bA.au bq (q.map vi) an∈L->sK t N L->Z h0 h (R++L) ->
     Wp ((cl n).jh (some (ak t.tb)) (some (ak t.tb)) none (some a) (some a') (arr bp p.length) (arr bq q.length) ((min p.length q.length:Nat):Int) (IntKind.i64.wrap ((i:Int)+1))) h λr h'=>
      r=(match HS (tY N) x y (p.drop (i+1)) (q.drop (i+1)) with|some c=>.inr c|none=>.inl ())/\∃L',sK t N L'/\Ext L L'/\Z h0 h' (R++L'):=by
    intro h L _ mp mq T z;rw[pA (by omega) hbig];exact ih (i+1) h R L (by omega) (by omega) mp mq T z
   have J0:∀(h:aj) (L:List bA),(x.kind=10->tY N (nth x.keys u) (nth y.keys v)=0)->bA.au bp (p.map vi) an∈L->bA.au bq (q.map vi) an∈L->sK t N L->Z h0 h (R++L) ->
     Wp (fO (cl n) n (some (ak t.tb)) (some (ak t.tb)) none (some a) (some a') (arr bp p.length) (arr bq q.length) (i:Int) ((min p.length q.length:Nat):Int) (i:Int)) h λr h'=>
      r=(match HS (tY N) x y (u::p.drop (i+1)) (v::q.drop (i+1)) with|some c=>.inr c|none=>.inl ())/\∃L',sK t N L'/\Ext L L'/\Z h0 h' (R++L'):=by
    intro h L hk mp mq T z;unfold fO;refine aP (ze (by omega) (by omega) (aP (ze (by omega) (by omega) ?_)));have ndz:=nd.fr z.fr;have ndz':=nd'.fr z.fr;refine ndz.Hh ?_;refine z.Lk (adr _ mp) (DP hu) rfl ?_;refine ndz.items.ix u1 (ax hiu).2 λ_ _ c1=>c1.mN (l:=li) rfl rfl ?_;refine ndz'.Hh ?_;refine z.Lk (adr _ mq) (DP hv) rfl ?_;refine ndz'.items.ix v1 (ax hiv).2 λ_ _ c1=>c1.mN (l:=li) rfl rfl ?_;rw[ah];refine (hc iu (.inr (aE hiu)) iv (.inr (aE hiv)) n h R L (by omega) T z).mono λr h' hr=>?_;obtain⟨rfl,L',T',E',z'⟩:=hr;have e1:nth x.items u=iu:=(by grind [nth]);have e2:nth y.items v=iv:=(by grind [nth]);have eq:HS (tY N) x y (u::p.drop (i+1)) (v::q.drop (i+1))=if tY N iu iv≠0 then some (tY N iu iv) else HS (tY N) x y (p.drop (i+1)) (q.drop (i+1)):=by
     conv=>lhs;unfold HS
     grind
    rw[eq];by_cases h0':tY N iu iv=0
    .rw[AT (by grind),AT (show ¬(tY N iu iv≠0) from λe=>e h0')];exact (next h' L' h0' (E' _ _ mp) (E' _ _ mq) T' z').mono λr h2 hr=>⟨hr.1,by obtain⟨L2,t2,e2,z2⟩:=hr.2;exact⟨L2,t2,E'.trans e2,z2⟩⟩
    .rw[By (by grind),By h0'];exact ag.2 ⟨rfl,L',T',E',z'⟩
   refine aP ?_;refine (nd.fr z.fr).Sa ?_;by_cases hk:x.kind=10
   .rw[By (by grind)];refine aP (ze (by omega) (by omega) (aP (ze (by omega) (by omega) ?_)));have ndz:=nd.fr z.fr;have ndz':=nd'.fr z.fr;obtain⟨ku,hku⟩:=lQ u1 (u3 hk);obtain⟨kv,hkv⟩:=lQ v1 (v3 hk);refine ndz.Fj ?_;refine z.Lk (adr _ mp) (DP hu) rfl ?_;refine ndz.keys.ix u1 (ax hku).2 λ_ _ c1=>c1.mN (l:=li) rfl rfl ?_;refine ndz'.Fj ?_;refine z.Lk (adr _ mq) (DP hv) rfl ?_;refine ndz'.keys.ix v1 (ax hkv).2 λ_ _ c1=>c1.mN (l:=li) rfl rfl ?_;rw[ah];refine (hc ku (.inl (aE hku)) kv (.inl (aE hkv)) n h R L (by omega) T z).mono λr h' hr=>?_;obtain⟨rfl,L',T',E',z'⟩:=hr;have e1:nth x.keys u=ku:=(by unfold nth;grind);have e2:nth y.keys v=kv:=(by unfold nth;grind);by_cases h0':tY N ku kv=0
    .rw[AT (by grind)];exact (J0 h' L' (λ_=>by grind) (E' _ _ mp) (E' _ _ mq) T' z').mono λr h2 hr=>⟨hr.1,by obtain⟨L2,t2,e2,z2⟩:=hr.2;exact⟨L2,t2,E'.trans e2,z2⟩⟩
    .rw[By (by grind)];unfold HS;rw[e1,e2,By ⟨hk,h0'⟩];exact ag.2 ⟨rfl,L',T',E',z'⟩
   .rw[AT (by grind)];exact J0 h L (λe=>absurd e hk) mp mq T z
  .rw[AT (by grind)];refine ag.2 ⟨?_,L,T,.refl,z⟩;have:p.drop i=[]\/q.drop i=[]:=by
    grind
   rcases this with e|e
   .rw[e];cases q.drop i<;>rfl
   .rw[e];cases p.drop i<;>rfl
def amI {t}(G:iK h0 t.s N)(d:Vd N root)(hB:Bd N B)(ht:∀x∈N,x.text.size<=65536){fc fe}{i j}{x y}(hx:gt N i=some x)(hy:gt N j=some y)(hi:KN N i)(hj:KN N j)
  (hfe:65600<=fe) (hfc:fc+B<=fe) (ei:HU h0 t N fe i x.items.length) (ej:HU h0 t N fe j y.items.length) (hc:∀u,u∈x.keys\/u∈x.items->∀v,v∈y.keys\/v∈y.items->YD h0 t N fc u v):YD h0 t N (fe+10) i j:=by
 intro n h R L hn T z;have hBB:=hB.2.1;obtain⟨n,rfl⟩:∃n',n=n'+2:=⟨n-2,by omega⟩;show Wp (qv (cl (n+1)) (n+1) (some (ak t.tb)) i (some (ak t.tb)) j none) h _;unfold qv;rw[ah];refine⟨((false,0):Bool×Int),h,rfl,?_⟩;show Wp (sh ((cl (n+1)).p9 (some (ak t.tb)) i (some (ak t.tb)) j none) _) h _;rw[ah];rw[agK d hi hj hx hy];have main:Wp (rM (cl n) n (some (ak t.tb)) i (some (ak t.tb)) j none) h λr h'=>r=QS (tY N) x y/\∃L',sK t N L'/\Ext L L'/\Z h0 h' (R++L'):=by
  unfold rM QS;obtain⟨C,TC⟩:=T;have tabm:=adr R TC.MW;refine aP (aP ?_);refine z.Lk (x:=t.s) tabm rfl rfl ?_;refine G.Wf z (ax hx).1 (ax hx).2 λa ks is nd=>?_;refine z.Lk (x:=t.s) tabm rfl rfl ?_;refine G.Wf z (ax hy).1 (ax hy).2 λa' ks' is' nd'=>?_;have ndz:=nd.fr z.fr;have ndz':=nd'.fr z.fr;refine aP (aP (ndz.Sa (ndz'.Sa ?_)));by_cases c1:x.kind<y.kind
  .rw[By (by grind),By c1];exact ag.2 ⟨rfl,L,⟨C,TC⟩,.refl,z⟩
  rw[AT (by grind),AT c1];refine aP (aP (ndz.Sa (ndz'.Sa ?_)));by_cases c2:y.kind<x.kind
  .rw[By (by grind),By c2];exact ag.2 ⟨rfl,L,⟨C,TC⟩,.refl,z⟩
  rw[AT (by grind),AT c2];have hk:x.kind=y.kind:=by omega
  refine aP (aP (ndz.ldO (ndz'.ldO ?_)));by_cases c3:x.ord=y.ord
  .rw[AT (by grind),AT (by grind)];refine aP (aP (aP (ndz.Sa (ndz.O0 (ndz'.O0 ?_)))));have hsx:=ht x (aE hx);have hsy:=ht y (aE hy);refine z.call (QR hsx hsy (by omega) z.wf) λr h1 hr f1 z1=>?_;subst hr;by_cases c4:acR x.kind x.text y.text=0
   .rw[AT (by grind),AT (by grind)];rw[ah];refine (ei n h1 R L (by omega) ⟨C,TC⟩ z1).mono λr h2 hr=>?_;obtain⟨bp,L1,rfl,mp,T1,E1,z2⟩:=hr;rw[ah];refine (ej n h2 R L1 (by omega) T1 z2).mono λr h3 hr=>?_;obtain⟨bq,L2,rfl,mq,T2,E2,z3⟩:=hr;have lp:=AM hx;have lq:=AM hy;have hbx:=(hB.2.2 x (aE hx)).2;have hby:=(hB.2.2 y (aE hy)).2;have em:(if ((arr bq y.items.length).len:Int)<((arr bp x.items.length).len:Int) then ((arr bq y.items.length).len:Int) else ((arr bp x.items.length).len:Int))=((min (qR N i).length (qR N j).length:Nat):Int):=by
     rw[lp,lq];show (if (y.items.length:Int)<(x.items.length:Int) then (y.items.length:Int) else (x.items.length:Int))=_
     grind
    rw[em];rw[ah];have ox:qR N i=BR (tY N) x:=(by grind [qR]);have oy:qR N j=BR (tY N) y:=(by grind [qR]);have key:=amH nd nd' (λu hu=>by
      rw[ox] at hu;have:=s6 hu;exact⟨this.1,this.2,λe=>by rw[d.map (aE hx) e];grind⟩) (λu hu=>by
      rw[oy] at hu;have:=s6 hu;exact⟨this.1,this.2,λe=>by rw[d.map (aE hy) (hk▸e)];grind⟩) (by omega) hc n 0 h3 R L2 (by omega) (by omega) (E2 _ _ mp) mq T2 z3
    rw[lp,lq] at key;rw[lp,lq];refine key.mono λr h4 hr=>?_;obtain⟨hr,L3,T3,E3,z4⟩:=hr;rw[alZ,alZ,ox,oy] at hr;have fin:∃L',sK t N L'/\Ext L L'/\Z h0 h4 (R++L'):=⟨L3,T3,(E1.trans E2).trans E3,z4⟩;cases hd:HS (tY N) x y (BR (tY N) x) (BR (tY N) y) with
    |some c=>rw[hd] at hr;subst hr;exact ag.2 ⟨rfl,fin⟩
    |none=>
     rw[hd] at hr;subst hr;show Wp (if decide ((x.items.length:Int)<(y.items.length:Int))=true then AI (-1) else if decide ((y.items.length:Int)<(x.items.length:Int))=true then AI 1 else AI 0) h4 _;by_cases l1:x.items.length<y.items.length
     .rw[By (by grind)];simp[By l1];exact ag.2 ⟨rfl,fin⟩
     .rw[AT (by grind)];simp only[AT l1];by_cases l2:y.items.length<x.items.length
      .rw[By (by grind)];simp[By l2];exact ag.2 ⟨rfl,fin⟩
      .rw[AT (by grind)];simp[AT l2];exact ag.2 ⟨rfl,fin⟩
   .rw[By (by grind),By c4];exact ag.2 ⟨rfl,L,⟨C,TC⟩,.refl,z1⟩
  .rw[By (by grind),By c3];refine aP (ndz'.ldO ?_);cases y.ord
   .exact ag.2 ⟨rfl,L,⟨C,TC⟩,.refl,z⟩
   .exact ag.2 ⟨rfl,L,⟨C,TC⟩,.refl,z⟩
 refine main.mono λr h1 hr=>?_;rw[AT (by simp)];exact ag.2 hr
def fuC (B d:Nat):Nat:=66000+d*(2*B+800)
def agL {t}(G:iK h0 t.s N)(d:Vd N root)(hB:Bd N B)(ht:∀x∈N,x.text.size<=65536)(hsm:∀x∈N,x.kind=10->x.items.length<50){H:Int->Nat}(hH:∀u v,KN N v->Edge N u v->H v<H u) :
  ∀e ,(∀i j,KN N i->KN N j->H i<e->H j<e->YD h0 t N (fuC B e) i j)/\∀k x,gt N k=some x->H k<=e->HU h0 t N (fuC B e+700+B) k x.items.length:=by
 intro e
 induction e with
 |zero=>
  refine⟨λi j _ _ h1=>absurd h1 (by omega),λk x hx hk=>acW G d hB hx (hsm x (aE hx)) λu hu v hv=>?_⟩;have:=hH k u (.key (aE hx) hu) ⟨x,hx,.inl hu⟩;omega
 |succ e ih=>
  have cmp:∀i j,KN N i->KN N j->H i<e+1->H j<e+1->YD h0 t N (fuC B (e+1)) i j:=λi j hi hj h1 h2=>by
   obtain⟨x,hx⟩:=mK rfl (hi.ir d.ix);obtain⟨y,hy⟩:=mK rfl (hj.ir d.ix);have:=amI G d hB ht hx hy hi hj (fc:=fuC B e) (by grind [fuC]) (by omega) (ih.2 i x hx (by omega)) (ih.2 j y hy (by omega)) λu hu v hv=>by
    have eu:Edge N i u:=⟨x,hx,hu⟩;have ev:Edge N j v:=⟨y,hy,hv⟩;have q1:=hH i u (.step hi eu) eu;have q2:=hH j v (.step hj ev) ev;exact ih.1 u v (.step hi eu) (.step hj ev) (by omega) (by omega)
   intro n h R L hn T z;refine this n h R L ?_ T z
   grind [fuC]
  refine⟨cmp,λk x hx hk=>?_⟩;refine acW G d hB hx (hsm x (aE hx)) λu hu v hv=>?_;have q1:=hH k u (.key (aE hx) hu) ⟨x,hx,.inl hu⟩;have q2:=hH k v (.key (aE hx) hv) ⟨x,hx,.inl hv⟩;exact cmp u v (.key (aE hx) hu) (.key (aE hx) hv) (by omega) (by omega)
def fuE (B:Nat):Nat:=fuC B B+700+B
def Ll {t}(G:iK h0 t.s N)(d:Vd N root)(hB:Bd N B)(ht:∀x∈N,x.text.size<=65536)(hsm:∀x∈N,x.kind=10->x.items.length<50){k}{x}(hx:gt N k=some x):HU h0 t N (fuE B) k x.items.length:=by
 obtain⟨H,hH1,hH2⟩:=d.Yt;have h1:=(agL G d hB ht hsm hH2 N.length).2 k x hx (hH1 k);intro n h R L hn T z;refine h1 n h R L ?_ T z;have h2:fuC B N.length<=fuC B B:=apX (aiM _ hB.1) _
 grind [fuE]
end Go.Sh
namespace Go.Ago
open Go
variable {α β:Type}{h h' h0:aj}{L:List bA}
def Z.GI (z:Z h0 h L) i {st}{s}{sz n}{e}{cs new}{g}{f:Sl->M β}{Q}(hi:L[i]?=some (.sl s sz e cs g))(hn:n≠0)(hl:new.length=n*sz)(hb:s.len+n<=bJ)
  (q:∀s' h' g',s'.len=s.len+n->Z h0 h' (L.set i (.sl s' sz e (cs++new) g'))->Fr (·=g) h h'->Wp (f s') h' Q):Wp (sh (Ago.app st s sz e n new) f) h Q:=by
 rw[ah];have o:nv h s sz e cs g:=z.get i hi;refine o.app z.wf hn hl hb λs' h' g' h1 hcap h2 h3 h4=>q s' h' g' h1 ?_ h4;by_cases hg:g=0
 .have h3:=h3.resolve_left (λx=>x.2 hg);have f0:Fr (λ_=>False) h h':=⟨h4.wf,h4.next,λj c g2 b e2 hj _=>h4.cells j c g2 b e2 hj λe3=>by grind,λg2 h5 _=>h4.sx g2 h5 λe3=>by grind,h4.used,h4.none,λj x hj _=>h4.maps j x hj (by omega)⟩
  have z1:=z.add f0 (o:=.sl s' sz e (cs++new) g') h2 (.inr (by simp[bA.jU];omega));refine⟨z1.OS,z1.fr,λx hx=>z1.own x ?_,CU pH (List.pairwise_cons.1 z1.xB).2 λj y hj hne e2=>(List.pairwise_cons.1 z1.xB).1 y (BY hj) e2⟩
  grind
 .refine z.wE hi hg h4 h2 ?_
  grind [bA.jU]
theorem Z.qH (z:Z h0 h L) i {m}{kt}{fn}{n}{k v}{f:Unit->M β}{Q}(hi:L[i]?=some (.map m kt fn n))
  (q:∀h' n',Z h0 h' (L.set i (.map m kt (Fc fn k v) n'))->Wp (f ()) h' Q):Wp (sh (Ju kt (some m) k v) f) h Q:=by
 rw[ah];exact MB.apK (z.get i hi) z.wf λh' l fr=>q h' _ (z.wE hi (by simp[bA.jU]) fr l (.inl rfl))
end Go.Ago
namespace Go.Sh
open Go Go.Ago Go.Proofs
variable {N:List ao}{root:Int}{B:Nat}
structure NS where
 at':ε
 wV:Nat
 out:List ao
def nd0:ao:=⟨0,ofBytes [],false,[],[]⟩
def neg (l:ε):Nat:=l.countP (λv=>decide (v<0))
def aqg (N:List ao)(m:Nat)(y:ao):Prop:=y=nd0\/∃x∈N,y.kind=x.kind/\y.text=x.text/\y.ord=x.ord/\y.items.length=x.items.length/\y.keys.length=x.keys.length/\(∀v∈y.keys,IR m v)/\∀v∈y.items,IR m v
structure NOK (N:List ao) (S:NS):Prop where
 la:S.at'.length=N.length
 lo:S.out.length=N.length
 le:∀v∈S.at',v<(S.wV:Int)
 sum:neg S.at'+S.wV=N.length
 fr:∀y∈S.out,aqg N N.length y
def agM {γ:Type}{l:List γ}{i}{x y}(h:y∈l.set i x):y∈l\/y=x:=by
 grind
end Go.Sh
namespace Go.Sh
open Go Go.Ago Go.Proofs
variable {N:List ao}{root:Int}{S S1 S2 S':NS}
def nmb (S:NS)(u:Int):Int:=(gt S.at' u).getD 0
def Num (S:NS)(u:Int):Prop:=∃a,gt S.at' u=some a/\0<=a
theorem Num.gt {u}(h:Num S u):gt S.at' u=some (nmb S u)/\0<=nmb S u:=by
 obtain⟨a,h1,h2⟩:=h
 grind [nmb]
def aoP (N:List ao)(S:NS)(u:Int):Prop:=∃x,Sh.gt N u=some x/\Num S u/\(∀c,Edge N u c->Num S c) /\
 Sh.gt S.out (nmb S u)=some ⟨x.kind,x.text,x.ord,if x.kind=10 then (qR N u).map (λa=>nmb S (nth x.keys a)) else [],(qR N u).map (λa=>nmb S (nth x.items a))⟩
def aqh (S:NS):Prop:=∀u w a,Sh.gt S.at' u=some a->Sh.gt S.at' w=some a->0<=a->u=w
structure NX (N:List ao) (S S':NS):Prop where
 ok:NOK N S'
 ng:neg S'.at'<=neg S.at'
 inj:aqh S'
 ext:∀u a,Sh.gt S.at' u=some a->0<=a->Sh.gt S'.at' u=some a
 Iu:∀j,j<S.wV->S'.out[j]?=S.out[j]?
 wV:S.wV<=S'.wV
 new:∀u,Num S' u->Num S u\/aoP N S' u
end Go.Sh
namespace Go.Sh
open Go Go.Ago Go.Proofs
variable {α β:Type}{h h' h0:aj}{L R J:List bA}{N:List ao}{root:Int}{B:Nat}{Q:β->aj->Prop}
def RO (r:bh)(J:List bA):Prop:=((r.ks.len=0/\r.kl=[])\/bA.sl r.ks 1 an (r.kl.map vi) r.kg∈J)/\((r.is.len=0/\r.il=[])\/bA.sl r.is 1 an (r.il.map vi) r.ig∈J)
def RO.mono {r}{J J'}(hr:RO r J)(hs:∀o∈J,o∈J'):RO r J':=⟨hr.1.imp id (hs _),hr.2.imp id (hs _)⟩
def aoQ {s}{kl:ε}{g}{o:nv h s 1 an (kl.map vi) g}:s.len=kl.length:=by have:=o.1;grind
def TD {O:List bh}{i}{r}:(O.set i r).map bh.v=(O.map bh.v).set i r.v:=by simp_all
def of_wp {s}{root}(z:Z h0 h L)(hb:s.len<=bJ){n} :
  Wp (yC n (s,root)) h λr h'=>∃x5 b4,r=some (ak x5)/\Z h0 h' (.au x5 [aA s,vi root,aA (arr b4 s.len)] jP::.au b4 (List.replicate s.len aI) aT::L):=by
 unfold yC;refine z.new λx0 h1 z _=>z.bX [4,6] (by decide) (by decide) λnb h2 z=>?_;refine z.eZ 2 (ls:=[.sl,li]) (x:=(s,root)) ?_;refine z.ld 2 (x:=s) ?_;refine z.Z0 0 (by omega) (by omega) λh3 z=>?_;refine z.newAt 1 (cs:=[aA s,vi root,aA (arr (nb+4) s.len)]) λh4 z=>?_;rw[ag];refine⟨nb+6,nb+4,rfl,?_⟩;rw[IS] at z;rw[aac] at z;have z:=Z.iH (pre:=[_,_,_]) z [1,0,2] (by grind);exact z.sub (List.Sublist.cons₂ _ (List.Sublist.cons₂ _ (aiv _ _)))
def Vm {t}{L}(h1:bA.au t.tb [aA t.s,vi t.root,aA (arr t.sb N.length)] jP∈L)(h2:bA.au t.sb (List.replicate N.length aI) aT∈L):sK t N L:=by
 refine⟨List.replicate N.length none,by simp,h1,by simp_all,λk b l hg=>?_⟩;have:=anL (aE hg)
 grind
def ro0:bh:=⟨0,ofBytes [],false,oz,[],0,oz,[],0⟩
def acY m:(List.replicate m ro0).flatMap bh.enc=(List.replicate m [vi 0,Value.string (ofBytes []),Value.bool false,aI,aI]).flatten:=by
 rw[List.flatMap_def,apv];rfl
structure mU (N:List ao):Prop where
 len:N.length<=40
 map:∀x∈N,x.items.length<=80/\x.keys.length<=80
 txt:∀x∈N,x.text.size<=101
def mU.bd (f:mU N):Bd N 80:=⟨by have:=f.len;omega,by omega,λx hx=>⟨(f.map x hx).2,(f.map x hx).1⟩⟩
def mU.ht (f:mU N):∀x∈N,x.text.size<=65536:=λx hx=>by have:=f.txt x hx;omega
def mU.sm (f:mU N)(d:Vd N root):∀x∈N,x.kind=10->x.items.length<50:=λx hx hk=>by
 have h1:=d.amo hx;have h2:=d.map hx hk;have:=f.len;omega
def OG (nb:Nat)(O:List bh)(J:List bA):List bA:=.au nb (O.flatMap bh.enc) ar::J
def OG.read {nb}{O}{J X}(z:Z h0 h X)(hs:∀o∈OG nb O J,o∈X)(hRO:∀r∈O,RO r J):iK h (arr nb O.length) (O.map bh.v):=by
 have l:LB h nb (O.flatMap bh.enc) ar:=(z.own _ (hs _ OF)).1;refine⟨O,nb+1,rfl,l.BX (by rw[jg bh.pI]),λr hr=>?_⟩;obtain⟨h1,h2⟩:=hRO r hr;have one:∀{s:Sl} {kl:ε} {g:Nat},(s.len=0/\kl=[])\/bA.sl s 1 an (kl.map vi) g∈J->IL h s kl:=λ{s kl g} hh=>by
  rcases hh with⟨e1,e2⟩|hm
  .subst e2;exact⟨0,wK.nil e1⟩
  .have o:nv h s 1 an (kl.map vi) g:=(z.own _ (hs _ (IN _ hm))).1;exact⟨g,o.BX⟩
 grind
def Made (h0 h:aj)(s:Sl)(N':List ao)(L:List bA):Prop:=∃nb O J,s=arr nb O.length/\O.map bh.v=N'/\(∀r∈O,RO r J)/\Z h0 h (OG nb O J++L)
end Go.Sh
