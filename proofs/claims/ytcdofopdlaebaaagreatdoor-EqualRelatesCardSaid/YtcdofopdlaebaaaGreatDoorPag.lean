
import Derived.Test.YtcdofopdlaebaaaGreatDoorPad
import Derived.Test.YtcdofopdlaebaaaGreatDoorPae
import Derived.Test.YtcdofopdlaebaaaGreatDoorPaf
set_option linter.all false
namespace Go.Sh
open Go Go.Ago Go.Proofs
variable {N:List an}{root:Int}{B:Nat}
inductive KN (N:List an):Int->Prop
 |key {x:an} {v:Int}:x∈N->v∈x.keys->KN N v
 |step {u v:Int}:KN N u->Edge N u v->KN N v
structure Vd (N:List an) (root:Int):Prop where
 le:N.length<=4096
 rt:IR N.length root
 ix:qG N N.length
 fm:∀x∈N,nI x=some true
 wk:∀v,IR N.length v->∃s,s<N.length/\Wk N root s v
 one:∀v,KN N v->(root::N.flatMap refs).count v=1
theorem KN.ir (hI:qG N N.length){v:Int}(k:KN N v):IR N.length v:=by
 cases k with
 |key hx hv=>exact (hI _ hx).1 _ hv
 |step _ e=>
  obtain⟨x,hx,hv⟩:=e;rcases hv with hv|hv
  .exact (hI _ (aF hx)).1 _ hv
  .exact (hI _ (aF hx)).2 _ hv
theorem vC (hB:∀x∈N,x.keys.length<=B/\x.items.length<=B)(hnB:N.length<=B)(hB2:B<1073741824){k:Nat}(hk:gK N.length B<=k)(h:mT k N root=some 0):Vd N root:=by
 unfold gK at hk;rw[adv,afB] at hk;have hk1:N.length*(B+2)<=N.length*(2*B+8):=ago _ (by omega);unfold mT at h;split at h
 .cases h
 rename_i hb;split at h
 .cases h
 split at h
 .cases h
 rename_i hin;have hin:Gp N root=true:=by simpa using hin
 obtain⟨hr,hI⟩:=P2 hin;have hcf:cf (List.replicate N.length false)=N.length:=by unfold cf;simp
 obtain⟨ms,em,pm⟩:=(D4 (n:=N.length) (W:=Wk N root) hI hB (λt u v w e=>.step w e) k).1 root (List.replicate N.length false) (by simp) hr (by rw[hcf];omega);rw[em] at h;simp only at h;have hml:ms.length=N.length:=by rw[pm.len];simp
 obtain⟨r,er,hg⟩:=Oo (ms:=ms) (X:=N) hml;rw[er] at h;cases r with
 |false=>cases h
 |true=>
  obtain⟨hmt,hform⟩:=hg rfl;have hall:∀v,IR N.length v->∃s,s<N.length/\Wk N root s v:=λv hv=>by
   obtain⟨b,hb2⟩:=gM hml hv;have:b=true:=hmt b (aF hb2);subst this;rcases pm.snd 0 (λu hu=>by rw[hu];exact .root) (by rw[hcf];omega) v hb2 with h|h
   .have:=Fu h;cases this
   .exact h
  simp only[P4 hI hr hB (by omega) hB2] at h;obtain⟨ks,ek,lk,ck,_,hks⟩:=Jv hI hB (k:=k) (by omega) N (List.replicate N.length false) (λ_ h=>h) (by simp) P3;rw[ek] at h;simp only at h;split at h
  .cases h
  rename_i hgb;have hgb:gB ks (CC N.length (root::N.flatMap refs))=true:=by simpa using hgb
  have hkl:ks.length=N.length:=by rw[lk];simp
  have hK1:∀v,gt ks v=some true->IR N.length v->(root::N.flatMap refs).count v=1:=λv hv hiv=>by
   have h1:=VZ (l:=root::N.flatMap refs) hiv;have:=V6 hgb (aD hv).2 (aD h1).2;omega
  have hkn:∀v,KN N v->gt ks v=some true:=λv kv=>by
   induction kv with
   |key hx hv=>exact hks _ hx _ hv
   |step _ e ih=>exact ck _ ih _ e
  exact⟨by omega,hr,hI,hform,hall,λv kv=>hK1 v (hkn v kv) (kv.ir hI)⟩
theorem Vd.ac6 (d:Vd N root):∃H:Int->Nat,(∀u,H u<=N.length)/\∀u v,KN N v->Edge N u v->H v<H u:=
 aaO (K:=KN N) d.ix rfl d.wk λv kv _=>d.one v kv
theorem Vd.map (d:Vd N root){x:an}(hx:x∈N)(hk:x.kind=10):x.keys.length=x.items.length:=LR (d.fm x hx) hk
theorem Vd.keys (d:Vd N root){x:an}(hx:x∈N)(hk:x.kind≠10):x.keys=[]:=by
 have h:=d.fm x hx;unfold nI at h;by_cases h9:x.kind=9
 .rw[if_pos h9] at h;simp at h;exact h.2
 rw[if_neg h9,if_neg hk] at h;by_cases h11:x.kind=11
 .rw[if_pos h11] at h;simp at h;exact h.1.2
 rw[if_neg h11] at h;by_cases hc:x.ord=false/\x.keys.length=0/\x.items.length=0
 .exact List.length_eq_zero_iff.1 hc.2.1
 .rw[if_neg hc] at h;cases h
theorem A7 {l:List Int}{n:Nat}(hn:l.Nodup)(hr:∀v∈l,IR n v):l.length<=n:=by
 have hs:l.map Int.toNat ⊆ List.range n:=λv hv=>by
  obtain⟨u,hu,rfl⟩:=List.mem_map.1 hv;have:=hr u hu;unfold IR at this;exact List.mem_range.2 (by omega)
 have hn2:(l.map Int.toNat).Nodup:=by
  refine List.pairwise_map.2 (List.Pairwise.imp_of_mem ?_ hn);intro a b ha hb hab e;have h1:=(hr a ha).1;have h2:=(hr b hb).1;exact hab (by omega)
 have:=(af2 (n:=n));have h3:=hn2.length_le_of_subset hs;simpa using h3
theorem FB {v:Int}:∀{X:List an} {x:an},x∈X->x.keys.count v<=(X.flatMap refs).count v
 |[],x,h=>by cases h
 |y::X,x,h=>by
  rw[adC,afy];rcases List.mem_cons.1 h with rfl|h
  .unfold refs;rw[afy];omega
  .have:=FB (v:=v) h;omega
theorem Vd.nodup (d:Vd N root){x:an}(hx:x∈N):x.keys.Nodup:=by
 rw[List.nodup_iff_count];intro v;by_cases hv:v∈x.keys
 .have h1:=d.one v (.key hx hv);rw[afx] at h1;have:=FB (v:=v) hx;omega
 .rw[List.count_eq_zero.2 hv];omega
theorem Vd.ac7 (d:Vd N root){x:an}(hx:x∈N):x.keys.length<=N.length:=A7 (d.nodup hx) (d.ix x hx).1
end Go.Sh
namespace Go.Sh
open Go Go.Ago Go.Proofs
variable {N:List an}{root:Int}{B:Nat}
def nth (l:List Int)(a:Int):Int:=(gt l a).getD 0
def iota (m:Nat):List Int:=(List.range m).map (λi:Nat=>(i:Int))
theorem A8 (m:Nat):(iota m).length=m:=by simp[iota]
theorem LV {m i:Nat}(hi:i<m):(iota m)[i]?=some (i:Int):=by simp[iota,hi]
theorem rA (m:Nat):Good m (iota m):=⟨A8 m,λv hv=>by
 simp[iota] at hv;obtain⟨a,ha,rfl⟩:=hv;omega⟩
def inM (m:Nat)(cv:Int->Int->Int)(a b:Int):Int:=if 0<=a/\a<m/\0<=b/\b<m then cv a b else 0
noncomputable def Wn (cv:Int->Int->Int)(m:Nat):List Int:=if h:m<50 then (JB cv h (rA m)).choose else iota m
noncomputable def Ov (cv:Int->Int->Int)(m:Nat):List Int:=Wn (inM m cv) m
theorem Wo (cv:Int->Int->Int)(m:Nat):(Ov cv m).Perm (iota m):=by
 unfold Ov Wn;split
 .exact (JB _ ‹_› (rA m)).choose_spec.1
 .exact .refl _
theorem ac8 {cv:Int->Int->Int}{c:Cx}{P:List bj}{h:af}{n:Nat}(hm:c.m<50)(ok:c.OK (inM c.m cv))(hn:c.k+600<=n)(st:c.St P h (iota c.m)):Wp ((cl n).dE (arr c.b c.m) c.x) h λ_ h'=>c.St P h' (Ov cv c.m):=by
 unfold Ov Wn;rw[dif_pos hm];exact (JB (inM c.m cv) hm (rA c.m)).choose_spec.2 c P h n rfl ok hn st
theorem SD {cv cv':Int->Int->Int}{m:Nat}(h:∀a b:Int,0<=a->a<m->0<=b->b<m->cv a b=cv' a b):Ov cv m=Ov cv' m:=by
 have:inM m cv=inM m cv':=by
  funext a b;unfold inM;split
  .rename_i hc;exact h a b hc.1 hc.2.1 hc.2.2.1 hc.2.2.2
  .rfl
 unfold Ov;rw[this]
noncomputable def uw (cv:Int->Int->Int)(x:an):List Int:=if x.kind=10/\x.ord=false then Ov (λa b=>cv (nth x.keys a) (nth x.keys b)) x.items.length else iota x.items.length
theorem Ca (cv:Int->Int->Int)(x:an):(uw cv x).Perm (iota x.items.length):=by
 unfold uw;split
 .exact Wo _ _
 .exact .refl _
theorem Wq (cv:Int->Int->Int)(x:an):(uw cv x).length=x.items.length:=by rw[(Ca cv x).length_eq,A8]
theorem mw {cv:Int->Int->Int}{x:an}{a:Int}(ha:a∈uw cv x):0<=a/\a<x.items.length:=(rA _).2 a ((Ca cv x).mem_iff.1 ha)
def Cb (cv:Int->Int->Int)(x y:an):List Int->List Int->Option Int
 |a::p,b::q=>if x.kind=10/\cv (nth x.keys a) (nth y.keys b)≠0 then some (cv (nth x.keys a) (nth y.keys b)) else if cv (nth x.items a) (nth y.items b)≠0 then some (cv (nth x.items a) (nth y.items b)) else Cb cv x y p q
 |_,_=>none
noncomputable def LW (cv:Int->Int->Int)(x y:an):Int:=
 if x.kind<y.kind then -1 else if y.kind<x.kind then 1 else if x.ord≠y.ord then (if y.ord then -1 else 1) else if SB x.kind x.text y.text≠0 then SB x.kind x.text y.text
 else match Cb cv x y (uw cv x) (uw cv y) with
  |some c=>c
  |none=>if x.items.length<y.items.length then -1 else if y.items.length<x.items.length then 1 else 0
noncomputable def Za (N:List an)(cv:Int->Int->Int)(i j:Int):Int:=match gt N i,gt N j with
 |some x,some y=>LW cv x y
 |_,_=>0
noncomputable def LX (N:List an):Nat->Int->Int->Int
 |0,_,_=>0
 |f+1,i,j=>Za N (LX N f) i j
theorem ka {l:List Int}{a:Int}(h0:0<=a)(h:a<l.length):nth l a∈l:=by
 obtain⟨v,hv⟩:=kB h0 h;unfold nth;rw[hv];exact aF hv
theorem FC {cv cv':Int->Int->Int}{x:an}(hl:x.kind=10->x.keys.length=x.items.length)(h:∀u∈x.keys,∀v∈x.keys,cv u v=cv' u v):uw cv x=uw cv' x:=by
 unfold uw;split
 .rename_i hc;have:=hl hc.1;exact SD λa b h1 h2 h3 h4=>h _ (ka h1 (by omega)) _ (ka h3 (by omega))
 .rfl
theorem FD {cv cv':Int->Int->Int}{x y:an}(h1:x.kind=10->∀u∈x.keys,∀v∈y.keys,cv u v=cv' u v)(h2:∀u∈x.items,∀v∈y.items,cv u v=cv' u v):∀{p q:List Int},(∀a∈p,0<=a/\a<x.items.length/\(x.kind=10->a<x.keys.length))->(∀a∈q,0<=a/\a<y.items.length/\(x.kind=10->a<y.keys.length))->Cb cv x y p q=Cb cv' x y p q
 |[],q,_,_=>by cases q<;>rfl
 |a::p,[],_,_=>rfl
 |a::p,b::q,hp,hq=>by
  obtain⟨a1,a2,a3⟩:=hp a By;obtain⟨b1,b2,b3⟩:=hq b By;have e2:=h2 _ (ka a1 a2) _ (ka b1 b2);have ih:=FD h1 h2 (p:=p) (q:=q) (λc hc=>hp c (AT _ hc)) λc hc=>hq c (AT _ hc);unfold Cb;rw[e2,ih];by_cases hk:x.kind=10
  .rw[h1 hk _ (ka a1 (a3 hk)) _ (ka b1 (b3 hk))]
  .simp only[hk,false_and,if_false]
theorem Am {cv cv':Int->Int->Int}{x y:an}(hx:x.kind=10->x.keys.length=x.items.length)(hy:y.kind=10->y.keys.length=y.items.length)
  (h:∀u v,(u∈x.keys\/u∈x.items\/u∈y.keys\/u∈y.items)->(v∈x.keys\/v∈x.items\/v∈y.keys\/v∈y.items)->cv u v=cv' u v):LW cv x y=LW cv' x y:=by
 unfold LW;split
 .rfl
 split
 .rfl
 rename_i c1 c2;have hk:x.kind=y.kind:=by omega
 split
 .rfl
 split
 .rfl
 rw[FC hx λu hu v hv=>h u v (.inl hu) (.inl hv),FC (x:=y) hy λu hu v hv=>h u v (.inr (.inr (.inl hu))) (.inr (.inr (.inl hv)))];rw[FD (cv:=cv) (cv':=cv') (λ_ u hu v hv=>h u v (.inl hu) (.inr (.inr (.inl hv)))) (λu hu v hv=>h u v (.inr (.inl hu)) (.inr (.inr (.inr hv))))
  (λa ha=>⟨(mw ha).1,(mw ha).2,λe=>by rw[hx e];exact (mw ha).2⟩) (λa ha=>⟨(mw ha).1,(mw ha).2,λe=>by rw[hy (hk▸e)];exact (mw ha).2⟩)]
theorem SE (d:Vd N root){H:Int->Nat}(hH:∀u v,KN N v->Edge N u v->H v<H u):∀(t f f':Nat),t<f->t<f'->∀i j,KN N i->KN N j->H i<=t->H j<=t->LX N f i j=LX N f' i j:=by
 intro t
 induction t with
 |zero=>
  intro f f' h1 h2 i j hi hj hti htj;obtain⟨f,rfl⟩:∃g,f=g+1:=⟨f-1,by omega⟩;obtain⟨f',rfl⟩:∃g,f'=g+1:=⟨f' - 1,by omega⟩;unfold LX Za;cases ex:gt N i with
  |none=>rfl
  |some x=>
   cases ey:gt N j with
   |none=>rfl
   |some y=>
    refine Am (d.map (aF ex)) (d.map (aF ey)) λu v hu hv=>?_;exfalso;rcases hu with h|h|h|h
    .have:=hH i u (.step hi ⟨x,ex,.inl h⟩) ⟨x,ex,.inl h⟩;omega
    .have:=hH i u (.step hi ⟨x,ex,.inr h⟩) ⟨x,ex,.inr h⟩;omega
    .have:=hH j u (.step hj ⟨y,ey,.inl h⟩) ⟨y,ey,.inl h⟩;omega
    .have:=hH j u (.step hj ⟨y,ey,.inr h⟩) ⟨y,ey,.inr h⟩;omega
 |succ t ih=>
  intro f f' h1 h2 i j hi hj hti htj;obtain⟨f,rfl⟩:∃g,f=g+1:=⟨f-1,by omega⟩;obtain⟨f',rfl⟩:∃g,f'=g+1:=⟨f' - 1,by omega⟩;unfold LX Za;cases ex:gt N i with
  |none=>rfl
  |some x=>
   cases ey:gt N j with
   |none=>rfl
   |some y=>
    have low:∀u,(u∈x.keys\/u∈x.items\/u∈y.keys\/u∈y.items)->KN N u/\H u<=t:=λu hu=>by
     rcases hu with h|h|h|h
     .have e:Edge N i u:=⟨x,ex,.inl h⟩;have:=hH i u (.step hi e) e;exact⟨.step hi e,by omega⟩
     .have e:Edge N i u:=⟨x,ex,.inr h⟩;have:=hH i u (.step hi e) e;exact⟨.step hi e,by omega⟩
     .have e:Edge N j u:=⟨y,ey,.inl h⟩;have:=hH j u (.step hj e) e;exact⟨.step hj e,by omega⟩
     .have e:Edge N j u:=⟨y,ey,.inr h⟩;have:=hH j u (.step hj e) e;exact⟨.step hj e,by omega⟩
    exact Am (d.map (aF ex)) (d.map (aF ey)) λu v hu hv=>ih f f' (by omega) (by omega) u v (low u hu).1 (low v hv).1 (low u hu).2 (low v hv).2
noncomputable def nk (N:List an):Int->Int->Int:=LX N (N.length+1)
noncomputable def jc (N:List an)(i:Int):List Int:=match gt N i with
 |some x=>uw (nk N) x
 |none=>[]
theorem qq {k:Int}{x:an}(hx:gt N k=some x):(jc N k).length=x.items.length:=by
 unfold jc;rw[hx];exact Wq _ _
theorem Zb (d:Vd N root){i j:Int}{x y:an}(hi:KN N i)(hj:KN N j)(ex:gt N i=some x)(ey:gt N j=some y):nk N i j=LW (nk N) x y:=by
 obtain⟨H,hH1,hH2⟩:=d.ac6;have e:nk N i j=LW (LX N N.length) x y:=by
  unfold nk LX Za;rw[ex,ey]
 rw[e];refine Am (d.map (aF ex)) (d.map (aF ey)) λu v hu hv=>?_;have low:∀u,(u∈x.keys\/u∈x.items\/u∈y.keys\/u∈y.items)->KN N u/\H u<N.length:=λu hu=>by
  have h1:=hH1 i;have h2:=hH1 j;rcases hu with h|h|h|h
  .have e:Edge N i u:=⟨x,ex,.inl h⟩;have:=hH2 i u (.step hi e) e;exact⟨.step hi e,by omega⟩
  .have e:Edge N i u:=⟨x,ex,.inr h⟩;have:=hH2 i u (.step hi e) e;exact⟨.step hi e,by omega⟩
  .have e:Edge N j u:=⟨y,ey,.inl h⟩;have:=hH2 j u (.step hj e) e;exact⟨.step hj e,by omega⟩
  .have e:Edge N j u:=⟨y,ey,.inr h⟩;have:=hH2 j u (.step hj e) e;exact⟨.step hj e,by omega⟩
 have h1:=(low u hu).2;exact SE d hH2 (N.length-1) _ _ (by omega) (by omega) u v (low u hu).1 (low v hv).1 (by have:=(low u hu).2;omega) (by have:=(low v hv).2;omega)
end Go.Sh
namespace Go.Sh
open Go Go.Ago Go.Proofs
variable {α β:Type}{h h' h0:af}{L R:List bj}{N:List an}{root:Int}{B:Nat}{Q:β->af->Prop}
theorem _root_.Go.Ago.Z.D5 (z:Z h0 h L){b o:Nat}{cs:List Value}{e:TypeId}{l:eF}{v:Value}{x:l.den}{f:l.den->M β}(hm:bj.ar b cs e∈L)(hv:cs[o]?=some v)(hx:yI l v=some x)(q:Wp (f x) h Q):Wp (sh (aq l ⟨b,o,none⟩) f) h Q:=by
 obtain⟨i,hi⟩:=List.mem_iff_getElem?.1 hm;exact z.ld i q hi hv hx
theorem _root_.Go.Ago.Z.stM (z:Z h0 h (R++L)){b o:Nat}{cs vs cs':List Value}{e:TypeId}{f:Unit->M β}(hm:bj.ar b cs e∈L)(hc:aY cs o vs=cs')(ho:o+vs.length<=cs.length)(hs:vs.all eQ=true)
  (q:∀(i:Nat) h',L[i]?=some (.ar b cs e)->Z h0 h' (R++L.set i (.ar b cs' e))->Wp (f ()) h' Q):Wp (sh (bG ⟨b,o,none⟩ vs) f) h Q:=by
 obtain⟨i,hi⟩:=List.mem_iff_getElem?.1 hm;have hi2:(R++L)[R.length+i]?=some (.ar b cs e):=by rw[agj (by omega),agZ];exact hi
 refine z.st (R.length+i) (cs':=cs') (λh1 z1=>q i h1 hi ?_) hi2 hc ho hs;rw[aeV _ _ (by omega),agZ] at z1;exact z1
theorem bh {a:Addr}{f:Addr->M β}(q:Wp (f a) h Q):Wp (sh (nn (some a)) f) h Q:=by
 rw[ah];exact⟨a,h,rfl,q⟩
theorem _root_.Go.Ago.Z.rdM (z:Z h0 h L){b m:Nat}{e:TypeId}{c:List Int}{a v:Int}{f:Int->M β}(hm:bj.ar b (c.map vi) e∈L)(hg:gt c a=some v)(hl:c.length=m)(q:Wp (f v) h Q):Wp (sh (av (arr b m) a 1) λp=>sh (aq li p) f) h Q:=by
 obtain⟨i,hi⟩:=List.mem_iff_getElem?.1 hm;exact z.Gu i hg hl q hi
structure Ow where
 tb:Nat
 sb:Nat
 s:Sl
 root:Int
abbrev cs:Option (Nat×List Int)->Value
 |none=>aU
 |some (b,l)=>aE (arr b l.length)
structure Tab (t:Ow) (N:List an) (C:List (Option (Nat×List Int))) (L:List bj):Prop where
 len:C.length=N.length
 JI:bj.ar t.tb [aE t.s,vi t.root,aE (arr t.sb N.length)] dj∈L
 Ov:bj.ar t.sb (C.map cs) aR∈L
 ok:∀k b l,gt C k=some (some (b,l))->l=jc N k/\bj.ar b (l.map vi) au∈L
def ov (t:Ow)(N:List an)(L:List bj):Prop:=∃C,Tab t N C L
def Ext (L L':List bj):Prop:=∀b (l:List Int),bj.ar b (l.map vi) au∈L->bj.ar b (l.map vi) au∈L'
theorem Ext.refl {L:List bj}:Ext L L:=λ_ _ h=>h
theorem Ext.trans {L1 L2 L3:List bj}(a:Ext L1 L2)(b:Ext L2 L3):Ext L1 L3:=λx l h=>b x l (a x l h)
theorem Ox {γ:Type}{l:List γ}{i:Nat}{x y o:γ}(hi:l[i]?=some x)(ho:o∈l)(hne:o≠x):o∈l.set i y:=by
 obtain⟨j,hj⟩:=List.mem_iff_getElem?.1 ho;have hij:i≠j:=λe=>by subst e;rw[hi] at hj;exact hne (abi hj).symm
 exact List.mem_iff_getElem?.2 ⟨j,by rw[agF hij];exact hj⟩
theorem JC {γ:Type}{l:List γ}{i:Nat}{x y:γ}(hi:l[i]?=some x):y∈l.set i y:=by
 have hlt:=(List.getElem?_eq_some_iff.1 hi).1;exact List.mem_iff_getElem?.2 ⟨i,by simp[hlt]⟩
theorem Tab.put {t:Ow}{C:List (Option (Nat×List Int))}(T:Tab t N C L){i b:Nat}(hi:L[i]?=some (.ar t.sb (C.map cs) aR)){k:Int}(hk:IR N.length k) :
  Tab t N (C.set k.toNat (some (b,jc N k))) (.ar b ((jc N k).map vi) au::L.set i (.ar t.sb ((C.set k.toNat (some (b,jc N k))).map cs) aR)) /\
  Ext L (.ar b ((jc N k).map vi) au::L.set i (.ar t.sb ((C.set k.toNat (some (b,jc N k))).map cs) aR)):=by
 have ne1:∀(b:Nat) (c:List Value),bj.ar b c au≠.ar t.sb (C.map cs) aR:=λb c e=>by injection e with e1 e2 e3;cases e3
 have ne2:∀(b:Nat) (c:List Value),bj.ar b c dj≠.ar t.sb (C.map cs) aR:=λb c e=>by injection e with e1 e2 e3;cases e3
 have ext:∀{o:bj},o∈L->o≠.ar t.sb (C.map cs) aR->o∈bj.ar b ((jc N k).map vi) au::L.set i (.ar t.sb ((C.set k.toNat (some (b,jc N k))).map cs) aR):=
  λh1 h2=>AT _ (Ox hi h1 h2)
 refine⟨⟨by rw[ae8];exact T.len,ext T.JI (ne2 _ _),AT _ (JC hi),λk' b' l hg=>?_⟩,λb' l hm=>ext hm (ne1 _ _)⟩;rw[mU (by rw[T.len];exact hk)] at hg;split at hg
 .rename_i e;subst e;have hg:=abi (abi hg);cases hg;exact⟨rfl,By⟩
 .obtain⟨h1,h2⟩:=T.ok k' b' l hg;exact⟨h1,ext h2 (ne1 _ _)⟩
theorem ac9 {m b:Nat}(hm:m<1073741824)(a0:Int)(a1 a2:Addr) :
  ∀(n i:Nat) (h:af) (L:List bj),m-i<n->i<=m->Z h0 h (.ar b (((iota m).take i++List.replicate (m-i) 0).map vi) au::L) ->
   Wp ((cl n).eW a0 a1 a2 (arr b m) (m:Int) (i:Int)) h λ_ h'=>Z h0 h' (.ar b ((iota m).map vi) au::L):=by
 intro n
 induction n with
 |zero=>intro i h L h1;omega
 |succ n ih=>
  intro i h L h1 h2 z;show Wp (kp (cl n) n a0 a1 a2 (arr b m) (m:Int) (i:Int)) h _;unfold kp;have hl:=A8 m;by_cases hi:i<m
  .rw[if_pos (by simp;omega)];refine F8 (b:=b) (n:=m) (by omega) (by omega) ?_;rw[IS,acq];refine z.zA 0 (xs:=(iota m).take i++List.replicate (m-i) 0) (enc:=vi) (v:=(i:Int)) (by rw[aaQ,adw,adf];omega) (λh3 z=>?_);have hf:=fill (LV hi);rw[hl] at hf;rw[hf] at z;rw[uv h2 (by omega)];exact ih (i+1) h3 L (by omega) (by omega) z
  .rw[if_neg (by simp;omega),ag];have:i=m:=by omega
   subst this;have e:(iota i).take i=iota i:=aeI (by omega);rw[e] at z;simpa using z
def SF (h0:af)(t:Ow)(N:List an)(fc:Nat)(i j:Int):Prop:=∀(n:Nat) (h:af) (R L:List bj),fc<=n->ov t N L->Z h0 h (R++L) ->
 Wp ((cl n).kr (some (ak t.tb)) i (some (ak t.tb)) j none) h λr h'=>r=nk N i j/\∃L',ov t N L'/\Ext L L'/\Z h0 h' (R++L')
def Ws (h0:af)(t:Ow)(N:List an)(fe:Nat)(k:Int)(m:Nat):Prop:=∀(n:Nat) (h:af) (R L:List bj),fe<=n->ov t N L->Z h0 h (R++L) ->
 Wp ((cl n).dX (some (ak t.tb)) k) h λr h'=>∃b L',r=arr b m/\bj.ar b ((jc N k).map vi) au∈L'/\ov t N L'/\Ext L L'/\Z h0 h' (R++L')
theorem Wt {C:List (Option (Nat×List Int))}{k:Int}{c:Option (Nat×List Int)}(hc:gt C k=some c):(C.map cs)[k.toNat*1]?=some (cs c):=by
 rw[acq,aaW,(aD hc).2];rfl
theorem yi {γ:Type}{a:γ}{R L:List γ}:(a::(R++L)).Perm (R++a::L):=List.perm_middle.symm
theorem Wu {t:Ow}(G:jI h0 t.s N)(d:Vd N root)(hB:Bd N B){fc:Nat}{k:Int}{x:an}(hx:gt N k=some x)(hsm:x.kind=10->x.items.length<50)(hc:∀u∈x.keys,∀v∈x.keys,SF h0 t N fc u v) :
  Ws h0 t N (fc+700+B) k x.items.length:=by
 intro n h R L hn ⟨C,T⟩ z;have hNB:=hB.2.1;obtain⟨_,hBi⟩:=hB.2.2 x (aF hx);have hkr:IR N.length k:=Ft hx;obtain⟨n,rfl⟩:∃n',n=n'+1:=⟨n-1,by omega⟩;show Wp (mP (cl n) n (some (ak t.tb)) k) h _;unfold mP;refine z.new λx0 h1 z _=>?_;refine z.ld 0 (o:=0) (l:=.ptr) (x:=some (ak t.tb)) (bh ?_);refine z.D5 (o:=0) (l:=.sl) (x:=t.s) (AT _ (aa5 _ T.JI)) rfl rfl ?_;obtain⟨g1,g2⟩:=aD hx;refine G.Pj z g1 g2 λa ks is nd=>?_;refine z.new λx5 h2 z _=>?_;refine z.st 0 (cs':=[Value.pointer (some a)]) λh3 z=>?_;have z:Z h0 h3 (.ar x5 [Value.pointer (some a)] eO::.ar x0 [Value.pointer (some (ak t.tb))] bI::(R++L)):=z;have memL:∀{o:bj},o∈L->o∈bj.ar x5 [Value.pointer (some a)] eO::.ar x0 [Value.pointer (some (ak t.tb))] bI::(R++L):=λh=>AT _ (AT _ (aa5 _ h));refine z.ld 1 (o:=0) (l:=.ptr) (x:=some (ak t.tb)) (bh ?_);refine z.D5 (o:=2) (l:=.sl) (x:=arr t.sb N.length) (memL T.JI) rfl rfl ?_;obtain⟨c,hcC⟩:=gM (l:=C) T.len hkr;refine F8 (b:=t.sb) (n:=N.length) g1 hkr.2 ?_;cases c with
 |some e=>
  obtain⟨b,l⟩:=e;obtain⟨hl,hm⟩:=T.ok k b l hcC;refine z.D5 (l:=.sl) (x:=arr b l.length) (memL T.Ov) (Wt hcC) rfl ?_;rw[if_pos (by rfl)];refine z.ld 1 (o:=0) (l:=.ptr) (x:=some (ak t.tb)) (bh ?_);refine z.D5 (o:=2) (l:=.sl) (x:=arr t.sb N.length) (memL T.JI) rfl rfl ?_;refine F8 (b:=t.sb) (n:=N.length) g1 hkr.2 ?_;refine z.D5 (l:=.sl) (x:=arr b l.length) (memL T.Ov) (Wt hcC) rfl (ag.2 ?_);subst hl;exact⟨b,L,by rw[qq hx],hm,⟨C,T⟩,.refl,z.drop.drop⟩
 |none=>
  refine z.D5 (l:=.sl) (x:=mX) (memL T.Ov) (Wt hcC) rfl ?_;rw[if_neg (by simp)];refine z.ld 0 (o:=0) (l:=.ptr) (x:=some a) (bh ?_);refine (nd.fr z.fr).AR ?_;have hlen:is.len=x.items.length:=nd.items.len;rw[hlen];refine z.Lh (by omega) (by unfold cK;omega) λb h4 z _=>?_;rw[IS] at z⊢;rw[nR (enc:=vi) (x:=(0:Int))] at z;have z0:Z h0 h4 (.ar b (((iota x.items.length).take 0++List.replicate (x.items.length-0) 0).map vi) au::.ar x5 [Value.pointer (some a)] eO::.ar x0 [Value.pointer (some (ak t.tb))] bI::(R++L)):=by simpa using z
  rw[ah];refine (ac9 (by omega) k (ak x0) (ak x5) n 0 h4 _ (by omega) (by omega) z0).mono λ_ h5 z=>?_;refine z.ld 1 (o:=0) (l:=.ptr) (x:=some a) (bh ?_);refine (nd.fr z.fr).Lm ?_;have store:∀(h:af) (L:List bj) (C:List (Option (Nat×List Int))) (l:List Int),l=jc N k->Tab t N C L->Z h0 h (.ar b (l.map vi) au::.ar x5 [Value.pointer (some a)] eO::.ar x0 [Value.pointer (some (ak t.tb))] bI::(R++L)) ->
    Wp (sh (aq .ptr (ak x0)) λ(x20:Option Addr)=>sh (nn x20) λx21=>sh (aq .sl (x21.plus 2)) λ(x22:Sl)=>sh (av x22 k 1) λx23=>sh (bG x23 [aE (arr b x.items.length)]) λx24=>AI (arr b x.items.length)) h λr h'=>
     ∃b L',r=arr b x.items.length/\bj.ar b ((jc N k).map vi) au∈L'/\ov t N L'/\Ext L L'/\Z h0 h' (R++L'):=by
   intro h L C l hl T z;subst hl;refine z.ld 2 (o:=0) (l:=.ptr) (x:=some (ak t.tb)) (bh ?_);refine z.D5 (o:=2) (l:=.sl) (x:=arr t.sb N.length) (AT _ (AT _ (AT _ (aa5 _ T.JI)))) rfl rfl ?_;refine F8 (b:=t.sb) (n:=N.length) g1 hkr.2 ?_;have hsp:aY (C.map cs) (k.toNat*1) [aE (arr b x.items.length)]=(C.set k.toNat (some (b,jc N k))).map cs:=by
    rw[acq,<-zH (enc:=cs) (by rw[T.len];have:=hkr.1;have:=hkr.2;omega)];simp only[cs,qq hx]
   refine Z.stM (R:=.ar b ((jc N k).map vi) au::.ar x5 [Value.pointer (some a)] eO::.ar x0 [Value.pointer (some (ak t.tb))] bI::R) z T.Ov hsp (by rw[adq,T.len,acq];have:=hkr.1;have:=hkr.2;simp;omega) rfl λi h' hi z=>ag.2 ?_;obtain⟨T',E'⟩:=T.put (b:=b) hi hkr;refine⟨b,_,rfl,By,⟨_,T'⟩,E',Z.perm (Z.sub z ?_) yi⟩;exact List.Sublist.cons_cons _ (List.Sublist.cons _ (List.Sublist.cons _ (adB _)))
  by_cases hk:x.kind=10
  .rw[if_pos (by simpa using hk)];refine z.ld 1 (o:=0) (l:=.ptr) (x:=some a) (bh ?_);refine (nd.fr z.fr).ldO ?_;have hkl:=d.map (aF hx) hk;cases ho:x.ord with
   |true=>
    rw[Fw];have e:iota x.items.length=jc N k:=by
     unfold jc uw;rw[hx];simp only[ho];rw[if_neg (by simp)]
    exact store h5 L C _ e T z
   |false=>
    rw[Fv];unfold kq
    let cx:Cx:=⟨h0,b,x.items.length,Value.func (Fn.func hC) #[] #[Value.pointer (some (ak x0)),Value.pointer (some (ak x5))],fc+1,λLx=>∃L1,Lx=.ar x5 [Value.pointer (some a)] eO::.ar x0 [Value.pointer (some (ak t.tb))] bI::L1/\ov t N L1/\Ext L L1⟩
    have okc:cx.OK (inM cx.m λu v=>nk N (nth x.keys u) (nth x.keys v)):=by
     intro n u v h R2 Lx hn hu hu2 hv hv2 ⟨L1,e,T1,E1⟩ z;subst e;have hu2:u<(x.items.length:Int):=hu2;have hv2:v<(x.items.length:Int):=hv2;obtain⟨n,rfl⟩:∃n',n=n'+1:=⟨n-1,by have:fc+1<=n:=hn;omega⟩;have hn:fc+1<=n+1:=hn;show Wp (az (cl (n+1)) (n+1) (Value.func (Fn.func hC) #[] #[Value.pointer (some (ak x0)),Value.pointer (some (ak x5))]) u v) h _;unfold az;rw[if_pos (by rfl),ah];refine jX (c:=((ak x0,ak x5):Addr×Addr)) rfl ?_;show Wp (lu (cl n) n u v (ak x0) (ak x5)) h _;unfold lu;have m5:bj.ar x5 [Value.pointer (some a)] eO∈R2++(.ar x5 [Value.pointer (some a)] eO::.ar x0 [Value.pointer (some (ak t.tb))] bI::L1):=aa5 _ By;have m0:bj.ar x0 [Value.pointer (some (ak t.tb))] bI∈R2++(.ar x5 [Value.pointer (some a)] eO::.ar x0 [Value.pointer (some (ak t.tb))] bI::L1):=aa5 _ (AT _ By);obtain⟨ku,hku⟩:=kB (l:=x.keys) hu (by omega);obtain⟨kv,hkv⟩:=kB (l:=x.keys) hv (by omega);have ndz:=nd.fr z.fr;refine z.D5 (o:=0) (l:=.ptr) (x:=some (ak t.tb)) m0 rfl rfl ?_;refine z.D5 (o:=0) (l:=.ptr) (x:=some a) m5 rfl rfl (bh ?_);refine ndz.F9 (ndz.keys.ix hu (aD hku).2 λ_ _ c1=>c1.pL (l:=li) rfl rfl ?_);refine z.D5 (o:=0) (l:=.ptr) (x:=some (ak t.tb)) m0 rfl rfl ?_;refine z.D5 (o:=0) (l:=.ptr) (x:=some a) m5 rfl rfl (bh ?_);refine ndz.F9 (ndz.keys.ix hv (aD hkv).2 λ_ _ c1=>c1.pL (l:=li) rfl rfl ?_);rw[ah];have z2:Z h0 h ((R2++[.ar x5 [Value.pointer (some a)] eO,.ar x0 [Value.pointer (some (ak t.tb))] bI])++L1):=(by simpa using z);refine (hc ku (aF hku) kv (aF hkv) n h _ L1 (by omega) T1 z2).mono λr h' hr=>ag.2 ?_;obtain⟨rfl,L2,T2,E2,z3⟩:=hr;refine⟨?_,_,⟨L2,rfl,T2,E1.trans E2⟩,by simpa using z3⟩;unfold inM nth;rw[if_pos ⟨hu,hu2,hv,hv2⟩];show nk N ku kv=nk N ((gt x.keys u).getD 0) ((gt x.keys v).getD 0);rw[hku,hkv];rfl
    have st:cx.St R h5 (iota cx.m):=by
     refine⟨_,⟨L,rfl,⟨C,T⟩,.refl⟩,?_⟩;refine Z.perm z (List.Perm.cons _ ?_);exact (List.Perm.cons _ yi).trans yi
    rw[ah];refine (ac8 (cv:=λu v=>nk N (nth x.keys u) (nth x.keys v)) (c:=cx) (hsm hk) okc (by show fc+1+600<=n;omega) st).mono λ_ h6 hs=>?_;obtain⟨Lx,⟨L1,rfl,⟨C1,T1⟩,E1⟩,z6⟩:=hs;have z6:Z h0 h6 (.ar b ((Ov (λu v=>nk N (nth x.keys u) (nth x.keys v)) x.items.length).map vi) au::.ar x5 [Value.pointer (some a)] eO::.ar x0 [Value.pointer (some (ak t.tb))] bI::(R++L1)):=by
     refine Z.perm z6 (List.Perm.cons _ ?_);exact ((List.Perm.cons _ yi).trans yi).symm
    have e:Ov (λu v=>nk N (nth x.keys u) (nth x.keys v)) x.items.length=jc N k:=by
     unfold jc uw;rw[hx];simp only;rw[if_pos ⟨hk,ho⟩]
    exact (store h6 L1 C1 _ e T1 z6).mono λr h7 hr=>by
     obtain⟨b',L',q1,q2,q3,q4,q5⟩:=hr;exact⟨b',L',q1,q2,q3,E1.trans q4,q5⟩
  .rw[if_neg (by simpa using hk)];have e:iota x.items.length=jc N k:=by
    unfold jc uw;rw[hx];simp only;rw[if_neg (λq=>hk q.1)]
   exact store h5 L C _ e T z
end Go.Sh
namespace Go.Sh
open Go Go.Ago Go.Proofs
variable {α β:Type}{h h' h0:af}{L R:List bj}{N:List an}{root:Int}{B:Nat}{Q:β->af->Prop}
theorem JD {c:List Int}{a v:Int}(hg:gt c a=some v):(c.map vi)[a.toNat*1]?=some (vi v):=by
 rw[acq,aaW,(aD hg).2];rfl
theorem yD {c:List Int}{i:Nat}{v:Int}(hg:gt c (i:Int)=some v):c.drop i=v::c.drop (i+1):=by
 have:=(aD hg).2;rw[IS] at this;exact drop_cons this
theorem ada {t:Ow}{fc:Nat}{x y:an}{a a':Addr}{ks is ks' is':Sl}(nd:BF h0 a x ks is)(nd':BF h0 a' y ks' is'){bp bq:Nat}{p q:List Int}
  (hp:∀u∈p,0<=u/\u<x.items.length/\(x.kind=10->u<x.keys.length)) (hq:∀u∈q,0<=u/\u<y.items.length/\(x.kind=10->u<y.keys.length)) (hbig:p.length<1073741824)
  (hc:∀u,u∈x.keys\/u∈x.items->∀v,v∈y.keys\/v∈y.items->SF h0 t N fc u v):∀(n i:Nat) (h:af) (R L:List bj),fc+(min p.length q.length-i)+1<=n->i<=min p.length q.length->bj.ar bp (p.map vi) au∈L->bj.ar bq (q.map vi) au∈L->ov t N L->Z h0 h (R++L) ->
  Wp ((cl n).iD (some (ak t.tb)) (some (ak t.tb)) none (some a) (some a') (arr bp p.length) (arr bq q.length) ((min p.length q.length:Nat):Int) (i:Int)) h λr h'=>
   r=(match Cb (nk N) x y (p.drop i) (q.drop i) with|some c=>.inr c|none=>.inl ())/\∃L',ov t N L'/\Ext L L'/\Z h0 h' (R++L'):=by
 intro n
 induction n with
 |zero=>intro i h R L h1;omega
 |succ n ih=>
  intro i h R L h1 h2 mp mq T z;show Wp (qc (cl n) n (some (ak t.tb)) (some (ak t.tb)) none (some a) (some a') (arr bp p.length) (arr bq q.length) ((min p.length q.length:Nat):Int) (i:Int)) h _;unfold qc;by_cases hi:i<min p.length q.length
  .rw[if_pos (by simpa using hi)];obtain⟨u,hu⟩:=kB (l:=p) (v:=(i:Int)) (by omega) (by omega);obtain⟨v,hv⟩:=kB (l:=q) (v:=(i:Int)) (by omega) (by omega);obtain⟨u1,u2,u3⟩:=hp u (aF hu);obtain⟨v1,v2,v3⟩:=hq v (aF hv);rw[yD hu,yD hv];obtain⟨iu,hiu⟩:=kB (l:=x.items) u1 u2;obtain⟨iv,hiv⟩:=kB (l:=y.items) v1 v2;have next:∀(h:af) (L:List bj),nk N iu iv=0->bj.ar bp (p.map vi) au∈L->bj.ar bq (q.map vi) au∈L->ov t N L->Z h0 h (R++L) ->
     Wp ((cl n).iD (some (ak t.tb)) (some (ak t.tb)) none (some a) (some a') (arr bp p.length) (arr bq q.length) ((min p.length q.length:Nat):Int) (IntKind.i64.wrap ((i:Int)+1))) h λr h'=>
      r=(match Cb (nk N) x y (p.drop (i+1)) (q.drop (i+1)) with|some c=>.inr c|none=>.inl ())/\∃L',ov t N L'/\Ext L L'/\Z h0 h' (R++L'):=by
    intro h L _ mp mq T z;rw[uv (B:=p.length) (by omega) hbig];exact ih (i+1) h R L (by omega) (by omega) mp mq T z
   have J0:∀(h:af) (L:List bj),(x.kind=10->nk N (nth x.keys u) (nth y.keys v)=0)->bj.ar bp (p.map vi) au∈L->bj.ar bq (q.map vi) au∈L->ov t N L->Z h0 h (R++L) ->
     Wp (gV (cl n) n (some (ak t.tb)) (some (ak t.tb)) none (some a) (some a') (arr bp p.length) (arr bq q.length) (i:Int) ((min p.length q.length:Nat):Int) (i:Int)) h λr h'=>
      r=(match Cb (nk N) x y (u::p.drop (i+1)) (v::q.drop (i+1)) with|some c=>.inr c|none=>.inl ())/\∃L',ov t N L'/\Ext L L'/\Z h0 h' (R++L'):=by
    intro h L hk mp mq T z;unfold gV;refine bh (F8 (by omega) (by omega) (bh (F8 (by omega) (by omega) ?_)));have ndz:=nd.fr z.fr;have ndz':=nd'.fr z.fr;refine ndz.AR ?_;refine z.D5 (l:=li) (x:=u) (aa5 _ mp) (JD hu) rfl ?_;refine ndz.items.ix u1 (aD hiu).2 λ_ _ c1=>c1.pL (l:=li) rfl rfl ?_;refine ndz'.AR ?_;refine z.D5 (l:=li) (x:=v) (aa5 _ mq) (JD hv) rfl ?_;refine ndz'.items.ix v1 (aD hiv).2 λ_ _ c1=>c1.pL (l:=li) rfl rfl ?_;rw[ah];refine (hc iu (.inr (aF hiu)) iv (.inr (aF hiv)) n h R L (by omega) T z).mono λr h' hr=>?_;obtain⟨rfl,L',T',E',z'⟩:=hr;have e1:nth x.items u=iu:=(by unfold nth;rw[hiu];rfl);have e2:nth y.items v=iv:=(by unfold nth;rw[hiv];rfl);have eq:Cb (nk N) x y (u::p.drop (i+1)) (v::q.drop (i+1))=if nk N iu iv≠0 then some (nk N iu iv) else Cb (nk N) x y (p.drop (i+1)) (q.drop (i+1)):=by
     conv=>lhs;unfold Cb
     rw[if_neg (show ¬(x.kind=10/\nk N (nth x.keys u) (nth y.keys v)≠0) from λe=>e.2 (hk e.1)),e1,e2]
    rw[eq];by_cases h0':nk N iu iv=0
    .rw[if_neg (by simpa using h0'),if_neg (show ¬(nk N iu iv≠0) from λe=>e h0')];exact (next h' L' h0' (E' _ _ mp) (E' _ _ mq) T' z').mono λr h2 hr=>⟨hr.1,by obtain⟨L2,t2,e2,z2⟩:=hr.2;exact⟨L2,t2,E'.trans e2,z2⟩⟩
    .rw[if_pos (by simpa using h0'),if_pos h0'];exact ag.2 ⟨rfl,L',T',E',z'⟩
   refine bh ?_;refine (nd.fr z.fr).Lm ?_;by_cases hk:x.kind=10
   .rw[if_pos (by simpa using hk)];refine bh (F8 (by omega) (by omega) (bh (F8 (by omega) (by omega) ?_)));have ndz:=nd.fr z.fr;have ndz':=nd'.fr z.fr;obtain⟨ku,hku⟩:=kB (l:=x.keys) u1 (u3 hk);obtain⟨kv,hkv⟩:=kB (l:=y.keys) v1 (v3 hk);refine ndz.F9 ?_;refine z.D5 (l:=li) (x:=u) (aa5 _ mp) (JD hu) rfl ?_;refine ndz.keys.ix u1 (aD hku).2 λ_ _ c1=>c1.pL (l:=li) rfl rfl ?_;refine ndz'.F9 ?_;refine z.D5 (l:=li) (x:=v) (aa5 _ mq) (JD hv) rfl ?_;refine ndz'.keys.ix v1 (aD hkv).2 λ_ _ c1=>c1.pL (l:=li) rfl rfl ?_;rw[ah];refine (hc ku (.inl (aF hku)) kv (.inl (aF hkv)) n h R L (by omega) T z).mono λr h' hr=>?_;obtain⟨rfl,L',T',E',z'⟩:=hr;have e1:nth x.keys u=ku:=(by unfold nth;rw[hku];rfl);have e2:nth y.keys v=kv:=(by unfold nth;rw[hkv];rfl);by_cases h0':nk N ku kv=0
    .rw[if_neg (by simpa using h0')];exact (J0 h' L' (λ_=>by rw[e1,e2];exact h0') (E' _ _ mp) (E' _ _ mq) T' z').mono λr h2 hr=>⟨hr.1,by obtain⟨L2,t2,e2,z2⟩:=hr.2;exact⟨L2,t2,E'.trans e2,z2⟩⟩
    .rw[if_pos (by simpa using h0')];unfold Cb;rw[e1,e2,if_pos ⟨hk,h0'⟩];exact ag.2 ⟨rfl,L',T',E',z'⟩
   .rw[if_neg (by simpa using hk)];exact J0 h L (λe=>absurd e hk) mp mq T z
  .rw[if_neg (by simpa using hi)];refine ag.2 ⟨?_,L,T,.refl,z⟩;have:p.drop i=[]\/q.drop i=[]:=by
    rcases Nat.le_total p.length q.length with hl|hl
    .left;exact aaS (by omega)
    .right;exact aaS (by omega)
   rcases this with e|e
   .rw[e];cases q.drop i<;>rfl
   .rw[e];cases p.drop i<;>rfl
theorem adb {t:Ow}(G:jI h0 t.s N)(d:Vd N root)(hB:Bd N B)(ht:∀x∈N,x.text.size<=65536){fc fe:Nat}{i j:Int}{x y:an}(hx:gt N i=some x)(hy:gt N j=some y)(hi:KN N i)(hj:KN N j)
  (hfe:65600<=fe) (hfc:fc+B<=fe) (ei:Ws h0 t N fe i x.items.length) (ej:Ws h0 t N fe j y.items.length) (hc:∀u,u∈x.keys\/u∈x.items->∀v,v∈y.keys\/v∈y.items->SF h0 t N fc u v):SF h0 t N (fe+10) i j:=by
 intro n h R L hn T z;have hBB:=hB.2.1;obtain⟨n,rfl⟩:∃n',n=n'+2:=⟨n-2,by omega⟩;show Wp (sG (cl (n+1)) (n+1) (some (ak t.tb)) i (some (ak t.tb)) j none) h _;unfold sG;rw[ah];refine⟨((false,0):Bool×Int),h,rfl,?_⟩;show Wp (sh ((cl (n+1)).qd (some (ak t.tb)) i (some (ak t.tb)) j none) _) h _;rw[ah];rw[Zb d hi hj hx hy];have main:Wp (ua (cl n) n (some (ak t.tb)) i (some (ak t.tb)) j none) h λr h'=>r=LW (nk N) x y/\∃L',ov t N L'/\Ext L L'/\Z h0 h' (R++L'):=by
  unfold ua LW;obtain⟨C,TC⟩:=T;have tabm:=aa5 R TC.JI;refine bh (bh ?_);refine z.D5 (o:=0) (l:=.sl) (x:=t.s) tabm rfl rfl ?_;refine G.Pj z (aD hx).1 (aD hx).2 λa ks is nd=>?_;refine z.D5 (o:=0) (l:=.sl) (x:=t.s) tabm rfl rfl ?_;refine G.Pj z (aD hy).1 (aD hy).2 λa' ks' is' nd'=>?_;have ndz:=nd.fr z.fr;have ndz':=nd'.fr z.fr;refine bh (bh (ndz.Lm (ndz'.Lm ?_)));by_cases c1:x.kind<y.kind
  .rw[if_pos (by simpa using c1),if_pos c1];exact ag.2 ⟨rfl,L,⟨C,TC⟩,.refl,z⟩
  rw[if_neg (by simpa using c1),if_neg c1];refine bh (bh (ndz.Lm (ndz'.Lm ?_)));by_cases c2:y.kind<x.kind
  .rw[if_pos (by simpa using c2),if_pos c2];exact ag.2 ⟨rfl,L,⟨C,TC⟩,.refl,z⟩
  rw[if_neg (by simpa using c2),if_neg c2];have hk:x.kind=y.kind:=by omega
  refine bh (bh (ndz.ldO (ndz'.ldO ?_)));by_cases c3:x.ord=y.ord
  .rw[if_neg (by rw[c3];cases y.ord<;>decide),if_neg (by simpa using c3)];refine bh (bh (bh (ndz.Lm (ndz.FM (ndz'.FM ?_)))));have hsx:=ht x (aF hx);have hsy:=ht y (aF hy);refine z.call (P:=λr _=>r=SB x.kind x.text y.text) (Wm hsx hsy (by omega) z.wf) λr h1 hr f1 z1=>?_;subst hr;by_cases c4:SB x.kind x.text y.text=0
   .rw[if_neg (by simpa using c4),if_neg (by simpa using c4)];rw[ah];refine (ei n h1 R L (by omega) ⟨C,TC⟩ z1).mono λr h2 hr=>?_;obtain⟨bp,L1,rfl,mp,T1,E1,z2⟩:=hr;rw[ah];refine (ej n h2 R L1 (by omega) T1 z2).mono λr h3 hr=>?_;obtain⟨bq,L2,rfl,mq,T2,E2,z3⟩:=hr;have lp:=qq hx;have lq:=qq hy;have hbx:=(hB.2.2 x (aF hx)).2;have hby:=(hB.2.2 y (aF hy)).2;have em:(if ((arr bq y.items.length).len:Int)<((arr bp x.items.length).len:Int) then ((arr bq y.items.length).len:Int) else ((arr bp x.items.length).len:Int))=((min (jc N i).length (jc N j).length:Nat):Int):=by
     rw[lp,lq];show (if (y.items.length:Int)<(x.items.length:Int) then (y.items.length:Int) else (x.items.length:Int))=_;split<;>omega
    rw[em];rw[ah];have ox:jc N i=uw (nk N) x:=(by unfold jc;rw[hx]);have oy:jc N j=uw (nk N) y:=(by unfold jc;rw[hy]);have key:=ada (p:=jc N i) (q:=jc N j) nd nd' (bp:=bp) (bq:=bq) (λu hu=>by
      rw[ox] at hu;have:=mw hu;exact⟨this.1,this.2,λe=>by rw[d.map (aF hx) e];exact this.2⟩) (λu hu=>by
      rw[oy] at hu;have:=mw hu;exact⟨this.1,this.2,λe=>by rw[d.map (aF hy) (hk▸e)];exact this.2⟩) (by omega) hc n 0 h3 R L2 (by omega) (by omega) (E2 _ _ mp) mq T2 z3
    rw[lp,lq] at key;rw[lp,lq];refine key.mono λr h4 hr=>?_;obtain⟨hr,L3,T3,E3,z4⟩:=hr;rw[aeh,aeh,ox,oy] at hr;have fin:∃L',ov t N L'/\Ext L L'/\Z h0 h4 (R++L'):=⟨L3,T3,(E1.trans E2).trans E3,z4⟩;cases hd:Cb (nk N) x y (uw (nk N) x) (uw (nk N) y) with
    |some c=>rw[hd] at hr;subst hr;exact ag.2 ⟨rfl,fin⟩
    |none=>
     rw[hd] at hr;subst hr;show Wp (if decide ((x.items.length:Int)<(y.items.length:Int))=true then AI (-1) else if decide ((y.items.length:Int)<(x.items.length:Int))=true then AI 1 else AI 0) h4 _;by_cases l1:x.items.length<y.items.length
     .rw[if_pos (by simpa using l1)];simp only[if_pos l1];exact ag.2 ⟨rfl,fin⟩
     .rw[if_neg (by simpa using l1)];simp only[if_neg l1];by_cases l2:y.items.length<x.items.length
      .rw[if_pos (by simpa using l2)];simp only[if_pos l2];exact ag.2 ⟨rfl,fin⟩
      .rw[if_neg (by simpa using l2)];simp only[if_neg l2];exact ag.2 ⟨rfl,fin⟩
   .rw[if_pos (by simpa using c4),if_pos c4];exact ag.2 ⟨rfl,L,⟨C,TC⟩,.refl,z1⟩
  .rw[if_pos (by cases hxo:x.ord<;>cases hyo:y.ord<;>simp_all),if_pos c3];refine bh (ndz'.ldO ?_);cases y.ord
   .exact ag.2 ⟨rfl,L,⟨C,TC⟩,.refl,z⟩
   .exact ag.2 ⟨rfl,L,⟨C,TC⟩,.refl,z⟩
 refine main.mono λr h1 hr=>?_;rw[if_neg (by simp)];exact ag.2 hr
def Xe (B d:Nat):Nat:=66000+d*(2*B+800)
theorem Zc {t:Ow}(G:jI h0 t.s N)(d:Vd N root)(hB:Bd N B)(ht:∀x∈N,x.text.size<=65536)(hsm:∀x∈N,x.kind=10->x.items.length<50){H:Int->Nat}(hH:∀u v,KN N v->Edge N u v->H v<H u) :
  ∀(e:Nat),(∀i j,KN N i->KN N j->H i<e->H j<e->SF h0 t N (Xe B e) i j)/\∀k x,gt N k=some x->H k<=e->Ws h0 t N (Xe B e+700+B) k x.items.length:=by
 intro e
 induction e with
 |zero=>
  refine⟨λi j _ _ h1=>absurd h1 (by omega),λk x hx hk=>Wu G d hB hx (hsm x (aF hx)) λu hu v hv=>?_⟩;have:=hH k u (.key (aF hx) hu) ⟨x,hx,.inl hu⟩;omega
 |succ e ih=>
  have cmp:∀i j,KN N i->KN N j->H i<e+1->H j<e+1->SF h0 t N (Xe B (e+1)) i j:=λi j hi hj h1 h2=>by
   obtain⟨x,hx⟩:=gM (l:=N) rfl (hi.ir d.ix);obtain⟨y,hy⟩:=gM (l:=N) rfl (hj.ir d.ix);have:=adb G d hB ht hx hy hi hj (fe:=Xe B e+700+B) (fc:=Xe B e) (by unfold Xe;omega) (by omega) (ih.2 i x hx (by omega)) (ih.2 j y hy (by omega)) λu hu v hv=>by
    have eu:Edge N i u:=⟨x,hx,hu⟩;have ev:Edge N j v:=⟨y,hy,hv⟩;have q1:=hH i u (.step hi eu) eu;have q2:=hH j v (.step hj ev) ev;exact ih.1 u v (.step hi eu) (.step hj ev) (by omega) (by omega)
   intro n h R L hn T z;refine this n h R L ?_ T z;unfold Xe at hn⊢;rw[adv,afB] at hn;omega
  refine⟨cmp,λk x hx hk=>?_⟩;refine Wu G d hB hx (hsm x (aF hx)) λu hu v hv=>?_;have q1:=hH k u (.key (aF hx) hu) ⟨x,hx,.inl hu⟩;have q2:=hH k v (.key (aF hx) hv) ⟨x,hx,.inl hv⟩;exact cmp u v (.key (aF hx) hu) (.key (aF hx) hv) (by omega) (by omega)
def fuE (B:Nat):Nat:=Xe B B+700+B
theorem FE {t:Ow}(G:jI h0 t.s N)(d:Vd N root)(hB:Bd N B)(ht:∀x∈N,x.text.size<=65536)(hsm:∀x∈N,x.kind=10->x.items.length<50){k:Int}{x:an}(hx:gt N k=some x):Ws h0 t N (fuE B) k x.items.length:=by
 obtain⟨H,hH1,hH2⟩:=d.ac6;have h1:=(Zc G d hB ht hsm hH2 N.length).2 k x hx (hH1 k);intro n h R L hn T z;refine h1 n h R L ?_ T z;have h2:Xe B N.length<=Xe B B:=Nat.add_le_add_left (adz _ hB.1) _;unfold fuE at hn;omega
end Go.Sh
namespace Go.Ago
open Go
variable {α β:Type}{h h' h0:af}{L:List bj}
theorem Z.Oy (z:Z h0 h L)(i:Nat){st:Bool}{s:Sl}{sz n:Nat}{e:TypeId}{cs new:List Value}{g:Nat}{f:Sl->M β}{Q:β->af->Prop}(hi:L[i]?=some (.sl s sz e cs g))(hn:n≠0)(hl:new.length=n*sz)(hb:s.len+n<=cK)
  (q:∀s' h' g',s'.len=s.len+n->Z h0 h' (L.set i (.sl s' sz e (cs++new) g'))->Fr (·=g) h h'->Wp (f s') h' Q):Wp (sh (Ago.app st s sz e n new) f) h Q:=by
 rw[ah];have o:qQ h s sz e cs g:=z.get i hi;refine o.app z.wf hn hl hb λs' h' g' h1 hcap h2 h3 h4=>q s' h' g' h1 ?_ h4;by_cases hg:g=0
 .have h3:=h3.resolve_left (λx=>x.2 hg);have f0:Fr (λ_=>False) h h':=⟨h4.wf,h4.next,λj c g2 b e2 hj _=>h4.cells j c g2 b e2 hj λe3=>by rw[e3,hg],λg2 h5 _=>h4.oi g2 h5 λe3=>by rw[e3,hg],h4.used,h4.none,λj x hj _=>h4.maps j x hj (by omega)⟩
  have z1:=z.add f0 (o:=.sl s' sz e (cs++new) g') h2 (.inr (by simp only[bj.dW];omega));refine⟨z1.HX,z1.fr,λx hx=>z1.own x ?_,BC pM (List.pairwise_cons.1 z1.rV).2 λj y hj hne e2=>(List.pairwise_cons.1 z1.rV).1 y (IN hj) e2⟩;rcases aef hx with hx|rfl
  .exact AT _ hx
  .exact By
 .refine z.rC (o:=.sl s sz e cs g) hi hg h4 h2 ?_;rcases h3 with h3|h3
  .exact .inl h3.1
  .exact .inr (.inr (by simp only[bj.dW];omega))
theorem Z.mJ (z:Z h0 h L)(i:Nat){m:Nat}{kt:TypeId}{fn:Value->Option Value}{n:Nat}{k v:Value}{f:Unit->M β}{Q:β->af->Prop}(hi:L[i]?=some (.map m kt fn n))
  (q:∀h' n',Z h0 h' (L.set i (.map m kt (wX fn k v) n'))->Wp (f ()) h' Q):Wp (sh (Ch kt (some m) k v) f) h Q:=by
 rw[ah];exact MB.af4 (z.get i hi) z.wf λh' l fr=>q h' _ (z.rC (o:=.map m kt fn n) hi (by simp[bj.dW]) fr l (.inl rfl))
end Go.Ago
namespace Go.Sh
open Go Go.Ago Go.Proofs
variable {N:List an}{root:Int}{B:Nat}
structure NS where
 at':List Int
 lF:Nat
 out:List an
def qs (F:Int->NS->Option (Int×NS))(x:an):List Int->NS->Option ((List Int×List Int)×NS)
 |[],S=>some (([],[]),S)
 |k::r,S=>if x.kind=10 then (match F (nth x.keys k) S with
   |none=>none
   |some (a,S1)=>match F (nth x.items k) S1 with
    |none=>none
    |some (b,S2)=>match qs F x r S2 with
     |none=>none
     |some ((ks,is),S3)=>some ((a::ks,b::is),S3))
  else match F (nth x.items k) S with
   |none=>none
   |some (b,S2)=>match qs F x r S2 with
    |none=>none
    |some ((ks,is),S3)=>some ((ks,b::is),S3)
noncomputable def nv (N:List an):Nat->Int->NS->Option (Int×NS)
 |0,_,_=>none
 |f+1,k,S=>match gt S.at' k,gt N k with
  |some v,some x=>if 0<=v then some (v,S) else match qs (nv N f) x (jc N k) ⟨S.at'.set k.toNat S.lF,S.lF+1,S.out⟩ with
   |none=>none
   |some ((ks,is),S2)=>some ((S.lF:Int),⟨S2.at',S2.lF,S2.out.set S.lF ⟨x.kind,x.text,x.ord,ks,is⟩⟩)
  |_,_=>none
def nd0:an:=⟨0,ofBytes [],false,[],[]⟩
def Xf (m:Nat):NS:=⟨List.replicate m (-1),0,List.replicate m nd0⟩
noncomputable def rB (N:List an)(root:Int):List an:=match nv N (N.length+1) root (Xf N.length) with
 |some (_,S)=>S.out
 |none=>[]
def neg (l:List Int):Nat:=l.countP (λv=>decide (v<0))
theorem JE:∀{l:List Int} {i:Nat} {v w:Int},l[i]?=some v->v<0->0<=w->neg (l.set i w)+1=neg l
 |[],i,v,w,h,_,_=>by simp at h
 |a::l,0,v,w,h,h1,h2=>by
  simp at h;subst h;unfold neg;rw[aeg,afO,afO,if_neg (by simpa using h2),if_pos (by simpa using h1)]
 |a::l,i+1,v,w,h,h1,h2=>by
  have ih:=JE (l:=l) (i:=i) (by simpa using h) h1 h2;unfold neg at ih⊢;rw[afD,afO,afO];omega
theorem neg_pos {l:List Int}{i:Nat}{v:Int}(h:l[i]?=some v)(hv:v<0):0<neg l:=by
 unfold neg;exact List.countP_pos_iff.2 ⟨v,IN h,by simpa using hv⟩
def aeR (N:List an)(m:Nat)(y:an):Prop:=y=nd0\/∃x∈N,y.kind=x.kind/\y.text=x.text/\y.ord=x.ord/\y.items.length=x.items.length/\y.keys.length=x.keys.length/\(∀v∈y.keys,IR m v)/\∀v∈y.items,IR m v
structure Ha (N:List an) (S:NS):Prop where
 la:S.at'.length=N.length
 lo:S.out.length=N.length
 le:∀v∈S.at',v<(S.lF:Int)
 sum:neg S.at'+S.lF=N.length
 fr:∀y∈S.out,aeR N N.length y
theorem Ha.cle {S:NS}(o:Ha N S):S.lF<=N.length:=by have:=o.sum;omega
theorem wK {F:Int->NS->Option (Int×NS)}{x:an}{n:Nat}(hF:∀k S,Ha N S->neg S.at'<=n->IR N.length k->∃v S',F k S=some (v,S')/\Ha N S'/\neg S'.at'<=neg S.at'/\IR N.length v)
  (hk:x.kind=10->x.keys.length=x.items.length) (hI:(∀v∈x.keys,IR N.length v)/\∀v∈x.items,IR N.length v):∀(l:List Int) (S:NS),(∀a∈l,0<=a/\a<x.items.length)->Ha N S->neg S.at'<=n ->
   ∃ks is S',qs F x l S=some ((ks,is),S')/\Ha N S'/\neg S'.at'<=neg S.at'/\is.length=l.length/\ks.length=(if x.kind=10 then l.length else 0)/\(∀v∈ks,IR N.length v)/\∀v∈is,IR N.length v
 |[],S,_,o,hn=>⟨[],[],S,rfl,o,aaR _,rfl,by simp,by simp,by simp⟩
 |a::l,S,ha,o,hn=>by
  obtain⟨a1,a2⟩:=ha a By;unfold qs;by_cases hx:x.kind=10
  .rw[if_pos hx];obtain⟨v,S1,e1,o1,n1,r1⟩:=hF (nth x.keys a) S o hn (hI.1 _ (ka a1 (by rw[hk hx];exact a2)));rw[e1];obtain⟨w,S2,e2,o2,n2,r2⟩:=hF (nth x.items a) S1 o1 (by omega) (hI.2 _ (ka a1 a2));simp only[e2];obtain⟨ks,is,S3,e3,o3,n3,l1,l2,q1,q2⟩:=wK hF hk hI l S2 (λb hb=>ha b (AT _ hb)) o2 (by omega);simp only[e3];refine⟨v::ks,w::is,S3,rfl,o3,by omega,by simp[l1],by rw[if_pos hx] at l2⊢;simp[l2],λu hu=>?_,λu hu=>?_⟩
   .rcases List.mem_cons.1 hu with rfl|hu
    .exact r1
    .exact q1 u hu
   .rcases List.mem_cons.1 hu with rfl|hu
    .exact r2
    .exact q2 u hu
  .rw[if_neg hx];obtain⟨w,S2,e2,o2,n2,r2⟩:=hF (nth x.items a) S o hn (hI.2 _ (ka a1 a2));simp only[e2];obtain⟨ks,is,S3,e3,o3,n3,l1,l2,q1,q2⟩:=wK hF hk hI l S2 (λb hb=>ha b (AT _ hb)) o2 (by omega);simp only[e3];refine⟨ks,w::is,S3,rfl,o3,by omega,by simp[l1],by rw[if_neg hx] at l2⊢;exact l2,q1,λu hu=>?_⟩;rcases List.mem_cons.1 hu with rfl|hu
   .exact r2
   .exact q2 u hu
theorem D6 {γ:Type}{l:List γ}{i:Nat}{x y:γ}(h:y∈l.set i x):y∈l\/y=x:=by
 rcases aef h with h|h
 .exact .inl h
 .exact .inr h
theorem JF (d:Vd N root):∀(f:Nat) (k:Int) (S:NS),Ha N S->neg S.at'<f->IR N.length k->∃v S',nv N f k S=some (v,S')/\Ha N S'/\neg S'.at'<=neg S.at'/\IR N.length v:=by
 intro f
 induction f with
 |zero=>intro k S _ h;omega
 |succ f ih=>
  intro k S o hf hk;obtain⟨v,hv⟩:=gM (l:=S.at') o.la hk;obtain⟨x,hx⟩:=gM (l:=N) rfl hk;unfold nv;rw[hv,hx];simp only;have hlt:=o.le v (aF hv);have hcl:=o.cle;by_cases h0:0<=v
  .rw[if_pos h0];exact⟨v,S,rfl,o,aaR _,h0,by omega⟩
  .rw[if_neg h0];have hn:=JE (aD hv).2 (w:=(S.lF:Int)) (by omega) (by omega);have hp:=neg_pos (aD hv).2 (by omega);have hsum:=o.sum;have o1:Ha N ⟨S.at'.set k.toNat S.lF,S.lF+1,S.out⟩:=⟨by rw[ae8];exact o.la,o.lo,λw hw=>by
    rcases D6 hw with hw|rfl
    .have:=o.le w hw;show w<((S.lF+1:Nat):Int);omega
    .show (S.lF:Int)<((S.lF+1:Nat):Int);omega,by simp only;omega,o.fr⟩
   have hord:jc N k=uw (nk N) x:=by unfold jc;rw[hx]
   obtain⟨ks,is,S2,e2,o2,n2,l1,l2,q1,q2⟩:=wK (n:=f-1) (F:=nv N f) (x:=x) (λk S o hn hk=>ih k S o (by omega) hk) (d.map (aF hx)) (d.ix x (aF hx)) (jc N k) _ (λa ha=>by rw[hord] at ha;exact mw ha) o1 (by simp only;omega);rw[e2];simp only at n2⊢;refine⟨_,_,rfl,⟨o2.la,by rw[ae8];exact o2.lo,o2.le,o2.sum,λy hy=>?_⟩,by simp only;omega,by omega,by omega⟩;rcases D6 hy with hy|rfl
   .exact o2.fr y hy
   .refine .inr ⟨x,aF hx,rfl,rfl,rfl,by show is.length=_;rw[l1,qq hx],?_,q1,q2⟩;show ks.length=_;rw[l2,qq hx];by_cases h10:x.kind=10
    .rw[if_pos h10,d.map (aF hx) h10]
    .rw[if_neg h10,d.keys (aF hx) h10];rfl
theorem JG (m:Nat):neg (List.replicate m (-1))=m:=by
 unfold neg;rw[List.countP_replicate];simp
theorem Wv:Ha N (Xf N.length):=⟨by simp[Xf],by simp[Xf],λv hv=>by
 have:=adt hv;subst this;show (-1:Int)<((0:Nat):Int);omega,by show neg (List.replicate _ _)+0=_;rw[JG];rfl,λy hy=>.inl (adt hy)⟩
theorem JH (d:Vd N root):∃v S,nv N (N.length+1) root (Xf N.length)=some (v,S)/\rB N root=S.out/\Ha N S/\IR N.length v:=by
 obtain⟨v,S,e,o,_,r⟩:=JF d (N.length+1) root (Xf N.length) Wv (by show neg (List.replicate _ _)<_;rw[JG];omega) d.rt;exact⟨v,S,e,by unfold rB;rw[e],o,r⟩
theorem ui (d:Vd N root):(rB N root).length=N.length:=by
 obtain⟨v,S,_,e,o,_⟩:=JH d;rw[e];exact o.lo
theorem yE (d:Vd N root){y:an}(hy:y∈rB N root):aeR N N.length y:=by
 obtain⟨v,S,_,e,o,_⟩:=JH d;rw[e] at hy;exact o.fr y hy
theorem D7 (d:Vd N root):qG (rB N root) (rB N root).length:=λy hy=>by
 rw[ui d];rcases yE d hy with rfl|⟨x,_,_,_,_,_,_,h1,h2⟩
 .exact⟨by simp[nd0],by simp[nd0]⟩
 .exact⟨h1,h2⟩
theorem LY (d:Vd N root){y:an}(hy:y∈rB N root):y.keys.length=(if y.kind=10 then y.items.length else 0):=by
 rcases yE d hy with rfl|⟨x,hx,h1,_,_,h4,h5,_⟩
 .rfl
 .rw[h5,h1,h4];by_cases h10:x.kind=10
  .rw[if_pos h10,d.map hx h10]
  .rw[if_neg h10,d.keys hx h10];rfl
theorem Zd (d:Vd N root)(hB:Bd N B):Bd (rB N root) B:=⟨by rw[ui d];exact hB.1,hB.2.1,λy hy=>by
 rcases yE d hy with rfl|⟨x,hx,_,_,_,h4,h5,_⟩
 .exact⟨agx _,agx _⟩
 .rw[h4,h5];exact hB.2.2 x hx⟩
end Go.Sh
namespace Go.Sh
open Go Go.Ago Go.Proofs
variable {α β:Type}{h h' h0:af}{L R J:List bj}{N:List an}{root:Int}{B:Nat}{Q:β->af->Prop}
structure NC where
 ab:Nat
 x8:Nat
 po:Nat
 x0:Nat
 x4:Nat
 qH:Nat
 nb:Nat
 iK:Nat
 m:Nat
 t:Ow
 B:Nat
abbrev NC.fn (c:NC):Value:=Value.func (Fn.func nN) #[] #[Value.pointer (some (ak c.x8)),Value.pointer (some (ak c.po)),Value.pointer (some (ak c.x0)),Value.pointer (some (ak c.x4)),Value.pointer (some (ak c.qH)),Value.pointer (some (ak c.iK))]
def ML (c:NC)(S:NS)(O:List bC):List bj:=[.ar c.po [vi S.lF] au,.ar c.ab (S.at'.map vi) au,.ar c.nb (O.flatMap bC.enc) aw,.ar c.x8 [aE (arr c.ab c.m)] aR,.ar c.x0 [aE c.t.s,vi c.t.root] aj,
 .ar c.x4 [Value.pointer (some (ak c.t.tb))] bI,.ar c.qH [c.fn] oC,.ar c.iK [aE (arr c.nb c.m),vi 0] aj]
def RO (r:bC)(J:List bj):Prop:=((r.ks.len=0/\r.kl=[])\/bj.sl r.ks 1 au (r.kl.map vi) r.kg∈J)/\((r.is.len=0/\r.il=[])\/bj.sl r.is 1 au (r.il.map vi) r.ig∈J)
theorem RO.mono {r:bC}{J J':List bj}(hr:RO r J)(hs:∀o∈J,o∈J'):RO r J':=⟨hr.1.imp id (hs _),hr.2.imp id (hs _)⟩
def Qk (h0:af)(c:NC)(S:NS)(h:af)(R J L:List bj):Prop:=∃O:List bC,O.map bC.v=S.out/\(∀r∈O,RO r J)/\Z h0 h (ML c S O++(R++(J++L)))
def Ww (B f:Nat):Nat:=fuE B+f*(B+5)+5
def aeS (h0:af)(c:NC)(N:List an)(f:Nat):Prop:=∀(n:Nat) (h:af) (k:Int) (S:NS) (v:Int) (S':NS) (R J L:List bj),Ww c.B f<=n->nv N f k S=some (v,S')->Ha N S->neg S.at'<f->ov c.t N L->Qk h0 c S h R J L ->
 Wp ((aW.at n).gu k (ak c.x8) (ak c.po) (ak c.x0) (ak c.x4) (ak c.qH) (ak c.iK)) h λr h'=>r=v/\∃J' L',ov c.t N L'/\Ext L L'/\Qk h0 c S' h' R J' L'
def FR (mb:Nat)(x:an)(ksl isl:Sl)(kl il:List Int)(gk gi:Nat):List bj:=[.ar mb [vi x.kind,.string x.text,.bool x.ord,aE ksl,aE isl] aw,.sl ksl 1 au (kl.map vi) gk,.sl isl 1 au (il.map vi) gi]
theorem yF {M F R X:List bj}:(M++((F++R)++X)).Perm (F++(M++(R++X))):=by
 rw[abp];exact afE M F (R++X)
theorem aeT {s:Sl}{kl:List Int}{g:Nat}{o:qQ h s 1 au (kl.map vi) g}:s.len=kl.length:=by have:=o.1;simp at this;omega
theorem aeU {f:Nat}{k:Int}{S:NS}{v:Int}{S':NS}(h:nv N f k S=some (v,S')):∃w x,gt S.at' k=some w/\gt N k=some x:=by
 cases f with
 |zero=>cases h
 |succ f=>
  unfold nv at h;split at h
  .rename_i w x e1 e2;exact⟨w,x,e1,e2⟩
  .cases h
theorem SG (d:Vd N root){f:Nat}{x:an}(hx:x∈N){l:List Int}(hl:∀a∈l,0<=a/\a<x.items.length){S S':NS}{ks is:List Int}(o:Ha N S)(hn:neg S.at'<f)(h:qs (nv N f) x l S=some ((ks,is),S')):Ha N S'/\neg S'.at'<=neg S.at'/\is.length=l.length/\ks.length<=l.length:=by
 obtain⟨ks',is',S2,e,o2,n2,l1,l2,_⟩:=wK (n:=f-1) (F:=nv N f) (x:=x) (λk S o hn hk=>JF d f k S o (by omega) hk) (d.map hx) (d.ix x hx) l S hl o (by omega);rw[e] at h;cases h;exact⟨o2,n2,l1,by rw[l2];split<;>omega⟩
theorem ade (d:Vd N root){c:NC}(hm:c.B<1073741824){f:Nat}(V:aeS h0 c N f){x:an}(hx:x∈N){a:Addr}{ks0 is0:Sl}(nd:BF h0 a x ks0 is0){mb be:Nat}{l:List Int}(hl:∀a∈l,0<=a/\a<x.items.length)(hll:l.length<=c.B)(me:Int) :
  ∀(n i:Nat) (S S':NS) (ks is kl il:List Int) (ksl isl:Sl) (gk gi:Nat) (h:af) (J L:List bj),Ww c.B f+(l.length-i)+1<=n->i<=l.length->qs (nv N f) x (l.drop i) S=some ((ks,is),S')->Ha N S->neg S.at'<f->kl.length<=i->il.length<=i->bj.ar be (l.map vi) au∈L->ov c.t N L ->
   Qk h0 c S h (FR mb x ksl isl kl il gk gi++R) J L ->
   Wp ((aW.at n).ia (ak c.qH) (ak c.iK) me (some a) (ak mb) (arr be l.length) (l.length:Int) (i:Int)) h λ_ h'=>∃ksl isl gk gi J' L',ov c.t N L'/\Ext L L'/\Qk h0 c S' h' (FR mb x ksl isl (kl++ks) (il++is) gk gi++R) J' L':=by
 intro n
 induction n with
 |zero=>intro i S S' ks is kl il ksl isl gk gi h J L h1;omega
 |succ n ih=>
  intro i S S' ks is kl il ksl isl gk gi h J L h1 h2 hv ok hneg hkl hil hbe T ⟨O,hO,hRO,z⟩;show Wp (oq (aW.at n) n (ak c.qH) (ak c.iK) me (some a) (ak mb) (arr be l.length) (l.length:Int) (i:Int)) h _;unfold oq;by_cases hi:i<l.length
  .rw[if_pos (by simpa using hi)];obtain⟨u,hu⟩:=kB (l:=l) (v:=(i:Int)) (by omega) (by omega);obtain⟨u1,u2⟩:=hl u (aF hu);rw[yD hu] at hv;obtain⟨iu,hiu⟩:=kB (l:=x.items) u1 u2;have ei:nth x.items u=iu:=by unfold nth;rw[hiu];rfl
   refine z.rdM (aa5 _ (aa5 _ (aa5 _ hbe))) hu rfl ?_;refine bh ((nd.fr z.fr).Lm ?_);have call:∀(h:af) (k:Int) (S1:NS) (v:Int) (S2:NS) (ksl isl:Sl) (kl il:List Int) (gk gi:Nat) (J L:List bj) (ads:Addr) (fv:Value) (Q:Int->af->Prop) (γ:Type) (K:Int->M γ) (Q2:γ->af->Prop),ads.block=mb->fv=c.fn->nv N f k S1=some (v,S2)->Ha N S1->neg S1.at'<f->ov c.t N L ->
     Qk h0 c S1 h (FR mb x ksl isl kl il gk gi++R) J L->(∀h' J' L',ov c.t N L'->Ext L L'->Qk h0 c S2 h' (FR mb x ksl isl kl il gk gi++R) J' L'->Wp (K v) h' Q2) ->
     Wp (sh (Ago.kG [some ads] (gX (aW.at n) n fv k)) K) h Q2:=by
    intro h k S1 v S2 ksl isl kl il gk gi J L ads fv Q γ K Q2 ha hf hv ok hng T st q;subst hf;have lb:∀{S:NS} {h:af} {J L:List bj},Qk h0 c S h (FR mb x ksl isl kl il gk gi++R) J L->LB h mb [vi x.kind,.string x.text,.bool x.ord,aE ksl,aE isl] aw:=λ⟨O,_,_,z⟩=>by
     have:=(z.own (.ar mb [vi x.kind,.string x.text,.bool x.ord,aE ksl,aE isl] aw) (aa5 _ (abQ _ (abQ _ By)))).1;exact this
    refine yh (P:=λr h'=>r=v/\∃J' L',ov c.t N L'/\Ext L L'/\Qk h0 c S2 h' (FR mb x ksl isl kl il gk gi++R) J' L') (λb hb=>?_) ?_ λr h' hr=>?_
    .rw[afC] at hb;cases hb;exact⟨_,_,by rw[ha];exact lb st,λr h' hr=>by obtain⟨_,J',L',_,_,st'⟩:=hr;rw[ha];exact lb st'⟩
    .unfold gX;rw[if_pos (by rfl),ah];refine jX (c:=((ak c.x8,ak c.po,ak c.x0,ak c.x4,ak c.qH,ak c.iK):Addr×Addr×Addr×Addr×Addr×Addr)) rfl ?_;exact V n h k S1 v S2 _ J L (by omega) hv ok hng T st
    .obtain⟨rfl,J',L',T',E',st'⟩:=hr;exact q h' J' L' T' E' st'
   have J0:∀(h:af) (S1:NS) (kl:List Int) (ksl:Sl) (gk:Nat) (J L:List bj) (b:Int) (S2:NS) (ks is:List Int),nv N f iu S1=some (b,S2)->qs (nv N f) x (l.drop (i+1)) S2=some ((ks,is),S')->Ha N S1->neg S1.at'<f->kl.length<=i+1->bj.ar be (l.map vi) au∈L->ov c.t N L ->
     Qk h0 c S1 h (FR mb x ksl isl kl il gk gi++R) J L->Wp (gr (aW.at n) n (ak c.qH) (ak c.iK) me (some a) (ak mb) u (arr be l.length) (l.length:Int) (i:Int)) h λ_ h'=>∃ksl isl gk gi J' L',ov c.t N L'/\Ext L L'/\Qk h0 c S' h' (FR mb x ksl isl (kl++ks) (il++(b::is)) gk gi++R) J' L':=by
    intro h S1 kl ksl gk J L b S2 ks is hv1 hv2 ok hneg hkl hbe T st;unfold gr;obtain⟨O,hO,hRO,z⟩:=st;refine bh ?_;refine z.D5 (o:=4) (l:=.sl) (x:=isl) (aa5 _ (abQ _ (abQ _ By))) rfl rfl ?_;refine z.D5 (o:=0) (l:=.raw) (x:=c.fn) (b:=c.qH) (cs:=[c.fn]) (e:=oC) (abQ _ (by simp[ML])) rfl rfl ?_;refine (nd.fr z.fr).AR ((nd.fr z.fr).items.ix u1 (aD hiu).2 λ_ _ c1=>c1.pL (l:=li) rfl rfl ?_);refine call h iu S1 b S2 ksl isl kl il gk gi J L _ _ (λ_ _=>True) _ _ _ rfl rfl hv1 ok hneg T ⟨O,hO,hRO,z⟩ λh' J' L' T' E' st'=>?_;obtain⟨O',hO',hRO',z'⟩:=st';have zf:=Z.perm z' yF;have ilen:isl.len=il.length:=by
     have o:qQ h' isl 1 au (il.map vi) gi:=zf.get 2 rfl;have:=o.1;simp at this;omega
    refine Z.Oy zf 2 rfl (by omega) rfl (by rw[ilen];unfold cK;omega) λs' h2 g' hs' z2 _=>?_;have z2:Z h0 h2 ([.ar mb [vi x.kind,.string x.text,.bool x.ord,aE ksl,aE isl] aw,.sl ksl 1 au (kl.map vi) gk,.sl s' 1 au (il.map vi++[vi b]) g']++(ML c S2 O'++(R++(J'++L')))):=z2;refine z2.st 0 (cs':=[vi x.kind,.string x.text,.bool x.ord,aE ksl,aE s']) λh3 z3=>?_;have z3:Z h0 h3 (FR mb x ksl s' kl (il++[b]) gk g'++(ML c S2 O'++(R++(J'++L')))):=by
     show Z h0 h3 (_::_::.sl s' 1 au ((il++[b]).map vi) g'::_);rw[afw];exact z3
    have hok:Ha N S2/\neg S2.at'<=neg S1.at':=by
     obtain⟨v',S'',e,o,n',_⟩:=JF d f iu S1 ok hneg ((d.ix x hx).2 iu (aF hiu));rw[hv1] at e;cases e;exact⟨o,n'⟩
    rw[uv (B:=c.B) (by omega) hm];have st3:Qk h0 c S2 h3 (FR mb x ksl s' kl (il++[b]) gk g'++R) J' L':=⟨O',hO',hRO',Z.perm z3 yF.symm⟩;refine (ih (i+1) S2 S' ks is kl (il++[b]) ksl s' gk g' h3 J' L' (by omega) (by omega) hv2 hok.1 (by omega) hkl (by simp;omega) (E' _ _ hbe) T' st3).mono λ_ h4 hr=>?_;obtain⟨ksl,isl,gk,gi,J2,L2,T2,E2,st4⟩:=hr;refine⟨ksl,isl,gk,gi,J2,L2,T2,E'.trans E2,?_⟩;rw[abp] at st4;exact st4
   unfold qs at hv;by_cases hk:x.kind=10
   .rw[if_pos hk] at hv;rw[if_pos (by simpa using hk)];obtain⟨ku,hku⟩:=kB (l:=x.keys) u1 (by rw[d.map hx hk];exact u2);have ek:nth x.keys u=ku:=(by unfold nth;rw[hku];rfl);rw[ek,ei] at hv;cases e1:nv N f ku S with
    |none=>rw[e1] at hv;cases hv
    |some q1=>
    obtain⟨a1,S1⟩:=q1;rw[e1] at hv;simp only at hv;cases e2:nv N f iu S1 with
    |none=>rw[e2] at hv;cases hv
    |some q2=>
    obtain⟨b1,S2⟩:=q2;rw[e2] at hv;simp only at hv;cases e3:qs (nv N f) x (l.drop (i+1)) S2 with
    |none=>rw[e3] at hv;cases hv
    |some q3=>
    obtain⟨⟨ks2,is2⟩,S3⟩:=q3;rw[e3] at hv;cases hv;have hok:Ha N S1/\neg S1.at'<=neg S.at':=by
     obtain⟨v',S'',e,o,n',_⟩:=JF d f ku S ok hneg ((d.ix x hx).1 ku (aF hku));rw[e1] at e;cases e;exact⟨o,n'⟩
    refine bh ?_;refine z.D5 (o:=3) (l:=.sl) (x:=ksl) (aa5 _ (abQ _ (abQ _ By))) rfl rfl ?_;refine z.D5 (o:=0) (l:=.raw) (x:=c.fn) (b:=c.qH) (cs:=[c.fn]) (e:=oC) (abQ _ (by simp[ML])) rfl rfl ?_;refine (nd.fr z.fr).F9 ((nd.fr z.fr).keys.ix u1 (aD hku).2 λ_ _ c1=>c1.pL (l:=li) rfl rfl ?_);refine call h ku S a1 S1 ksl isl kl il gk gi J L _ _ (λ_ _=>True) _ _ _ rfl rfl e1 ok hneg T ⟨O,hO,hRO,z⟩ λh' J' L' T' E' st'=>?_;obtain⟨O',hO',hRO',z'⟩:=st';have zf:=Z.perm z' yF;have klen:ksl.len=kl.length:=by
     have o:qQ h' ksl 1 au (kl.map vi) gk:=zf.get 1 rfl;have:=o.1;simp at this;omega
    refine Z.Oy zf 1 rfl (by omega) rfl (by rw[klen];unfold cK;omega) λs' h2 g' hs' z2 _=>?_;have z2:Z h0 h2 ([.ar mb [vi x.kind,.string x.text,.bool x.ord,aE ksl,aE isl] aw,.sl s' 1 au (kl.map vi++[vi a1]) g',.sl isl 1 au (il.map vi) gi]++(ML c S1 O'++(R++(J'++L')))):=z2;refine z2.st 0 (cs':=[vi x.kind,.string x.text,.bool x.ord,aE s',aE isl]) λh3 z3=>?_;have z3:Z h0 h3 (FR mb x s' isl (kl++[a1]) il g' gi++(ML c S1 O'++(R++(J'++L')))):=by
     show Z h0 h3 (_::.sl s' 1 au ((kl++[a1]).map vi) g'::_);rw[afw];exact z3
    refine (J0 h3 S1 (kl++[a1]) s' g' J' L' b1 S2 ks2 is2 e2 e3 hok.1 (by omega) (by simp;omega) (E' _ _ hbe) T' ⟨O',hO',hRO',Z.perm z3 yF.symm⟩).mono λ_ h4 hr=>?_;obtain⟨ksl,isl,gk,gi,J2,L2,T2,E2,st4⟩:=hr;refine⟨ksl,isl,gk,gi,J2,L2,T2,E'.trans E2,?_⟩;rw[abp] at st4;exact st4
   .rw[if_neg hk] at hv;rw[if_neg (by simpa using hk)];rw[ei] at hv;cases e2:nv N f iu S with
    |none=>rw[e2] at hv;cases hv
    |some q2=>
    obtain⟨b1,S2⟩:=q2;rw[e2] at hv;simp only at hv;cases e3:qs (nv N f) x (l.drop (i+1)) S2 with
    |none=>rw[e3] at hv;cases hv
    |some q3=>
    obtain⟨⟨ks2,is2⟩,S3⟩:=q3;rw[e3] at hv;cases hv;exact J0 h S kl ksl gk J L b1 S2 ks is2 e2 e3 ok hneg (by omega) hbe T ⟨O,hO,hRO,z⟩
  .rw[if_neg (by simpa using hi)];rw[aaS (by omega)] at hv;unfold qs at hv;cases hv;refine ag.2 ⟨ksl,isl,gk,gi,J,L,T,.refl,?_⟩;rw[adG,adG];exact⟨O,hO,hRO,z⟩
end Go.Sh
namespace Go.Sh
open Go Go.Ago Go.Proofs
variable {α β:Type}{h h' h0:af}{L R J:List bj}{N:List an}{root:Int}{B:Nat}{Q:β->af->Prop}
theorem Wx (B f:Nat):Ww B (f+1)=Ww B f+(B+5):=by unfold Ww;rw[adv];omega
theorem Oz {O:List bC}{i:Nat}{r:bC}:(O.set i r).map bC.v=(O.map bC.v).set i r.v:=by rw[afX]
theorem Wy (d:Vd N root)(hB:Bd N B)(ht:∀x∈N,x.text.size<=65536)(hsm:∀x∈N,x.kind=10->x.items.length<50){c:NC}(G:jI h0 c.t.s N)(hm:c.m=N.length)(hBm:∀x∈N,x.items.length<=c.B)(hBc:Bd N c.B):∀f,f<=N.length+1->aeS h0 c N f:=by
 intro f
 induction f with
 |zero=>intro _ n h k S v S' R J L _ hv;cases hv
 |succ f ih=>
  intro hf n h k S v S' R J L hn hv ok hng T st;have V:=ih (by omega);rw[Wx] at hn;obtain⟨w,x,hw,hx⟩:=aeU hv;have hkr:IR N.length k:=Ft hx;have hBB:=hBc.2.1;obtain⟨n,rfl⟩:∃n',n=n'+1:=⟨n-1,by omega⟩;show Wp (rl (aW.at n) n k (ak c.x8) (ak c.po) (ak c.x0) (ak c.x4) (ak c.qH) (ak c.iK)) h _;unfold rl;obtain⟨O,hO,hRO,z⟩:=st;have lo:O.length=N.length:=by have:=congrArg List.length hO;rw[adq,ok.lo] at this;exact this
  have mML:∀{o:bj} {S:NS} {O:List bC},o∈ML c S O->o∈ML c S O++(R++(J++L)):=λh=>abQ _ h;refine z.ld 3 (o:=0) (l:=.sl) (x:=arr c.ab c.m) ?_;refine z.Gu 1 hw (by rw[ok.la,hm]) ?_;unfold nv at hv;rw[hw,hx] at hv;simp only at hv;by_cases h0':0<=w
  .rw[if_pos h0'] at hv;cases hv;rw[if_pos (by simpa using h0')];refine z.ld 3 (o:=0) (l:=.sl) (x:=arr c.ab c.m) ?_;refine z.Gu 1 hw (by rw[ok.la,hm]) (ag.2 ⟨rfl,J,L,T,.refl,O,hO,hRO,z⟩)
  .rw[if_neg h0'] at hv;rw[if_neg (by simpa using h0')];cases hlp:qs (nv N f) x (jc N k) ⟨S.at'.set k.toNat S.lF,S.lF+1,S.out⟩ with
   |none=>rw[hlp] at hv;cases hv
   |some q=>
   obtain⟨⟨ks,is⟩,S2⟩:=q;rw[hlp] at hv;cases hv;have hlt:=ok.le w (aF hw);have hcl:=ok.cle;have hn':=JE (aD hw).2 (w:=(S.lF:Int)) (by omega) (by omega);have hp:=neg_pos (aD hw).2 (by omega);have hsum:=ok.sum;refine z.ld 0 (o:=0) (x:=(S.lF:Int)) ?_;refine z.ld 3 (o:=0) (l:=.sl) (x:=arr c.ab c.m) ?_;refine F8 (b:=c.ab) (n:=c.m) hkr.1 (by rw[hm];exact hkr.2) ?_;rw[acq];refine z.zA 1 (xs:=S.at') (enc:=vi) (v:=(S.lF:Int)) (by rw[ok.la];have:=hkr.1;have:=hkr.2;omega) λh1 z=>?_;refine z.ld 0 (o:=0) (x:=(S.lF:Int)) ?_;rw[uv (B:=c.B) (by have:=hBc.1;omega) hBB];refine z.st 0 (cs':=[vi ((S.lF+1:Nat):Int)]) λh2 z=>?_;have z:Z h0 h2 (ML c ⟨S.at'.set k.toNat S.lF,S.lF+1,S.out⟩ O++(R++(J++L))):=z;refine z.ld 4 (o:=0) (l:=.sl) (x:=c.t.s) ?_;refine G.Pj z (aD hx).1 (aD hx).2 λa ks0 is0 nd=>?_;refine z.eS (n:=15) [13] (by decide) (by simp) λkb h3 z=>?_;refine bh (bh (bh ?_));have ndz:=nd.fr z.fr;refine ndz.Lm (ndz.FM (ndz.ldO ?_));refine z.newAt 0 (k:=kb+13) λh4 z=>?_;refine z.st 0 (cs':=[vi x.kind,.string x.text,.bool x.ord,aU,aU]) λh5 z=>?_;have z:Z h0 h5 (.ar (kb+13) [vi x.kind,.string x.text,.bool x.ord,aU,aU] aw::(ML c ⟨S.at'.set k.toNat S.lF,S.lF+1,S.out⟩ O++(R++(J++L)))):=z;refine z.ld 6 (o:=0) (l:=.ptr) (x:=some (ak c.t.tb)) ?_;have z1:Z h0 h5 ((.ar (kb+13) [vi x.kind,.string x.text,.bool x.ord,aU,aU] aw::(ML c ⟨S.at'.set k.toNat S.lF,S.lF+1,S.out⟩ O++(R++J)))++L):=by simpa using z
   rw[ah];refine (FE G d hBc ht hsm hx n h5 _ L (by unfold Ww at hn;omega) T z1).mono λr h6 hr=>?_;obtain⟨be,L1,rfl,hbe,T1,E1,z2⟩:=hr;have z2:Z h0 h6 (.ar (kb+13) [vi x.kind,.string x.text,.bool x.ord,aU,aU] aw::(ML c ⟨S.at'.set k.toNat S.lF,S.lF+1,S.out⟩ O++(R++(J++L1)))):=by simpa using z2
   have zn:Z h0 h6 (FR (kb+13) x mX mX [] [] 0 0++(ML c ⟨S.at'.set k.toNat S.lF,S.lF+1,S.out⟩ O++(R++(J++L1)))):=by
    have q1:=Z.add z2.drop (Fr.refl z2.wf) (o:=.sl mX 1 au [] 0) qQ.nil (.inl rfl);have q2:=Z.add z2 (Fr.refl z2.wf) (o:=.sl mX 1 au [] 0) qQ.nil (.inl rfl);have q3:=Z.add q2 (Fr.refl z2.wf) (o:=.sl mX 1 au [] 0) qQ.nil (.inl rfl);exact Z.sy (pre:=[_,_,_]) q3 [2,0,1] (by simp only[OF,aa0];decide)
   have o1:Ha N ⟨S.at'.set k.toNat S.lF,S.lF+1,S.out⟩:=⟨by rw[ae8];exact ok.la,ok.lo,λw hw=>by
    rcases D6 hw with hw|rfl
    .have:=ok.le w hw;show w<((S.lF+1:Nat):Int);omega
    .show (S.lF:Int)<((S.lF+1:Nat):Int);omega,by simp only;omega,ok.fr⟩
   have hord:jc N k=uw (nk N) x:=by unfold jc;rw[hx]
   have hol:∀a∈jc N k,0<=a/\a<x.items.length:=λa ha=>by rw[hord] at ha;exact mw ha
   have hlen:=qq hx;have st0:Qk h0 c ⟨S.at'.set k.toNat S.lF,S.lF+1,S.out⟩ h6 (FR (kb+13) x mX mX [] [] 0 0++R) J L1:=⟨O,hO,hRO,Z.perm zn yF.symm⟩;have hfn:neg (S.at'.set k.toNat S.lF)<f:=by omega
   .rw[<-hlen,ah];refine (ade (R:=R) d (by omega) V (aF hx) nd hol (by rw[hlen];exact hBm x (aF hx)) (S.lF:Int) n 0 _ S2 ks is [] [] mX mX 0 0 h6 J L1 (by rw[hlen];have:=hBm x (aF hx);omega) (by omega) (by rw[aeh];exact hlp) o1 hfn (by simp) (by simp) hbe T1 st0).mono λ_ h7 hr=>?_;obtain⟨ksl,isl,gk,gi,J2,L2,T2,E2,O2,hO2,hRO2,z7⟩:=hr;rw[ad6,ad6] at z7;obtain⟨o2,n2,l1,_⟩:=SG d (aF hx) hol o1 hfn hlp;have lo2:O2.length=N.length:=(by have:=congrArg List.length hO2;rw[adq,o2.lo] at this;exact this);have zf:=Z.perm z7 yF;refine zf.D5 (o:=0) (l:=.sl) (x:=arr c.nb c.m) (b:=c.iK) (cs:=[aE (arr c.nb c.m),vi 0]) (e:=aj) (aa5 _ (abQ _ (by simp[ML]))) rfl rfl ?_;refine zf.fI 0 (x:=((x.kind,x.text,x.ord,ksl,isl):bN [li,.str,.bool,.sl,.sl])) ?_;refine F8 (b:=c.nb) (n:=c.m) (by omega) (by omega) ?_;rw[IS]
    let r:bC:=⟨x.kind,x.text,x.ord,ksl,ks,gk,isl,is,gi⟩
    obtain⟨y,hy⟩:=jy (l:=O2) (i:=S.lF) (by omega);have hsp:aY (O2.flatMap bC.enc) (S.lF*5) [vi x.kind,.string x.text,.bool x.ord,aE ksl,aE isl]=(O2.set S.lF r).flatMap bC.enc:=by
     have:=KX (enc:=bC.enc) (sz:=5) bC.oL (x':=r) hy (o:=0) (vs:=[vi x.kind,.string x.text,.bool x.ord,aE ksl,aE isl]) (by simp) (by unfold aY bC.enc;rfl);rw[afs] at this;exact this
    have hfl:(O2.flatMap bC.enc).length=N.length*5:=(by rw[jW bC.oL,lo2]);refine zf.st 5 (cs':=(O2.set S.lF r).flatMap bC.enc) (λh8 z8=>ag.2 ?_) rfl hsp (by rw[hfl];simp;omega) rfl;have z8:Z h0 h8 (FR (kb+13) x ksl isl ks is gk gi++(ML c ⟨S2.at',S2.lF,S2.out.set S.lF r.v⟩ (O2.set S.lF r)++(R++(J2++L2)))):=z8;refine⟨rfl,.sl ksl 1 au (ks.map vi) gk::.sl isl 1 au (is.map vi) gi::J2,L2,T2,E1.trans E2,O2.set S.lF r,?_,λr' hr'=>?_,?_⟩
    .rw[Oz,hO2];rfl
    .rcases D6 hr' with h9|rfl
     .exact (hRO2 r' h9).mono λo ho=>AT _ (AT _ ho)
     .exact⟨.inr By,.inr (AT _ By)⟩
    .have z9:=Z.drop (L:=.sl ksl 1 au (ks.map vi) gk::.sl isl 1 au (is.map vi) gi::(ML c ⟨S2.at',S2.lF,S2.out.set S.lF r.v⟩ (O2.set S.lF r)++(R++(J2++L2)))) z8;have pm:(.sl ksl 1 au (ks.map vi) gk::.sl isl 1 au (is.map vi) gi::(ML c ⟨S2.at',S2.lF,S2.out.set S.lF r.v⟩ (O2.set S.lF r)++(R++(J2++L2)))).Perm (ML c ⟨S2.at',S2.lF,S2.out.set S.lF r.v⟩ (O2.set S.lF r)++(R++((.sl ksl 1 au (ks.map vi) gk::.sl isl 1 au (is.map vi) gi::J2)++L2))):=by
      have p1:=afE [bj.sl ksl 1 au (ks.map vi) gk,.sl isl 1 au (is.map vi) gi] (ML c ⟨S2.at',S2.lF,S2.out.set S.lF r.v⟩ (O2.set S.lF r)) (R++(J2++L2));have p2:=afE [bj.sl ksl 1 au (ks.map vi) gk,.sl isl 1 au (is.map vi) gi] R (J2++L2);exact p1.trans (afY _ p2)
     exact Z.perm z9 pm
theorem Qk.read {c:NC}{S:NS}(st:Qk h0 c S h R J L)(hm:c.m=S.out.length):jI h (arr c.nb c.m) S.out:=by
 obtain⟨O,hO,hRO,z⟩:=st;have l:LB h c.nb (O.flatMap bC.enc) aw:=z.get 2 rfl;have lo:O.length=c.m:=by rw[hm,<-hO,adq]
 refine⟨O,c.nb+1,hO,l.BB (by rw[jW bC.oL,lo]),λr hr=>?_⟩;obtain⟨h1,h2⟩:=hRO r hr;have one:∀{s:Sl} {kl:List Int} {g:Nat},(s.len=0/\kl=[])\/bj.sl s 1 au (kl.map vi) g∈J->IL h s kl:=λ{s kl g} hh=>by
  rcases hh with⟨e1,e2⟩|hm
  .subst e2;exact⟨0,qy.nil e1⟩
  .have o:qQ h s 1 au (kl.map vi) g:=(z.own _ (aa5 _ (aa5 _ (abQ _ hm)))).1;exact⟨g,o.BB⟩
 exact⟨one h1,one h2⟩
theorem Wz {m b:Nat}(hm:m<1073741824){x8:Nat}(a0 a1 a2:Addr) :
  ∀(n i:Nat) (h:af) (L:List bj),m-i<n->i<=m->Z h0 h (.ar x8 [aE (arr b m)] aR::.ar b ((List.replicate i (-1)++List.replicate (m-i) 0).map vi) au::L) ->
   Wp (jU n a0 a1 a2 (ak x8) (m:Int) (i:Int)) h λ_ h'=>Z h0 h' (.ar x8 [aE (arr b m)] aR::.ar b ((List.replicate m (-1:Int)).map vi) au::L):=by
 intro n
 induction n with
 |zero=>intro i h L h1;omega
 |succ n ih=>
  intro i h L h1 h2 z;rw[ya];unfold qk;by_cases hi:i<m
  .rw[if_pos (by simp;omega)];refine z.ld 0 (o:=0) (l:=.sl) (x:=arr b m) ?_;refine F8 (b:=b) (n:=m) (by omega) (by omega) ?_;rw[IS,acq];refine z.zA 1 (xs:=List.replicate i (-1)++List.replicate (m-i) 0) (enc:=vi) (v:=(-1:Int)) (by simp;omega) (λh3 z=>?_);have hf:(List.replicate i (-1:Int)++List.replicate (m-i) 0).set i (-1)=List.replicate (i+1) (-1)++List.replicate (m-(i+1)) 0:=by
    rw[aeV _ _ (by simp),adf,aft,show m-i=(m-(i+1))+1 by omega,aeO,aeg,agb (n:=i),abp];rfl
   rw[hf] at z;rw[uv h2 (by omega)];exact ih (i+1) h3 L (by omega) (by omega) z
  .rw[if_neg (by simp;omega),ag];have:i=m:=by omega
   subst this;simpa using z
theorem of_wp {s:Sl}{root:Int}(z:Z h0 h L)(hb:s.len<=cK){n:Nat} :
  Wp (xW n (s,root)) h λr h'=>∃x5 b4,r=some (ak x5)/\Z h0 h' (.ar x5 [aE s,vi root,aE (arr b4 s.len)] dj::.ar b4 (List.replicate s.len aU) aR::L):=by
 unfold xW;refine z.new λx0 h1 z _=>z.eS [4,6] (by decide) (by decide) λnb h2 z=>?_;refine z.fI 2 (ls:=[.sl,li]) (x:=(s,root)) ?_;refine z.ld 2 (o:=0) (l:=.sl) (x:=s) ?_;refine z.XZ 0 (by omega) (by omega) λh3 z=>?_;refine z.newAt 1 (cs:=[aE s,vi root,aE (arr (nb+4) s.len)]) λh4 z=>?_;rw[ag];refine⟨nb+6,nb+4,rfl,?_⟩;rw[IS] at z;rw[Ln] at z;have z:=Z.sy (pre:=[_,_,_]) z [1,0,2] (by simp only[OF,aa0];decide);exact z.sub (List.Sublist.cons₂ _ (List.Sublist.cons₂ _ (afk _ _)))
theorem Ql {t:Ow}{L:List bj}(h1:bj.ar t.tb [aE t.s,vi t.root,aE (arr t.sb N.length)] dj∈L)(h2:bj.ar t.sb (List.replicate N.length aU) aR∈L):ov t N L:=by
 refine⟨List.replicate N.length none,by simp,h1,by rw[afn];exact h2,λk b l hg=>?_⟩;have:=adt (aF hg);cases this
def ro0:bC:=⟨0,ofBytes [],false,mX,[],0,mX,[],0⟩
theorem WA (m:Nat):(List.replicate m ro0).flatMap bC.enc=(List.replicate m [vi 0,Value.string (ofBytes []),Value.bool false,aU,aU]).flatten:=by
 rw[List.flatMap_def,afn];rfl
structure gf (N:List an):Prop where
 len:N.length<=40
 map:∀x∈N,x.items.length<=80/\x.keys.length<=80
 txt:∀x∈N,x.text.size<=100
theorem gf.bd (f:gf N):Bd N 80:=⟨by have:=f.len;omega,by omega,λx hx=>⟨(f.map x hx).2,(f.map x hx).1⟩⟩
theorem gf.ht (f:gf N):∀x∈N,x.text.size<=65536:=λx hx=>by have:=f.txt x hx;omega
theorem gf.sm (f:gf N)(d:Vd N root):∀x∈N,x.kind=10->x.items.length<50:=λx hx hk=>by
 have h1:=d.ac7 hx;have h2:=d.map hx hk;have:=f.len;omega
end Go.Sh
namespace Go.Sh
open Go Go.Ago Go.Proofs
variable {α β:Type}{h h' h0:af}{L R J:List bj}{N:List an}{root:Int}{B:Nat}{Q:β->af->Prop}
def fuN:Nat:=Ww 80 60+100
def OG (nb:Nat)(O:List bC)(J:List bj):List bj:=.ar nb (O.flatMap bC.enc) aw::J
theorem OG.read {nb:Nat}{O:List bC}{J X:List bj}(z:Z h0 h X)(hs:∀o∈OG nb O J,o∈X)(hRO:∀r∈O,RO r J):jI h (arr nb O.length) (O.map bC.v):=by
 have l:LB h nb (O.flatMap bC.enc) aw:=(z.own _ (hs _ By)).1;refine⟨O,nb+1,rfl,l.BB (by rw[jW bC.oL]),λr hr=>?_⟩;obtain⟨h1,h2⟩:=hRO r hr;have one:∀{s:Sl} {kl:List Int} {g:Nat},(s.len=0/\kl=[])\/bj.sl s 1 au (kl.map vi) g∈J->IL h s kl:=λ{s kl g} hh=>by
  rcases hh with⟨e1,e2⟩|hm
  .subst e2;exact⟨0,qy.nil e1⟩
  .have o:qQ h s 1 au (kl.map vi) g:=(z.own _ (hs _ (AT _ hm))).1;exact⟨g,o.BB⟩
 exact⟨one h1,one h2⟩
def Made (h0 h:af)(s:Sl)(N':List an)(L:List bj):Prop:=∃nb O J,s=arr nb O.length/\O.map bC.v=N'/\(∀r∈O,RO r J)/\Z h0 h (OG nb O J++L)
theorem Made.z {s:Sl}{N':List an}{L:List bj}(m:Made h0 h s N' L):Z h0 h L:=by
 obtain⟨nb,O,J,_,_,_,z⟩:=m;exact z.sub (aeN _ _)
theorem Made.read {s:Sl}{N':List an}{L:List bj}(m:Made h0 h s N' L):jI h s N':=by
 obtain⟨nb,O,J,rfl,rfl,hr,z⟩:=m;exact OG.read z (λo ho=>abQ _ ho) hr
theorem Made.sub {s:Sl}{N':List an}{L L':List bj}(m:Made h0 h s N' L)(hs:L'.Sublist L):Made h0 h s N' L':=by
 obtain⟨nb,O,J,e1,e2,hr,z⟩:=m;exact⟨nb,O,J,e1,e2,hr,z.sub ((adB _).append hs)⟩
theorem Made.on {s:Sl}{N':List an}{L:List bj}(m:Made h0 h s N' L){γ:Type}{M:M γ}{Q:γ->af->Prop}(q:∀X,Z h0 h (L++X)->(∀h' L',Z h0 h' (L'++X)->Made h0 h' s N' L')->Wp M h Q):Wp M h Q:=by
 obtain⟨nb,O,J,e1,e2,hr,z⟩:=m;exact q (OG nb O J) (z.perm aeW) λh' L' z'=>⟨nb,O,J,e1,e2,hr,z'.perm aeW⟩
theorem SH {s:Sl}(z:Z h0 h L)(G:jI h0 s N)(f:gf N)(d:Vd N root){n:Nat}(hn:fuN<=n) :
  Wp (tf n (s,root)) h λr h'=>r.2=0/\Made h0 h' r.1 (rB N root) L:=by
 have hl:=f.len;have hfu:Ww 80 (N.length+1)<=n:=by
  have h1:Ww 80 (N.length+1)<=Ww 80 60:=by
   unfold Ww;have:(N.length+1)*(80+5)<=60*(80+5):=adz _ (by omega);omega
  unfold fuN at hn;omega
 have hn100:100<=n:=by unfold fuN at hn;omega
 unfold tf;refine z.new λx0 h1 z _=>z.new λx1 h2 z _=>?_;refine z.fI 1 (ls:=[.sl,li]) (x:=(s,root)) ?_;have hsl:s.len=N.length:=G.len;rw[ah];refine (of_wp (s:=s) (root:=root) z (by rw[hsl];unfold cK;omega)).mono λx3 h3 hx=>?_;obtain⟨tb,sb,rfl,z⟩:=hx;rw[hsl] at z;refine z.new λx4 h4 z _=>z.st 0 (cs':=[Value.pointer (some (ak tb))]) λh5 z=>?_;refine z.ld 4 (o:=0) (l:=.sl) (x:=s) ?_;rw[hsl];refine z.Lh (by omega) (by unfold cK;omega) λab h6 z _=>?_;rw[IS] at z⊢;rw[nR (enc:=vi) (x:=(0:Int))] at z;refine z.new λx8 h7 z _=>z.st 0 (cs':=[aE (arr ab N.length)]) λh8 z=>?_;refine z.ld 0 (o:=0) (l:=.sl) (x:=arr ab N.length) ?_;rw[ah];have z0:Z h0 h8 (.ar x8 [aE (arr ab N.length)] aR::.ar ab ((List.replicate 0 (-1)++List.replicate (N.length-0) 0).map vi) au::.ar x4 [Value.pointer (some (ak tb))] bI::.ar tb [aE s,vi root,aE (arr sb N.length)] dj::.ar sb (List.replicate N.length aU) aR::.ar x1 [aU,vi 0] aj::.ar x0 [aE s,vi root] aj::L):=by simpa using z
 refine (Wz (by omega) (ak x0) (ak x1) (ak x4) n 0 h8 _ (by omega) (by omega) z0).mono λ_ h9 z=>?_;refine z.ld 6 (o:=0) (l:=.sl) (x:=s) ?_;rw[hsl];refine z.Lh (by omega) (by unfold cK;omega) λnb h10 z _=>?_;rw[IS] at z⊢;rw[<-WA] at z;refine z.new λiK h11 z _=>z.st 0 (cs':=[aE (arr nb N.length),vi 0]) λh12 z=>?_;refine z.new λpo h13 z _=>z.st 0 (cs':=[vi 0]) λh14 z=>?_;refine z.new λqH h15 z _=>?_
 let c:NC:=⟨ab,x8,po,x0,x4,qH,nb,iK,N.length,⟨tb,sb,s,root⟩,80⟩
 refine z.st 0 (cs':=[c.fn]) λh16 z=>?_;have z:Z h0 h16 ([.ar qH [c.fn] oC,.ar po [vi 0] au,.ar iK [aE (arr nb N.length),vi 0] aj,.ar nb ((List.replicate N.length ro0).flatMap bC.enc) aw,.ar x8 [aE (arr ab N.length)] aR,.ar ab ((List.replicate N.length (-1)).map vi) au,
  .ar x4 [Value.pointer (some (ak tb))] bI,.ar tb [aE s,vi root,aE (arr sb N.length)] dj,.ar sb (List.replicate N.length aU) aR,.ar x1 [aU,vi 0] aj,.ar x0 [aE s,vi root] aj]++L):=z
 have z:=Z.sy (pre:=[_,_,_,_,_,_,_,_,_,_,_]) z [1,5,3,4,10,6,0,2,9,7,8] (by simp only[OF,aa0];decide);have z:Z h0 h16 (ML c (Xf N.length) (List.replicate N.length ro0)++([.ar x1 [aU,vi 0] aj]++([.ar tb [aE s,vi root,aE (arr sb N.length)] dj,.ar sb (List.replicate N.length aU) aR]++L))):=z;have z:Z h0 h16 (ML c (Xf N.length) (List.replicate N.length ro0)++((.ar x1 [aU,vi 0] aj::L)++([]++[.ar tb [aE s,vi root,aE (arr sb N.length)] dj,.ar sb (List.replicate N.length aU) aR]))):=z.perm (afY _ (List.Perm.cons _ (show ([bj.ar tb [aE s,vi root,aE (arr sb N.length)] dj,bj.ar sb (List.replicate N.length aU) aR]++L).Perm (L++[bj.ar tb [aE s,vi root,aE (arr sb N.length)] dj,bj.ar sb (List.replicate N.length aU) aR]) from aeW)));obtain⟨v,S,e,en,o,hv⟩:=JH d;refine z.ld 6 (o:=0) (l:=.raw) (x:=c.fn) ?_;refine z.ld 4 (o:=1) (x:=root) ?_;unfold rn;rw[if_pos (by rfl),ah,ah];refine jX (c:=((ak c.x8,ak c.po,ak c.x0,ak c.x4,ak c.qH,ak c.iK):Addr×Addr×Addr×Addr×Addr×Addr)) rfl ?_;have y8:=Wy (c:=c) (h0:=h0) d f.bd f.ht (f.sm d) G rfl (λx hx=>(f.map x hx).1) f.bd (N.length+1) (aaR _);refine (y8 n h16 root (Xf N.length) v S _ [] _ hfu e Wv (by show neg (List.replicate _ _)<_;rw[JG];omega) (Ql By (AT _ By)) ⟨List.replicate N.length ro0,by rw[afn];rfl,λr hr=>by
   have:=adt hr;subst this;exact⟨.inl ⟨rfl,rfl⟩,.inl ⟨rfl,rfl⟩⟩,z⟩).mono λr h17 hr=>?_
 obtain⟨rfl,J',L',_,_,O',hO',hRO',z⟩:=hr;refine z.fI 7 (x:=((arr nb N.length,0):bN [.sl,li])) ?_;refine z.st 8 (cs':=[aE (arr nb N.length),vi 0]) λh18 z=>?_;refine z.fI 8 (x:=((arr nb N.length,0):bN [.sl,li])) (ag.2 ⟨rfl,?_⟩);have z:Z h0 h18 (ML c S O'++((.ar x1 [aE (arr nb N.length),vi 0] aj::L)++(J'++L'))):=z;have lo:O'.length=N.length:=by have:=congrArg List.length hO';rw[adq,o.lo] at this;exact this
 refine⟨nb,O',J',by rw[lo],by rw[hO',en],hRO',?_⟩;have hsub:(.ar nb (O'.flatMap bC.enc) aw::(L++J')).Sublist (ML c S O'++((.ar x1 [aE (arr nb N.length),vi 0] aj::L)++(J'++L'))):=by
  refine aeQ (l₁:=[_]) ?_ ?_
  .exact List.Sublist.cons _ (List.Sublist.cons _ (List.Sublist.cons_cons _ (List.nil_sublist _)))
  .exact List.Sublist.cons _ ((adB L).append (agV _ _))
 exact (z.sub hsub).perm (List.Perm.cons _ aeW)
theorem Cc {s:Sl}(z:Z h0 h L)(G:jI h0 s N)(f:gf N){k:Nat}(hk:gK N.length 80<=k){r0:Int}(hc:mT k N root=some r0){n:Nat}(hn:fuN<=n)(hn2:k+66000<n) :
  Wp (ql n (s,root)) h λr h'=>if r0=0 then r.2=0/\r.1.2=0/\Made h0 h' r.1.1 (rB N root) L else r.2=3/\Z h0 h' L:=by
 unfold ql;refine z.new λx0 h1 z _=>z.new λx1 h2 z _=>?_;refine z.fI 1 (ls:=[.sl,li]) (x:=(s,root)) ?_;rw[ah];refine (vB z G f.bd f.ht (k:=k) (by omega) hc).mono λy h3 hy=>?_;obtain⟨rfl,z⟩:=hy;by_cases h0':y=0
 .subst h0';rw[if_neg (by simp)];simp only[if_pos];have d:Vd N root:=vC f.bd.2.2 f.bd.1 (by omega) hk hc;refine z.fI 1 (ls:=[.sl,li]) (x:=(s,root)) ?_;rw[ah];refine (SH z G f d hn).mono λr h4 hr=>?_;obtain⟨r2,m⟩:=hr;obtain⟨out,r2'⟩:=r;simp only at r2 m;subst r2;refine m.on λX z back=>?_;refine z.st 0 (cs':=[aE out,vi 0]) λh5 z=>?_;refine z.fI 0 (ls:=[.sl,li]) (x:=(out,0)) (ag.2 ⟨rfl,rfl,?_⟩);exact (back h5 (.ar x1 [aE out,vi 0] aj::.ar x0 [aE s,vi root] aj::L) z).sub (List.Sublist.cons _ (List.Sublist.cons _ (adB _)))
 .simp only[if_neg h0'];rw[if_pos (by simpa using h0')];refine z.st 0 (cs':=[aU,vi 0]) λh4 z=>?_;refine z.fI 0 (ls:=[.sl,li]) (x:=(mX,0)) (ag.2 ⟨rfl,z.drop.drop⟩)
end Go.Sh
