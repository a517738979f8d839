
import Derived.Test.YtcdofopdlaebaaaGreatDoorPac
set_option linter.all false
namespace Go.Sh
open Go Go.Ago Go.Proofs
section
variable {α β:Type}
def IR (n:Nat)(v:Int):Prop:=0<=v/\v<(n:Int)
def Edge (N:List an)(u v:Int):Prop:=∃x,gt N u=some x/\(v∈x.keys\/v∈x.items)
theorem gM {l:List α}{n:Nat}(hl:l.length=n){v:Int}(hv:IR n v):∃x,gt l v=some x:=by
 unfold gt;rw[if_pos hv.1];obtain⟨h1,h2⟩:=hv;exact⟨_,aaJ (by omega)⟩
theorem Ft {l:List α}{v:Int}{x:α}(hx:gt l v=some x):IR l.length v:=by
 obtain⟨h1,h2⟩:=aD hx;have:=(List.getElem?_eq_some_iff.1 h2).1;exact⟨h1,by omega⟩
theorem mU {l:List α}{a u:Int}{x:α}(ha:IR l.length a):gt (l.set a.toNat x) u=if u=a then some x else gt l u:=by
 unfold gt;obtain⟨h1,h2⟩:=ha;by_cases hu:u=a
 .subst hu;rw[if_pos h1,if_pos rfl,ag2 (by omega)]
 .rw[if_neg hu];split
  .rw[agF (by omega)]
  .rfl
def qG (N:List an)(n:Nat):Prop:=∀x∈N,(∀v∈x.keys,IR n v)/\∀v∈x.items,IR n v
theorem aF {l:List α}{v:Int}{x:α}(hx:gt l v=some x):x∈l:=IN (aD hx).2
theorem P2 {N:List an}{root:Int}(h:Gp N root=true):IR N.length root/\qG N N.length:=by
 unfold Gp at h;rw[IT] at h;have key:∀v,xe N.length v=true->IR N.length v:=λv hv=>by
  unfold xe at hv;simpa[IR] using hv
 refine⟨key _ h.1,λx hx=>?_⟩;have:=List.all_eq_true.1 h.2 x hx;rw[IT] at this;exact⟨λv hv=>key v (List.all_eq_true.1 this.1 v hv),λv hv=>key v (List.all_eq_true.1 this.2 v hv)⟩
def cf (ms:List Bool):Nat:=ms.count false
theorem VY:∀{ms:List Bool} {i:Nat},ms[i]?=some false->cf (ms.set i true)+1=cf ms
 |[],i,h=>by simp at h
 |m::ms,0,h=>by simp at h;subst h;simp[cf]
 |m::ms,i+1,h=>by
  have:=VY (ms:=ms) (i:=i) (by simpa using h);unfold cf at this⊢;rw[afD,afx,afx];omega
theorem aeM (ms:List Bool):cf ms<=ms.length:=ahb
structure VP (N:List an) (n:Nat) (W:Nat->Int->Prop) (a:Int->Prop) (ms r:List Bool):Prop where
 len:r.length=ms.length
 mono:∀u,gt ms u=some true->gt r u=some true
 at':∀u,a u->gt r u=some true
 S5:∀u,gt r u=some true->gt ms u=some true\/∀v,Edge N u v->gt r v=some true
 snd:∀t,(∀u,a u->W t u)->t+cf ms<=n->∀u,gt r u=some true->gt ms u=some true\/∃s,s<n/\W s u
 cf:cf r<=cf ms
section
variable {N:List an}{B n:Nat}{W:Nat->Int->Prop}
theorem D4 (hI:qG N N.length)(hB:∀x∈N,x.keys.length<=B/\x.items.length<=B)(hW:∀t u v,W t u->Edge N u v->W (t+1) v):∀k,
  (∀a ms,ms.length=N.length->IR N.length a->cf ms*(B+2)+1<=k->∃r,y8 k N a ms=some r/\VP N n W (·=a) ms r) /\
  (∀xs ms,ms.length=N.length->(∀v∈xs,IR N.length v)->xs.length+cf ms*(B+2)+2<=k->∃r,xf k N xs ms=some r/\VP N n W (·∈xs) ms r):=by
 intro k
 induction k with
 |zero=>exact⟨λa ms _ _ h=>by omega,λxs ms _ _ h=>by omega⟩
 |succ k ih=>
  refine⟨λa ms hl ha hk=>?_,λxs ms hl hx hk=>?_⟩
  .rw[y8];obtain⟨m,hm⟩:=gM hl ha;obtain⟨x,hx⟩:=gM (l:=N) rfl ha;rw[hm];cases m with
   |true=>exact⟨ms,rfl,rfl,λ_ h=>h,λu hu=>by rw[hu];exact hm,λu h=>.inl h,λ_ _ _ u h=>.inl h,aaR _⟩
   |false=>
    simp only[hx];have hcf:=VY (aD hm).2;have hxm:=aF hx;have hmul:cf (ms.set a.toNat true)*(B+2)+(B+2)=cf ms*(B+2):=(by rw[<-hcf,adv,afB]);have hset:∀u,gt (ms.set a.toNat true) u=if u=a then some true else gt ms u:=λu=>mU (by rw[hl];exact ha);obtain⟨m2,e2,p2⟩:=ih.2 x.keys (ms.set a.toNat true) (by simpa using hl) (hI x hxm).1 (by have:=(hB x hxm).1;omega);have hl2:m2.length=N.length:=(by rw[p2.len];simpa using hl);have hm2:=adz (B+2) p2.cf;obtain⟨r,e3,p3⟩:=ih.2 x.items m2 hl2 (hI x hxm).2 (by have:=(hB x hxm).2;omega);rw[e2];refine⟨r,e3,by rw[p3.len,p2.len];simp,λu hu=>p3.mono u (p2.mono u ?_),λu hu=>p3.mono u (p2.mono u ?_),λu hu=>?_,λt ht hc u hu=>?_,by have:=p2.cf;have:=p3.cf;omega⟩
    .rw[hset];split
     .rfl
     .exact hu
    .rw[hset,if_pos hu]
    .by_cases hua:u=a
     .refine .inr λv hv=>?_;subst hua;obtain⟨y,hy,hv⟩:=hv;rw[hx] at hy;cases hy;rcases hv with hv|hv
      .exact p3.mono v (p2.at' v hv)
      .exact p3.at' v hv
     .rcases p3.S5 u hu with h|h
      .rcases p2.S5 u h with h|h
       .rw[hset,if_neg hua] at h;exact .inl h
       .exact .inr λv hv=>p3.mono v (h v hv)
      .exact .inr h
    .have hwa:=ht a rfl;by_cases hua:u=a
     .subst hua;exact .inr ⟨t,by omega,hwa⟩
     .rcases p3.snd (t+1) (λv hv=>hW t a v hwa ⟨x,hx,.inr hv⟩) (by have:=p2.cf;omega) u hu with h|h
      .rcases p2.snd (t+1) (λv hv=>hW t a v hwa ⟨x,hx,.inl hv⟩) (by omega) u h with h|h
       .rw[hset,if_neg hua] at h;exact .inl h
       .exact .inr h
      .exact .inr h
  .cases xs with
   |nil=>exact⟨ms,rfl,rfl,λ_ h=>h,λu hu=>(by cases hu),λu h=>.inl h,λ_ _ _ u h=>.inl h,aaR _⟩
   |cons x xs=>
    rw[xf];rw[OF] at hk;obtain⟨m2,e2,p2⟩:=ih.1 x ms hl (hx x By) (by omega);have hm2:=adz (B+2) p2.cf;obtain⟨r,e3,p3⟩:=ih.2 xs m2 (by rw[p2.len,hl]) (λv hv=>hx v (AT _ hv)) (by omega);rw[e2];refine⟨r,e3,by rw[p3.len,p2.len],λu hu=>p3.mono u (p2.mono u hu),λu hu=>?_,λu hu=>?_,λt ht hc u hu=>?_,by have:=p2.cf;have:=p3.cf;omega⟩
    .rcases List.mem_cons.1 hu with h|h
     .exact p3.mono u (p2.at' u h)
     .exact p3.at' u h
    .rcases p3.S5 u hu with h|h
     .rcases p2.S5 u h with h|h
      .exact .inl h
      .exact .inr λv hv=>p3.mono v (h v hv)
     .exact .inr h
    .rcases p3.snd t (λv hv=>ht v (AT _ hv)) (by have:=p2.cf;omega) u hu with h|h
     .exact p2.snd t (λv hv=>by rw[hv];exact ht x By) hc u h
     .exact .inr h
def Clo (N:List an)(ms:List Bool):Prop:=∀u,gt ms u=some true->∀v,Edge N u v->gt ms v=some true
theorem acK {a:Int->Prop}{ms r:List Bool}(p:VP N n W a ms r)(c:Clo N ms):Clo N r:=λu hu v hv=>by
 rcases p.S5 u hu with h|h
 .exact p.mono v (c u h v hv)
 .exact h v hv
theorem LO (hI:qG N N.length)(hB:∀x∈N,x.keys.length<=B/\x.items.length<=B){k:Nat}(hk:N.length*(B+2)+1<=k):∀(xs:List Int) (ms:List Bool),ms.length=N.length->(∀v∈xs,IR N.length v)->Clo N ms ->
  ∃r,Gr k N xs ms=some r/\r.length=ms.length/\Clo N r/\(∀u,gt ms u=some true->gt r u=some true)/\∀u∈xs,gt r u=some true
 |[],ms,hl,_,c=>⟨ms,rfl,rfl,c,λ_ h=>h,λu hu=>(by cases hu)⟩
 |x::xs,ms,hl,hx,c=>by
  have hle:=aeM ms;rw[hl] at hle;have:=adz (B+2) hle;obtain⟨m2,e2,p2⟩:=(D4 (n:=0) (W:=λ_ _=>True) hI hB (λ_ _ _ _ _=>trivial) k).1 x ms hl (hx x By) (by omega);obtain⟨r,e3,h1,h2,h3,h4⟩:=LO hI hB hk xs m2 (by rw[p2.len,hl]) (λv hv=>hx v (AT _ hv)) (acK p2 c);refine⟨r,by rw[Gr,e2];exact e3,by rw[h1,p2.len],h2,λu hu=>h3 u (p2.mono u hu),λu hu=>?_⟩;rcases List.mem_cons.1 hu with h|h
  .exact h3 u (p2.at' u h)
  .exact h4 u h
theorem Jv (hI:qG N N.length)(hB:∀x∈N,x.keys.length<=B/\x.items.length<=B){k:Nat}(hk:N.length*(B+2)+1<=k):∀(X:List an) (ms:List Bool),(∀x∈X,x∈N)->ms.length=N.length->Clo N ms ->
  ∃r,SX k N X ms=some r/\r.length=ms.length/\Clo N r/\(∀u,gt ms u=some true->gt r u=some true)/\∀x∈X,∀u∈x.keys,gt r u=some true
 |[],ms,_,hl,c=>⟨ms,rfl,rfl,c,λ_ h=>h,λx hx=>(by cases hx)⟩
 |x::X,ms,hX,hl,c=>by
  obtain⟨m2,e2,a1,a2,a3,a4⟩:=LO hI hB hk x.keys ms hl (hI x (hX x By)).1 c;obtain⟨r,e3,h1,h2,h3,h4⟩:=Jv hI hB hk X m2 (λy hy=>hX y (AT _ hy)) (by rw[a1,hl]) a2;refine⟨r,by rw[SX,e2];exact e3,by rw[h1,a1],h2,λu hu=>h3 u (a3 u hu),λy hy u hu=>?_⟩;rcases List.mem_cons.1 hy with rfl|h
  .exact h3 u (a4 u hu)
  .exact h4 y h u hu
theorem Fu {m:Nat}{u:Int}{b:Bool}(h:gt (List.replicate m false) u=some b):b=false:=by
 have:=IN (aD h).2;exact (List.mem_replicate.1 this).2
theorem P3 {m:Nat}:Clo N (List.replicate m false):=λu hu=>by have:=Fu hu;cases this
def CC (n:Nat)(l:List Int):List Int:=(List.range n).map λj:Nat=>((l.count (j:Int):Nat):Int)
theorem acL {n:Nat}{l:List Int}:(CC n l).length=n:=by unfold CC;simp
theorem VZ {n:Nat}{l:List Int}{v:Int}(hv:IR n v):gt (CC n l) v=some ((l.count v:Nat):Int):=by
 obtain⟨h1,h2⟩:=hv;unfold gt CC;have hlt:v.toNat<n:=by omega
 rw[if_pos h1,aaW,agn hlt,adO,show ((v.toNat:Nat):Int)=v by omega]
theorem LP {n:Nat}{l:List Int}{v:Int}(hv:IR n v)(hl:l.length<4611686018427387904):bump (CC n l) v=some (CC n (l++[v])):=by
 unfold bump;have hc:=ahb (a:=v) (l:=l);rw[VZ hv,adO,sq (by omega) (by omega)]
 congr 1
 refine agu λj=>?_;have hlt:v.toNat<n:=by have:=hv.1;have:=hv.2;omega
 by_cases hj:j=v.toNat
 .subst hj;rw[ag2 (by rw[acL];exact hlt)];unfold CC;rw[aaW,agn hlt,adO,show ((v.toNat:Nat):Int)=v by have:=hv.1;omega];simp
 .rw[agF (Ne.symm hj)];unfold CC;rw[aaW,aaW];by_cases hjn:j<n
  .rw[agn hjn,adO,adO];have:¬(v==(j:Int))=true:=by simp;have:=hv.1;omega
   rw[afy,List.count_singleton,if_neg this,afs]
  .rw[ad8 (by simp;omega)];rfl
theorem B8 {n:Nat}:∀{xs l:List Int},(∀v∈xs,IR n v)->l.length+xs.length<4611686018427387904->sT xs (CC n l)=some (CC n (l++xs))
 |[],l,_,_=>by simp[sT]
 |x::xs,l,hx,hl=>by
  rw[OF] at hl;rw[sT,LP (hx x By) (by omega),aeD,B8 (λv hv=>hx v (AT _ hv)) (by simp;omega)];simp
def refs (x:an):List Int:=x.keys++x.items
theorem LQ {n:Nat}:∀{X:List an} {l:List Int},qG X n->l.length+(X.flatMap refs).length<4611686018427387904->Jh X (CC n l)=some (CC n (l++X.flatMap refs))
 |[],l,_,_=>by simp[Jh]
 |x::X,l,hx,hl=>by
  rw[adC,aaQ] at hl;have e:(refs x).length=x.keys.length+x.items.length:=by simp[refs]
  rw[Jh,B8 (hx x By).1 (by omega),aeD,B8 (hx x By).2 (by rw[aaQ];omega),aeD,LQ (λy hy=>hx y (AT _ hy)) (by rw[aaQ,aaQ];omega)];simp[refs]
theorem YU {X:List an}(hB:∀x∈X,x.keys.length<=B/\x.items.length<=B):(X.flatMap refs).length<=X.length*(2*B):=by
 induction X with
 |nil=>simp
 |cons x X ih=>
  have h1:=ih λy hy=>hB y (AT _ hy);have h2:=hB x By;rw[adC,aaQ,OF,adv];have e:(refs x).length=x.keys.length+x.items.length:=by simp[refs]
  omega
theorem P4 {root:Int}(hI:qG N N.length)(hr:IR N.length root)(hB:∀x∈N,x.keys.length<=B/\x.items.length<=B)(hN:N.length<=4096)(hB2:B<1073741824):lF N root=some (CC N.length (root::N.flatMap refs)):=by
 unfold lF;have e:List.replicate N.length (0:Int)=CC N.length []:=by
  unfold CC;refine agu λj=>?_;rw[aaW];by_cases hj:j<N.length
  .rw[agn hj,List.getElem?_replicate,if_pos hj];simp
  .rw[ad8 (by simp;omega),ad8 (by simp;omega)];rfl
 have h1:=YU hB;have h2:N.length*(2*B)<=4096*(2*1073741824):=afV hN (by omega);rw[e,LP hr (by simp),aeD,LQ hI (by rw[ad6,afH];omega)];rfl
end
end
section
variable {α β:Type}
inductive Wk (N:List an) (root:Int):Nat->Int->Prop
 |root:Wk N root 0 root
 |step {t:Nat} {u v:Int}:Wk N root t u->Edge N u v->Wk N root (t+1) v
theorem least {p:Nat->Prop}:∀t,p t->∃t,p t/\∀s,s<t->¬p s:=by
 intro t
 induction t using Nat.strongRecOn with
 |ind t ih=>
  intro h;by_cases hx:∃s,s<t/\p s
  .obtain⟨s,h1,h2⟩:=hx;exact ih s h1 h2
  .exact⟨t,h,λs hs hp=>hx ⟨s,hs,hp⟩⟩
theorem Jw {v:Int}:∀{X:List an} {i:Nat} {x:an},X[i]?=some x->v∈refs x->1<=(X.flatMap refs).count v
 |[],i,x,h,_=>by simp at h
 |y::X,0,x,h,hv=>by
  simp at h;subst h;rw[adC,afy];have:=List.count_pos_iff.2 hv;omega
 |y::X,i+1,x,h,hv=>by
  rw[adC,afy];have:=Jw (X:=X) (i:=i) (by simpa using h) hv;omega
theorem Jx {v:Int}:∀{X:List an} {i j:Nat} {x y:an},i<j->X[i]?=some x->X[j]?=some y->v∈refs x->v∈refs y->2<=(X.flatMap refs).count v
 |[],i,j,x,y,_,h,_,_,_=>by simp at h
 |z::X,0,j+1,x,y,_,h,h2,hx,hy=>by
  simp at h;subst h;rw[adC,afy];have h1:=List.count_pos_iff.2 hx;have h3:=Jw (X:=X) (i:=j) (by simpa using h2) hy;omega
 |z::X,i+1,j+1,x,y,hij,h,h2,hx,hy=>by
  rw[adC,afy];have:=Jx (X:=X) (i:=i) (j:=j) (by omega) (by simpa using h) (by simpa using h2) hx hy;omega
theorem G8 {N:List an}{u v:Int}(e:Edge N u v):∃x,0<=u/\N[u.toNat]?=some x/\v∈refs x:=by
 obtain⟨x,hx,hv⟩:=e;obtain⟨h1,h2⟩:=aD hx;exact⟨x,h1,h2,by unfold refs;exact List.mem_append.2 hv⟩
theorem YV {N:List an}{root v:Int}(hc:(root::N.flatMap refs).count v=1){u:Int}(e:Edge N u v):v≠root/\∀u',Edge N u' v->u'=u:=by
 obtain⟨x,h1,h2,h3⟩:=G8 e;have ho:=Jw h2 h3;rw[afx] at hc;refine⟨λhvr=>?_,λu' e'=>?_⟩
 .subst hvr;rw[if_pos (by simp)] at hc;omega
 .obtain⟨y,g1,g2,g3⟩:=G8 e';by_cases hlt:u'.toNat<u.toNat
  .have:=Jx hlt g2 h2 g3 h3;omega
  by_cases hgt:u.toNat<u'.toNat
  .have:=Jx hgt h2 g2 h3 g3;omega
  omega
theorem aaO {N:List an}{n:Nat}{root:Int}{K:Int->Prop}(hI:qG N n)(hn:N.length=n)(hW:∀v,IR n v->∃s,s<n/\Wk N root s v)(hK:∀v,K v->IR n v->(root::N.flatMap refs).count v=1) :
  ∃H:Int->Nat,(∀u,H u<=n)/\∀u v,K v->Edge N u v->H v<H u:=by
 have hex:∀v,∃d,IR n v->Wk N root d v/\∀s,s<d->¬Wk N root s v:=λv=>by
  by_cases hv:IR n v
  .obtain⟨s,_,h⟩:=hW v hv;obtain⟨t,h1,h2⟩:=least (p:=λt=>Wk N root t v) s h;exact⟨t,λ_=>⟨h1,h2⟩⟩
  .exact⟨0,λh=>absurd h hv⟩
 obtain⟨D,hD⟩:=agY hex;refine⟨λv=>n-D v,λu=>Nat.sub_le _ _,λu v hkv e=>?_⟩;have hu:IR n u:=by obtain⟨x,hx,_⟩:=e;have:=Ft hx;rwa [hn] at this
 have hv:IR n v:=by
  obtain⟨x,hx,hm⟩:=e;rcases hm with h|h
  .exact (hI x (aF hx)).1 v h
  .exact (hI x (aF hx)).2 v h
 obtain⟨s,hs,hws⟩:=hW v hv;have hDv:=hD v hv;have hDu:=hD u hu;have hlt:D v<n:=by
  refine ags (agU λh=>hDv.2 s h hws) hs
 obtain⟨hroot,huniq⟩:=YV (hK v hkv hv) e;have key:D u+1<=D v:=by
  have hw:=hDv.1;generalize D v=d at hw;cases hw with
  |root=>exact absurd rfl hroot
  |step hwt e'=>
   rename_i t u';have:=huniq u' e';subst this;have:=agU λh=>hDu.2 t h hwt;omega
 show n-D v<n-D u;omega
section
variable {N:List an}{B:Nat}{K:Int->Prop}{H:Int->Nat}
def aaP (x:an):Prop:=x.kind=10->x.keys.length=x.items.length
structure YW (K:Int->Prop) (H:Int->Nat) (h:Nat) (v:Int):Prop where
 k:K v
 lt:H v<h
theorem V0 (hI:qG N N.length)(hB:∀x∈N,x.keys.length<=B/\x.items.length<=B)(hM:∀x∈N,aaP x)(hKr:∀v,K v->IR N.length v)(hKc:∀u v,K u->Edge N u v->K v)(hH:∀u v,K v->Edge N u v->H v<H u):∀k,
  (∀i j h,K i->IR N.length j->H i<=h->(h+1)*(2*B+5)<=k->∃r,same k N i j=some r) /\
  (∀x y i h,x∈N->y∈N->(∀v∈x.keys,YW K H h v)->(∀v∈x.items,YW K H h v)->x.kind=10->y.kind=10->(x.keys.length-i)+1+(B+1)+h*(2*B+5)<=k->∃r,Fs k N x y i=some r) /\
  (∀x y i kx j b h,x∈N->y∈N->YW K H h kx->(∀v∈x.items,YW K H h v)->x.kind=10->y.kind=10->i<x.keys.length->(y.keys.length-j)+1+h*(2*B+5)<=k->∃r,zm k N x y i kx j b=some r) /\
  (∀x y i h,x∈N->y∈N->(∀v∈x.keys,YW K H h v)->(∀v∈x.items,YW K H h v)->x.kind=y.kind->x.items.length=y.items.length->(x.items.length-i)+1+h*(2*B+5)<=k->∃r,A5 k N x y i=some r):=by
 intro k
 induction k with
 |zero=>exact⟨λi j h _ _ _ hk=>by rw[adv] at hk;omega,λx y i h _ _ _ _ _ _ hk=>by omega,λx y i kx j b h _ _ _ _ _ _ _ hk=>by omega,λx y i h _ _ _ _ _ _ hk=>by omega⟩
 |succ k ih=>
  have chd:∀{h:Nat} {v w:Int},YW K H h v->IR N.length w->h*(2*B+5)<=k->∃r,same k N v w=some r:=λ{h v w} c hw hk=>by
   obtain⟨h1,h2⟩:=c;cases h with
   |zero=>omega
   |succ h=>exact ih.1 v w h h1 hw (by omega) hk
  refine⟨λi j h hi hj hh hk=>?_,λx y i h hx hy h1 h2 hkx hky hk=>?_,λx y i kx j b h hx hy h1 h2 hkx hky hik hk=>?_,λx y i h hx hy h1 h2 hkk hll hk=>?_⟩
  .rw[same];obtain⟨x,hx⟩:=gM (l:=N) rfl (hKr i hi);obtain⟨y,hy⟩:=gM (l:=N) rfl hj;rw[hx,hy];simp only;have hxm:=aF hx;have hym:=aF hy;have hbx:=hB x hxm;have hby:=hB y hym;rw[adv] at hk;have ck:∀v∈x.keys,YW K H h v:=λv hv=>by
    have e:Edge N i v:=⟨x,hx,.inl hv⟩;have hkv:=hKc i v hi e;exact⟨hkv,by have:=hH i v hkv e;omega⟩
   have ci:∀v∈x.items,YW K H h v:=λv hv=>by
    have e:Edge N i v:=⟨x,hx,.inr hv⟩;have hkv:=hKc i v hi e;exact⟨hkv,by have:=hH i v hkv e;omega⟩
   split
   .exact⟨_,rfl⟩
   rename_i hkk;split
   .exact⟨_,rfl⟩
   split
   .exact⟨_,rfl⟩
   split
   .exact⟨_,rfl⟩
   rename_i hll;have hkk:x.kind=y.kind:=ahc hkk;have hll:x.items.length=y.items.length:=ahc hll;split
   .rename_i h10;exact ih.2.1 x y 0 h hxm hym ck ci h10.1 (by rw[<-hkk];exact h10.1) (by omega)
   .exact ih.2.2.2 x y 0 h hxm hym ck ci hkk hll (by omega)
  .rw[Fs];cases hki:x.keys[i]? with
   |none=>exact⟨_,rfl⟩
   |some kx=>
    have hlt:=(List.getElem?_eq_some_iff.1 hki).1;have hby:=hB y hy;obtain⟨r,hr⟩:=ih.2.2.1 x y i kx 0 false h hx hy (h1 kx (IN hki)) h2 hkx hky hlt (by omega);simp only;rw[hr];cases r with
    |false=>exact⟨_,rfl⟩
    |true=>exact ih.2.1 x y (i+1) h hx hy h1 h2 hkx hky (by omega)
  .rw[zm];cases hkj:y.keys[j]? with
   |none=>exact⟨_,rfl⟩
   |some ky=>
    have hlt:=(List.getElem?_eq_some_iff.1 hkj).1;cases b with
    |true=>exact ih.2.2.1 x y i kx (j+1) true h hx hy h1 h2 hkx hky hik (by omega)
    |false=>
     obtain⟨r,hr⟩:=chd (w:=ky) h1 ((hI y hy).1 ky (IN hkj)) (by omega);simp only;rw[hr];cases r with
     |false=>exact ih.2.2.1 x y i kx (j+1) false h hx hy h1 h2 hkx hky hik (by omega)
     |true=>
      have ex:=hM x hx hkx;have ey:=hM y hy hky;obtain⟨p,hp⟩:=jy (l:=x.items) (i:=i) (by omega);obtain⟨q,hq⟩:=jy (l:=y.items) (i:=j) (by omega);obtain⟨r2,hr2⟩:=chd (w:=q) (h2 p (IN hp)) ((hI y hy).2 q (IN hq)) (by omega);simp only[hp,hq,hr2];exact ih.2.2.1 x y i kx (j+1) r2 h hx hy h1 h2 hkx hky hik (by omega)
  .rw[A5];cases hpi:x.items[i]? with
   |none=>exact⟨_,rfl⟩
   |some p=>
    have hlt:=(List.getElem?_eq_some_iff.1 hpi).1;obtain⟨q,hq⟩:=jy (l:=y.items) (i:=i) (by omega);simp only[hq];obtain⟨r2,hr2⟩:=chd (w:=q) (h2 p (IN hpi)) ((hI y hy).2 q (IN hq)) (by omega);split
    .rename_i h10;have ex:=hM x hx h10;have ey:=hM y hy (by rw[<-hkk];exact h10);obtain⟨kx,hkx⟩:=jy (l:=x.keys) (i:=i) (by omega);obtain⟨ky,hky⟩:=jy (l:=y.keys) (i:=i) (by omega);obtain⟨r1,hr1⟩:=chd (w:=ky) (h1 kx (IN hkx)) ((hI y hy).1 ky (IN hky)) (by omega);simp only[hkx,hky,hr1,hr2];cases r1 with
     |false=>exact⟨_,rfl⟩
     |true=>
      cases r2 with
      |false=>exact⟨_,rfl⟩
      |true=>exact ih.2.2.2 x y (i+1) h hx hy h1 h2 hkk hll (by omega)
    .simp only[hr2];cases r2 with
     |false=>exact⟨_,rfl⟩
     |true=>exact ih.2.2.2 x y (i+1) h hx hy h1 h2 hkk hll (by omega)
theorem P5 {k:Nat}{x:Int}:∀{ys:List Int},(∀y∈ys,∃r,same k N x y=some r)->∃r,twC k N x ys=some r
 |[],_=>⟨_,rfl⟩
 |y::ys,h=>by
  obtain⟨r,hr⟩:=h y By;rw[twC,hr];cases r with
  |true=>exact⟨_,rfl⟩
  |false=>exact P5 λz hz=>h z (AT _ hz)
theorem P6 {k:Nat}{P:Int->Prop}(hP:∀v,P v->IR N.length v)(hs:∀x y,P x->P y->∃r,same k N x y=some r):∀{xs met:List Int},(∀v∈xs,P v)->(∀v∈met,P v)->∃r,YQ k N met xs=some r
 |[],met,_,_=>⟨_,rfl⟩
 |x::xs,met,h1,h2=>by
  have hx:=h1 x By;obtain⟨n,hn⟩:=gM (l:=N) rfl (hP x hx);obtain⟨r,hr⟩:=P5 (N:=N) (k:=k) (x:=x) (ys:=met.filter (isKey N n.kind n.text)) λy hy=>hs x y hx (h2 y (List.mem_filter.1 hy).1);rw[YQ,hn];simp only[hr];cases r with
  |true=>exact⟨_,rfl⟩
  |false=>
   refine P6 hP hs (λv hv=>h1 v (AT _ hv)) λv hv=>?_;rcases List.mem_append.1 hv with h|h
   .exact h2 v h
   .rw[List.mem_singleton.1 h];exact hx
theorem P7 {k:Nat}{P:Int->Prop}(hP:∀v,P v->IR N.length v)(hs:∀x y,P x->P y->∃r,same k N x y=some r):∀{X:List an},(∀x∈X,∀v∈x.keys,P v)->∃r,Xd k N X=some r
 |[],_=>⟨_,rfl⟩
 |x::X,h=>by
  obtain⟨r,hr⟩:=P6 hP hs (met:=[]) (h x By) (λv hv=>(by cases hv));rw[Xd,hr];cases r with
  |true=>exact⟨_,rfl⟩
  |false=>exact P7 hP hs λy hy=>h y (AT _ hy)
end
end
section
variable {α β:Type}
def zc (l:List Int):Nat:=l.count 0
theorem V1:∀{l:List Int} {i:Nat} {v:Int},l[i]?=some 0->v≠0->zc (l.set i v)+1=zc l
 |[],i,v,h,_=>by simp at h
 |m::ms,0,v,h,hv=>by
  simp at h;subst h;unfold zc;rw[aeg,afx,afx,if_neg (by simpa using hv),if_pos (by simp)]
 |m::ms,i+1,v,h,hv=>by
  have:=V1 (l:=ms) (i:=i) (by simpa using h) hv;unfold zc at this⊢;rw[afD,afx,afx];omega
structure TI (N:List an) (A:Int->Prop) (st:TS):Prop where
 lix:st.ix.length=N.length
 llo:st.lo.length=N.length
 lnn:st.nn.length=N.length
 lon:st.on.length=N.length
 nx:st.next=((N.length-zc st.ix:Nat):Int)
 zle:zc st.ix<=N.length
 pos:∀u i,gt st.ix u=some i->0<=i
 low:∀u i,gt st.ix u=some i->i≠0->∃l,gt st.lo u=some l/\1<=l/\l<=i
 oV:∀u∈st.oV,∃i,gt st.ix u=some i/\i≠0
 nd:st.oV.Nodup
 lF:st.oV.length+st.jv.length<=N.length-zc st.ix
 nnv:∀u i,gt st.ix u=some i->i≠0->u∈st.oV\/∃c,gt st.nn u=some c/\0<=c/\c<(st.jv.length:Int)
 S5:∀u i,gt st.ix u=some i->i≠0->A u\/∀v,Edge N u v->∃j,gt st.ix v=some j/\j≠0
structure TP (st st':TS):Prop where
 ix:∀u i,gt st.ix u=some i->i≠0->gt st'.ix u=some i
 oV:∃e,st'.oV=st.oV++e
 jv:st.jv.length<=st'.jv.length
 z:zc st'.ix<=zc st.ix
theorem TP.refl (st:TS):TP st st:=⟨λ_ _ h _=>h,⟨[],by simp⟩,aaR _,aaR _⟩
theorem TP.trans {a b c:TS}(p:TP a b)(q:TP b c):TP a c:=by
 obtain⟨e,he⟩:=p.oV;obtain⟨f,hf⟩:=q.oV;exact⟨λu i h h0=>q.ix u i (p.ix u i h h0) h0,⟨e++f,by rw[hf,he,abp]⟩,abU p.jv q.jv,abU q.z p.z⟩
def S0 (st:TS)(u:Int):Prop:=∃i,gt st.ix u=some i/\i≠0
theorem TP.y8 {a b:TS}(p:TP a b){u:Int}(h:S0 a u):S0 b u:=let ⟨i,h1,h2⟩:=h;⟨i,p.ix u i h1 h2,h2⟩
section
variable {N:List an}{B:Nat}{A:Int->Prop}{st:TS}
theorem V2 (t:TI N A st){a:Int}(ha:IR N.length a)(h0:gt st.ix a=some 0)(hb:N.length<=4096):∃st',LK a st=some st'/\TI N (λu=>A u\/u=a) st'/\TP st st'/\st'.oV=st.oV++[a]/\zc st'.ix+1=zc st.ix/\gt st'.ix a=some ((N.length-zc st.ix+1:Nat):Int)/\st'.jv=st.jv:=by
 obtain⟨b,hon⟩:=gM t.lon ha;obtain⟨l,hlo⟩:=gM t.llo ha;have hz:1<=zc st.ix:=List.count_pos_iff.2 (IN (aD h0).2);have hzl:=t.zle;have hct:=t.lF;have hw:IntKind.i64.wrap (st.next+1)=((N.length-zc st.ix+1:Nat):Int):=by
  rw[t.nx,sq (by omega) (by omega)];omega
 have h2:=(aD h0).2;have hzs:=V1 (v:=((N.length-zc st.ix+1:Nat):Int)) h2 (by omega);have hax:IR st.ix.length a:=by rw[t.lix];exact ha
 have hal:IR st.lo.length a:=by rw[t.llo];exact ha
 refine⟨{ st with next:=IntKind.i64.wrap (st.next+1),ix:=st.ix.set a.toNat (IntKind.i64.wrap (st.next+1)),lo:=st.lo.set a.toNat (IntKind.i64.wrap (st.next+1)),oV:=st.oV++[a],on:=st.on.set a.toNat true },?_,?_,?_,rfl,?_,?_,rfl⟩
 .unfold LK;rw[if_pos ⟨by unfold cK;omega,by unfold cK;omega,by rw[h0];rfl,by rw[hlo];rfl,by rw[hon];rfl⟩]
 .have hna:a∉st.oV:=λhm=>by obtain⟨i,h3,h4⟩:=t.oV a hm;rw[h0] at h3;cases h3;exact h4 rfl
  refine⟨by simpa using t.lix,by simpa using t.llo,t.lnn,by simpa using t.lon,?_,?_,?_,?_,?_,?_,?_,?_,?_⟩
  .show IntKind.i64.wrap (st.next+1)=((N.length-zc (st.ix.set a.toNat _):Nat):Int)
   rw[hw];omega
  .show zc (st.ix.set a.toNat _)<=_;rw[hw];omega
  .intro u i hi;simp only at hi;rw[mU hax] at hi;split at hi
   .cases hi;rw[hw];omega
   .exact t.pos u i hi
  .intro u i hi hi0;simp only at hi⊢;rw[mU hax] at hi;rw[mU hal];split
   .rename_i hu;rw[if_pos hu] at hi;cases hi;exact⟨_,rfl,by rw[hw];omega,agJ _⟩
   .rename_i hu;rw[if_neg hu] at hi;exact t.low u i hi hi0
  .intro u hu;simp only at hu⊢;rw[mU hax];split
   .exact⟨_,rfl,by rw[hw];omega⟩
   .rename_i hne;rcases List.mem_append.1 hu with h|h
    .exact t.oV u h
    .exact absurd (List.mem_singleton.1 h) hne
  .exact List.nodup_append.2 ⟨t.nd,by simp,λx hx y hy he=>by rw[List.mem_singleton.1 hy] at he;rw[he] at hx;exact hna hx⟩
  .show (st.oV++[a]).length+st.jv.length<=N.length-zc (st.ix.set a.toNat _);rw[aaQ,afH,hw];omega
  .intro u i hi hi0;simp only at hi⊢;rw[mU hax] at hi;split at hi
   .rename_i hu;exact .inl (List.mem_append.2 (.inr (by rw[hu];simp)))
   .exact (t.nnv u i hi hi0).imp (λh=>List.mem_append.2 (.inl h)) id
  .intro u i hi hi0;simp only at hi⊢;rw[mU hax] at hi;split at hi
   .rename_i hu;exact .inl (.inr hu)
   .rcases t.S5 u i hi hi0 with h|h
    .exact .inl (.inl h)
    .refine .inr λv hv=>?_;obtain⟨j,hj,hj0⟩:=h v hv;rw[mU hax];split
     .exact⟨_,rfl,by rw[hw];omega⟩
     .exact⟨j,hj,hj0⟩
 .refine⟨λu i hi hi0=>?_,⟨[a],rfl⟩,aaR _,?_⟩
  .show gt (st.ix.set a.toNat _) u=some i;rw[mU hax,if_neg (λhu=>by rw[hu,h0] at hi;cases hi;exact hi0 rfl)];exact hi
  .show zc (st.ix.set a.toNat _)<=_;rw[hw];omega
 .show zc (st.ix.set a.toNat _)+1=_;rw[hw];exact hzs
 .show gt (st.ix.set a.toNat _) a=_;rw[mU hax,if_pos rfl,hw]
theorem P8 (t:TI N A st){a v:Int}(ha:S0 st a)(hv:1<=v):∃st',Sr a v st=some st'/\TI N A st'/\TP st st'/\st'.oV=st.oV/\st'.ix=st.ix:=by
 obtain⟨i,hi,hi0⟩:=ha;obtain⟨l,hl,hl1,hl2⟩:=t.low a i hi hi0;have hal:IR st.lo.length a:=Ft hl;refine⟨{ st with lo:=st.lo.set a.toNat (mn l v) },by unfold Sr;rw[hl],⟨t.lix,by simpa using t.llo,t.lnn,t.lon,t.nx,t.zle,t.pos,λu j hj hj0=>?_,t.oV,t.nd,t.lF,t.nnv,t.S5⟩,⟨λ_ _ h _=>h,⟨[],by simp⟩,aaR _,aaR _⟩,rfl,rfl⟩;simp only;rw[mU hal];split
 .rename_i hu;simp only at hj;rw[hu,hi] at hj;cases hj;refine⟨_,rfl,?_,?_⟩<;>(unfold mn;split<;>omega)
 .exact t.low u j hj hj0
def Jy (st:TS)(x:Int)(l:List Int):TS:={ st with oV:=l,on:=st.on.set x.toNat false,nn:=st.nn.set x.toNat (st.jv.length:Int) }
theorem P9 {k:Nat}{a c x:Int}{l:List Int}(hs:st.oV=l++[x])(h1:IR st.on.length x)(h2:IR st.nn.length x)(hb:st.oV.length<=cK) :
  tp (k+1) a st c=if x=a then some (Jy st x l,IntKind.i64.wrap (c+1)) else tp k a (Jy st x l) (IntKind.i64.wrap (c+1)):=by
 obtain⟨o,ho⟩:=gM (l:=st.on) rfl h1;obtain⟨q,hq⟩:=gM (l:=st.nn) rfl h2;have e1:st.oV.getLast?=some x:=by rw[hs];exact List.getLast?_concat
 have e2:st.oV.dropLast=l:=by rw[hs];exact List.dropLast_concat
 rw[tp,e1];simp only;rw[if_pos ⟨by rw[ho];rfl,by rw[hq];rfl,hb⟩,e2];rfl
theorem acM {a:Int}{pre:List Int}:∀(m k:Nat) (ext:List Int) (st:TS) (c:Int),ext.length=m->st.oV=pre++a::ext->a∉ext->m+1<=k->(∀u∈st.oV,IR st.on.length u/\IR st.nn.length u)->st.oV.length<=cK ->
  ∃st' d,tp k a st c=some (st',d)/\st'.oV=pre/\st'.ix=st.ix/\st'.lo=st.lo/\st'.next=st.next/\st'.jv=st.jv/\st'.on.length=st.on.length/\st'.nn.length=st.nn.length /\
   (∀u,u∈a::ext->gt st'.nn u=some (st.jv.length:Int))/\∀u,u∉a::ext->gt st'.nn u=gt st.nn u:=by
 intro m
 induction m with
 |zero=>
  intro k ext st c hm hs ha hk hr hb;have he:ext=[]:=abn hm;subst he;obtain⟨k,rfl⟩:∃j,k=j+1:=⟨k-1,by omega⟩;have hra:=hr a (by rw[hs];simp);refine⟨Jy st a pre,IntKind.i64.wrap (c+1),by rw[P9 hs hra.1 hra.2 hb,if_pos rfl],rfl,rfl,rfl,rfl,rfl,by simp[Jy],by simp[Jy],λu hu=>?_,λu hu=>?_⟩
  .show gt (st.nn.set a.toNat _) u=_;rw[mU hra.2,if_pos (by simpa using hu)]
  .show gt (st.nn.set a.toNat _) u=_;rw[mU hra.2,if_neg (by simpa using hu)]
 |succ m ih=>
  intro k ext st c hm hs ha hk hr hb;obtain⟨k,rfl⟩:∃j,k=j+1:=⟨k-1,by omega⟩;have hne:ext≠[]:=λh=>by rw[h] at hm;cases hm
  obtain⟨e2,x,rfl⟩:∃e2 x,ext=e2++[x]:=⟨ext.dropLast,ext.getLast hne,(agI hne).symm⟩;have hxa:x≠a:=λh=>ha (by rw[h];simp);have hs3:st.oV=(pre++a::e2)++[x]:=by rw[hs];simp
  have hrx:=hr x (by rw[hs3];simp);obtain⟨st',d,h1,h2,h3,h4,h5,h6,h7,h8,h9,h10⟩:=ih k e2 (Jy st x (pre++a::e2)) (IntKind.i64.wrap (c+1)) (by simpa using hm) rfl (λh=>ha (by simp[h])) (by omega) (λu hu=>by
   have:=hr u (by rw[hs3];exact List.mem_append.2 (.inl hu));simpa[Jy] using this) (by
   rw[hs3,aaQ] at hb;exact abU (agd _ _) hb)
  refine⟨st',d,by rw[P9 hs3 hrx.1 hrx.2 hb,if_neg hxa];exact h1,h2,h3,h4,h5,h6,by rw[h7];simp[Jy],by rw[h8];simp[Jy],λu hu=>?_,λu hu=>?_⟩
  .by_cases hm2:u∈a::e2
   .exact h9 u hm2
   .rw[h10 u hm2];show gt (st.nn.set x.toNat _) u=_;rw[mU hrx.2,if_pos];simp at hu hm2;rcases hu with h|h|h
    .exact absurd h hm2.1
    .exact absurd h hm2.2
    .exact h
  .rw[h10 u (λh=>hu (by simp at h⊢;rcases h with h|h;exact .inl h;exact .inr (.inl h)))];show gt (st.nn.set x.toNat _) u=_;rw[mU hrx.2,if_neg (λh=>hu (by simp[h]))]
theorem TI.aht {a:Int}(t:TI N (λu=>A u\/u=a) st)(h:∀v,Edge N a v->S0 st v):TI N A st:=
 ⟨t.lix,t.llo,t.lnn,t.lon,t.nx,t.zle,t.pos,t.low,t.oV,t.nd,t.lF,t.nnv,λu i hi hi0=>by
  rcases t.S5 u i hi hi0 with (h1|h1)|h1
  .exact .inl h1
  .exact .inr λv hv=>h v (by rw[<-h1];exact hv)
  .exact .inr h1⟩
theorem Ss {a:Int}{pre ext:List Int}{st':TS}{n:Int}(t:TI N A st)(hs:st.oV=pre++a::ext)(h2:st'.oV=pre)(h3:st'.ix=st.ix)(h4:st'.lo=st.lo)(h5:st'.next=st.next)(h6:st'.jv=st.jv)(h7:st'.on.length=st.on.length)(h8:st'.nn.length=st.nn.length)
  (h9:∀u,u∈a::ext->gt st'.nn u=some (st.jv.length:Int)) (h10:∀u,u∉a::ext->gt st'.nn u=gt st.nn u):TI N A { st' with jv:=st'.jv++[n] }:=by
 have hnd:=t.nd;rw[hs] at hnd;refine⟨by simp only;rw[h3];exact t.lix,by simp only;rw[h4];exact t.llo,by simp only;rw[h8];exact t.lnn,by simp only;rw[h7];exact t.lon,by simp only;rw[h5,h3];exact t.nx,by simp only;rw[h3];exact t.zle,?_,?_,?_,?_,?_,?_,?_⟩
 .intro u i hi;simp only at hi;rw[h3] at hi;exact t.pos u i hi
 .intro u i hi hi0;simp only at hi⊢;rw[h3] at hi;rw[h4];exact t.low u i hi hi0
 .intro u hu;simp only at hu⊢;rw[h2] at hu;rw[h3];exact t.oV u (by rw[hs];exact List.mem_append.2 (.inl hu))
 .simp only;rw[h2];exact (List.nodup_append.1 hnd).1
 .have:=t.lF;simp only;rw[h2,h3,h6,aaQ,afH];rw[hs,aaQ,OF] at this;omega
 .intro u i hi hi0;simp only at hi⊢;rw[h3] at hi;rw[h2,h6,aaQ,afH];by_cases hu:u∈a::ext
  .exact .inr ⟨_,h9 u hu,by omega,by omega⟩
  .rcases t.nnv u i hi hi0 with h|⟨c,h,g1,g2⟩
   .rw[hs] at h;exact .inl ((List.mem_append.1 h).resolve_right hu)
   .exact .inr ⟨c,by rw[h10 u hu];exact h,g1,by omega⟩
 .intro u i hi hi0;simp only at hi⊢;rw[h3] at hi⊢;exact t.S5 u i hi hi0
theorem acN (hI:qG N N.length)(hB:∀x∈N,x.keys.length<=B/\x.items.length<=B)(hb:N.length<=4096)(hnB:N.length<=B):∀k,
  (∀a A st,TI N A st->IR N.length a->gt st.ix a=some 0->zc st.ix*(2*B+8)<=k->∃st',tv k N a st=some st'/\TI N A st'/\TP st st'/\S0 st' a/\(zc st.ix=N.length->st'.oV=st.oV)) /\
  (∀xs a A st,TI N A st->S0 st a->(∀x∈xs,IR N.length x)->xs.length+2+zc st.ix*(2*B+8)<=k->∃st',tl k N a xs st=some st'/\TI N A st'/\TP st st'/\∀x∈xs,S0 st' x) /\
  (∀x a A st,TI N A st->S0 st a->IR N.length x->1+zc st.ix*(2*B+8)<=k->∃st',ts k N a x st=some st'/\TI N A st'/\TP st st'/\S0 st' x):=by
 intro k
 induction k with
 |zero=>
  refine⟨λa A st t ha h0 hk=>?_,λxs a A st _ _ _ hk=>by omega,λx a A st _ _ _ hk=>by omega⟩;have hz:1<=zc st.ix:=List.count_pos_iff.2 (IN (aD h0).2);have:=adz (2*B+8) hz;omega
 |succ k ih=>
  refine⟨λa A st t ha h0 hk=>?_,λxs a A st t hva hx hk=>?_,λx a A st t hva hx hk=>?_⟩
  .obtain⟨st1,e1,t1,p1,s1,z1,i1,c1⟩:=V2 t ha h0 hb;have hv1:S0 st1 a:=⟨_,i1,by omega⟩;rw[tv,e1];obtain⟨x,hx⟩:=gM (l:=N) rfl ha;simp only[hx];have hxm:=aF hx;have hbx:=hB x hxm;have hmul:zc st1.ix*(2*B+8)+(2*B+8)=zc st.ix*(2*B+8):=by rw[<-z1,adv,afB]
   obtain⟨G5,e2,t2,p2,v2⟩:=ih.2.1 x.keys a _ st1 t1 hv1 (hI x hxm).1 (by omega);have hm2:=adz (2*B+8) p2.z;obtain⟨st3,e3,t3,p3,v3⟩:=ih.2.1 x.items a _ G5 t2 (p2.y8 hv1) (hI x hxm).2 (by omega);rw[e2];simp only[e3];have hv3:S0 st3 a:=p3.y8 (p2.y8 hv1);have i3:gt st3.ix a=some ((N.length-zc st.ix+1:Nat):Int):=p3.ix _ _ (p2.ix _ _ i1 (by omega)) (by omega);obtain⟨l,hl,hl1,hl2⟩:=t3.low a _ i3 (by omega);rw[hl,i3];simp only;have t3':TI N A st3:=t3.aht λv hv=>by
    obtain⟨y,hy,hv⟩:=hv;rw[hx] at hy;cases hy;rcases hv with h|h
    .exact p3.y8 (v2 v h)
    .exact v3 v h
   have p13:=p1.trans (p2.trans p3);by_cases hne:l≠((N.length-zc st.ix+1:Nat):Int)
   .rw[if_pos hne];exact⟨st3,rfl,t3',p13,hv3,λhz=>by rw[hz] at hl2 hne;omega⟩
   rw[if_neg hne];obtain⟨f2,hf2⟩:=p2.oV;obtain⟨f3,hf3⟩:=p3.oV;have hs3:st3.oV=st.oV++a::(f2++f3):=by rw[hf3,hf2,s1];simp
   have hnd:=t3.nd;rw[hs3] at hnd;have hna:a∉f2++f3:=(List.nodup_cons.1 (List.nodup_append.1 hnd).2.1).1;have hct:=t3.lF;have hlen:st3.oV.length<=N.length:=by omega
   have hz:=List.count_pos_iff.2 (IN (aD h0).2);have hz:1<=zc st.ix:=hz;have hz2:=adz (2*B+8) hz;have hle:(f2++f3).length+1<=N.length:=by rw[hs3,aaQ,OF] at hlen;omega
   obtain⟨st4,d,e4,g2,g3,g4,g5,g6,g7,g8,g9,g10⟩:=acM (f2++f3).length k (f2++f3) st3 0 rfl hs3 hna (by omega) (λu hu=>by
    obtain⟨i,hi,_⟩:=t3.oV u hu;have:=Ft hi;rw[t3.lix] at this;rw[t3.lon,t3.lnn];exact⟨this,this⟩) (by unfold cK;omega)
   rw[e4];simp only;rw[if_pos (by rw[g6];unfold cK;omega)];refine⟨_,rfl,Ss t3' hs3 g2 g3 g4 g5 g6 g7 g8 g9 g10,⟨λu i hi hi0=>by simp only;rw[g3];exact p13.ix u i hi hi0,⟨[],by simp only;rw[g2];simp⟩,by simp only;rw[g6];have:=p13.jv;simp;omega,by simp only;rw[g3];exact p13.z⟩,?_,λ_=>g2⟩;obtain⟨i,hi,hi0⟩:=hv3;exact⟨i,by simp only;rw[g3];exact hi,hi0⟩
  .cases xs with
   |nil=>exact⟨st,rfl,t,TP.refl st,λx hx=>(by cases hx)⟩
   |cons x xs=>
    rw[OF] at hk;rw[tl];obtain⟨st1,e1,t1,p1,v1⟩:=ih.2.2 x a A st t hva (hx x By) (by omega);have hm1:=adz (2*B+8) p1.z;obtain⟨G5,e2,t2,p2,v2⟩:=ih.2.1 xs a A st1 t1 (p1.y8 hva) (λy hy=>hx y (AT _ hy)) (by omega);rw[e1];refine⟨G5,e2,t2,p1.trans p2,λy hy=>?_⟩;rcases List.mem_cons.1 hy with rfl|h
    .exact p2.y8 v1
    .exact v2 y h
  .rw[ts];obtain⟨i,hi⟩:=gM t.lix hx;rw[hi];simp only;by_cases h0:i=0
   .subst h0;rw[if_pos rfl];obtain⟨st1,e1,t1,p1,v1,_⟩:=ih.1 x A st t hx hi (by omega);rw[e1];obtain⟨j,hj,hj0⟩:=v1;obtain⟨l,hl,hl1,hl2⟩:=t1.low x j hj hj0;simp only[hl];obtain⟨G5,e2,t2,p2,s2,x2⟩:=P8 t1 (p1.y8 hva) hl1;exact⟨G5,e2,t2,p1.trans p2,p2.y8 ⟨j,hj,hj0⟩⟩
   .rw[if_neg h0];obtain⟨b,hb2⟩:=gM t.lon hx;rw[hb2];cases b with
    |false=>exact⟨st,rfl,t,TP.refl st,⟨i,hi,h0⟩⟩
    |true=>
     have hp:=t.pos x i hi;obtain⟨G5,e2,t2,p2,s2,x2⟩:=P8 t hva (v:=i) (by omega);exact⟨G5,e2,t2,p2,p2.y8 ⟨i,hi,h0⟩⟩
theorem Qa {m:Nat}{x y:α}{u:Int}(h:gt (List.replicate m x) u=some y):y=x:=(List.mem_replicate.1 (IN (aD h).2)).2
theorem YX:TI N A (pn N.length):=by
 have hz:zc (pn N.length).ix=N.length:=by unfold pn zc;simp
 have h0:∀u i,gt (pn N.length).ix u=some i->i=0:=λu i h=>Qa h;refine⟨by simp[pn],by simp[pn],by simp[pn],by simp[pn],?_,by omega,?_,?_,?_,?_,?_,?_,?_⟩
 .show (0:Int)=_;rw[hz];omega
 .intro u i h;rw[h0 u i h];omega
 .intro u i h hi;exact absurd (h0 u i h) hi
 .intro u hu;cases hu
 .exact List.nodup_nil
 .show 0+0<=_;omega
 .intro u i h hi;exact absurd (h0 u i h) hi
 .intro u i h hi;exact absurd (h0 u i h) hi
theorem V3 {root:Int}(hI:qG N N.length)(hr:IR N.length root)(hB:∀x∈N,x.keys.length<=B/\x.items.length<=B)(hb:N.length<=4096)(hnB:N.length<=B)(hall:∀v,IR N.length v->∃s,s<N.length/\Wk N root s v){k:Nat}(hk:N.length*(2*B+8)<=k) :
  ∃nn jv,comp k N root=some (nn,jv)/\nn.length=N.length/\jv.length<=N.length/\∀v,IR N.length v->∃c,gt nn v=some c/\0<=c/\c<(jv.length:Int):=by
 have hz:zc (pn N.length).ix=N.length:=by unfold pn zc;simp
 have h0:gt (pn N.length).ix root=some 0:=by
  obtain⟨x,hx⟩:=gM (l:=(pn N.length).ix) (n:=N.length) (by simp[pn]) hr;rw[hx,Qa hx]
 obtain⟨st,e,t,p,vr,hs⟩:=(acN hI hB hb hnB k).1 root (λ_=>False) _ YX hr h0 (by rw[hz];exact hk);have hst:st.oV=[]:=hs hz;have hvis:∀s v,Wk N root s v->S0 st v:=λs v w=>by
  induction w with
  |root=>exact vr
  |step _ e ih=>
   obtain⟨i,hi,hi0⟩:=ih;rcases t.S5 _ i hi hi0 with h|h
   .exact h.elim
   .exact h _ e
 refine⟨st.nn,st.jv,by unfold comp;rw[e];rfl,t.lnn,?_,λu hu=>?_⟩
 .have:=t.lF;omega
 .obtain⟨s,_,w⟩:=hall u hu;obtain⟨i,hi,hi0⟩:=hvis s u w;rcases t.nnv u i hi hi0 with h|h
  .rw[hst] at h;cases h
  .exact h
end
end
section
variable {α β:Type}
section
variable {N:List an}{B n p:Nat}{nn:List Int}
theorem kB {l:List α}{v:Int}(h0:0<=v)(h:v<(l.length:Int)):∃x,gt l v=some x:=gM (l:=l) rfl ⟨h0,h⟩
theorem Qb:∀{cs:List Int} {i:Nat} {X:List (List Int)},X.length=p->(∀c∈cs,IR p c)->i+cs.length<=n->(∀xs∈X,∀v∈xs,IR n v)->∃Y,mem i cs X=some Y/\Y.length=p/\∀xs∈Y,∀v∈xs,IR n v
 |[],i,X,hX,_,_,hm=>⟨X,rfl,hX,hm⟩
 |c::cs,i,X,hX,hc,hi,hm=>by
  rw[OF] at hi;obtain⟨xs,hxs⟩:=gM (l:=X) hX (hc c By);rw[mem,hxs];refine Qb (by simpa using hX) (λd hd=>hc d (AT _ hd)) (by omega) λys hys v hv=>?_;rcases aef hys with h|h
  .exact hm ys h v hv
  .rw[h] at hv;rcases List.mem_append.1 hv with h|h
   .exact hm xs (aF hxs) v h
   .rw[List.mem_singleton.1 h];exact⟨by omega,by omega⟩
def acO (nn:List Int)(n p:Nat):Prop:=∀v,IR n v->∃c,gt nn v=some c/\0<=c/\c<(p:Int)
theorem Jz (hN:acO nn n p){c:Int}(hc:IR p c):∀{xs b:List Int} {a:Bool},(∀v∈xs,IR n v)->b.length=p->∃b' a',dR nn c xs b a=some (b',a')/\b'.length=p
 |[],b,a,_,hb=>⟨b,a,rfl,hb⟩
 |x::xs,b,a,hx,hb=>by
  obtain⟨d,hd,h1,h2⟩:=hN x (hx x By);rw[dR,hd];simp only;split
  .exact Jz hN hc (λv hv=>hx v (AT _ hv)) hb
  .obtain⟨q,hq⟩:=gM (l:=b) hb hc;obtain⟨r,hr⟩:=gM (l:=b) hb (v:=d) ⟨h1,h2⟩;rw[hq,hr];exact Jz hN hc (λv hv=>hx v (AT _ hv)) (by simpa using hb)
theorem V4 (hI:qG N N.length)(hN:acO nn N.length p){c:Int}(hc:IR p c):∀{xs b:List Int} {a:Bool},(∀v∈xs,IR N.length v)->b.length=p->∃b' a',dM N nn c xs b a=some (b',a')/\b'.length=p
 |[],b,a,_,hb=>⟨b,a,rfl,hb⟩
 |x::xs,b,a,hx,hb=>by
  obtain⟨y,hy⟩:=gM (l:=N) rfl (hx x By);obtain⟨b1,a1,e1,l1⟩:=Jz (a:=a) hN hc (hI y (aF hy)).1 hb;obtain⟨b2,a2,e2,l2⟩:=Jz (a:=a1) hN hc (hI y (aF hy)).2 l1;rw[dM,hy];simp only[e1,e2];exact V4 hI hN hc (λv hv=>hx v (AT _ hv)) l2
theorem V5 (hI:qG N N.length)(hN:acO nn N.length p):∀{r:List (List Int×Int)} {c:Nat} {b:List Int} {a:Bool},c+r.length<=p->(∀y∈r,∀v∈y.1,IR N.length v)->b.length=p->∃b' a',dC N nn c r b a=some (b',a')/\b'.length=p
 |[],c,b,a,_,_,hb=>⟨b,a,rfl,hb⟩
 |(xs,sz)::r,c,b,a,hc,hx,hb=>by
  rw[OF] at hc;have hcp:IR p (c:Int):=⟨by omega,by omega⟩;obtain⟨b1,a1,e1,l1⟩:=V4 (a:=a) hI hN hcp (hx _ By) hb;obtain⟨q,hq⟩:=gM (l:=b1) l1 hcp;rw[dC];simp only at e1;simp only[e1,hq];exact V5 hI hN (by omega) (λy hy=>hx y (AT _ hy)) (by simpa using l1)
theorem Qc {root:Int}(hI:qG N N.length)(hr:IR N.length root)(hB:∀x∈N,x.keys.length<=B/\x.items.length<=B)(hb:N.length<=4096)(hnB:N.length<=B)(hall:∀v,IR N.length v->∃s,s<N.length/\Wk N root s v){k:Nat}(hk:N.length*(2*B+8)<=k) :
  ∃r,dep k N root=some r:=by
 obtain⟨nn,jv,e,h1,h2,h3⟩:=V3 hI hr hB hb hnB hall hk;unfold dep;rw[e];simp only;rw[if_pos h2];obtain⟨X,eX,l1,hX⟩:=Qb (n:=N.length) (p:=jv.length) (cs:=nn) (i:=0) (X:=List.replicate jv.length []) (by simp) (λc hc=>by
  obtain⟨i,hi⟩:=List.mem_iff_getElem?.1 hc;have hlt:=(List.getElem?_eq_some_iff.1 hi).1;obtain⟨d,hd,g1,g2⟩:=h3 (i:Int) ⟨by omega,by omega⟩;unfold gt at hd;rw[if_pos (by omega),IS,hi] at hd;cases hd;exact⟨g1,g2⟩) (by omega) (λxs hxs v hv=>by rw[(List.mem_replicate.1 hxs).2] at hv;cases hv)
 rw[eX];obtain⟨b,a,eb,lb⟩:=V5 (r:=X.zip jv) (c:=0) (b:=List.replicate jv.length 0) (a:=true) hI h3 (by rw[List.length_zip];omega) (λy hy v hv=>hX y.1 (List.of_mem_zip hy).1 v hv) (by simp);simp only[eb];obtain⟨c,hc,g1,g2⟩:=h3 root hr;obtain⟨v,hv⟩:=gM (l:=b) lb (v:=c) ⟨g1,g2⟩;rw[hc];simp only[hv];exact⟨_,rfl⟩
theorem Oo:∀{ms:List Bool} {X:List an},ms.length=X.length->∃r,gA ms X=some r/\(r=true->(∀m∈ms,m=true)/\∀x∈X,nI x=some true)
 |[],[],_=>⟨true,rfl,λ_=>⟨λm h=>(by cases h),λm h=>(by cases h)⟩⟩
 |m::ms,x::X,hl=>by
  rw[gA];cases m with
  |false=>exact⟨false,by simp,λh=>by cases h⟩
  |true=>
   rw[if_neg (by simp)];obtain⟨f,hf⟩:=Ok x;rw[hf];cases f with
   |false=>exact⟨false,rfl,λh=>by cases h⟩
   |true=>
    obtain⟨r,hr,h⟩:=Oo (ms:=ms) (X:=X) (by simpa using hl);refine⟨r,hr,λh1=>⟨λm hm=>?_,λy hy=>?_⟩⟩
    .rcases List.mem_cons.1 hm with h2|h2
     .exact h2
     .exact (h h1).1 m h2
    .rcases List.mem_cons.1 hy with h2|h2
     .rw[h2];exact hf
     .exact (h h1).2 y h2
theorem V6:∀{bs:List Bool} {cs:List Int} {i:Nat} {c:Int},gB bs cs=true->bs[i]?=some true->cs[i]?=some c->c=1
 |[],cs,i,c,_,h,_=>by simp at h
 |b::bs,[],i,c,_,_,h=>by simp at h
 |b::bs,d::cs,0,c,h,hb,hc=>by
  simp at hb hc;subst hb hc;rw[gB] at h;by_cases hd:d=1
  .exact hd
  .rw[if_pos ⟨rfl,hd⟩] at h;cases h
 |b::bs,d::cs,i+1,c,h,hb,hc=>by
  rw[gB] at h;split at h
  .cases h
  .exact V6 h (by simpa using hb) (by simpa using hc)
theorem LR {x:an}(h:nI x=some true):aaP x:=λhk=>by
 unfold nI at h;rw[if_neg (by rw[hk];decide),if_pos hk] at h;simp at h;exact h.2
def gK (n B:Nat):Nat:=(n+1)*(2*B+8)
theorem Oq {root:Int}(hB:∀x∈N,x.keys.length<=B/\x.items.length<=B)(hnB:N.length<=B)(hB2:B<1073741824){k:Nat}(hk:gK N.length B<=k):∃r,mT k N root=some r:=by
 unfold gK at hk;rw[adv,afB] at hk;have hk1:N.length*(B+2)<=N.length*(2*B+8):=ago _ (by omega);have hk2:N.length*(2*B+5)<=N.length*(2*B+8):=ago _ (by omega);unfold mT;split
 .exact⟨_,rfl⟩
 rename_i hb;split
 .exact⟨_,rfl⟩
 split
 .exact⟨_,rfl⟩
 rename_i hin;have hin:Gp N root=true:=by simpa using hin
 obtain⟨hr,hI⟩:=P2 hin;have hcf:cf (List.replicate N.length false)=N.length:=by unfold cf;simp
 obtain⟨ms,em,pm⟩:=(D4 (n:=N.length) (W:=Wk N root) hI hB (λt u v w e=>.step w e) k).1 root (List.replicate N.length false) (by simp) hr (by rw[hcf];omega);rw[em];simp only;have hml:ms.length=N.length:=by rw[pm.len];simp
 obtain⟨r,er,hg⟩:=Oo (ms:=ms) (X:=N) hml;rw[er];cases r with
 |false=>exact⟨_,rfl⟩
 |true=>
  obtain⟨hmt,hform⟩:=hg rfl;have hall:∀v,IR N.length v->∃s,s<N.length/\Wk N root s v:=λv hv=>by
   obtain⟨b,hb2⟩:=gM hml hv;have:b=true:=hmt b (aF hb2);subst this;rcases pm.snd 0 (λu hu=>by rw[hu];exact .root) (by rw[hcf];omega) v hb2 with h|h
   .have:=Fu h;cases this
   .exact h
  simp only[P4 hI hr hB (by omega) hB2];obtain⟨ks,ek,lk,ck,_,hks⟩:=Jv hI hB (k:=k) (by omega) N (List.replicate N.length false) (λ_ h=>h) (by simp) P3;rw[ek];simp only;split
  .exact⟨_,rfl⟩
  rename_i hgb;have hgb:gB ks (CC N.length (root::N.flatMap refs))=true:=by simpa using hgb
  have hkl:ks.length=N.length:=by rw[lk];simp
  have hK1:∀v,gt ks v=some true->IR N.length v->(root::N.flatMap refs).count v=1:=λv hv hiv=>by
   have h1:=VZ (l:=root::N.flatMap refs) hiv;have:=V6 hgb (aD hv).2 (aD h1).2;omega
  obtain⟨H,hH1,hH2⟩:=aaO (K:=λv=>gt ks v=some true) hI rfl hall hK1;have hKr:∀v,gt ks v=some true->IR N.length v:=λv hv=>by have:=Ft hv;rwa [hkl] at this
  have hst:=V0 (K:=λv=>gt ks v=some true) hI hB (λx hx=>LR (hform x hx)) hKr (λu v hu e=>ck u hu v e) hH2 k;obtain⟨tw,et⟩:=P7 (k:=k) (N:=N) (P:=λv=>gt ks v=some true) hKr (λx y hx hy=>hst.1 x y N.length hx (hKr y hy) (hH1 x) (by rw[adv];omega)) (X:=N) (λx hx v hv=>hks x hx v hv);rw[et];cases tw with
  |true=>exact⟨_,rfl⟩
  |false=>
   obtain⟨⟨d,a⟩,ed⟩:=Qc hI hr hB (by omega) hnB hall (k:=k) (by omega);simp only[ed];split
   .exact⟨_,rfl⟩
   .exact⟨_,rfl⟩
end
end
end Go.Sh
