
import Derived.Test.YtpojbnjkkkiccaaGreatDoorPad
set_option linter.all false
namespace Go.Sh
open Go Go.Ago Go.Proofs
section
variable {α β:Type}
def IR (n:Nat)(v:Int):Prop:=0<=v/\v<(n:Int)
def Edge (N:List aq)(u v:Int):Prop:=∃x,gt N u=some x/\(v∈x.keys\/v∈x.items)
def fj {l:List α}{n}(hl:l.length=n){v}(hv:IR n v):∃x,gt l v=some x:=by
 unfold gt;rw[By hv.1];obtain⟨h1,h2⟩:=hv
 simp_all
theorem nF {l:List α}{v}{x}(hx:gt l v=some x):IR l.length v:=by
 obtain⟨h1,h2⟩:=aB hx;have:=(List.getElem?_eq_some_iff.1 h2).1;exact⟨h1,by omega⟩
theorem gH {l:List α}{a u}{x}(ha:IR l.length a):gt (l.set a.toNat x) u=if u=a then some x else gt l u:=by
 unfold gt;obtain⟨h1,h2⟩:=ha
 grind
def pC (N:List aq)(n:Nat):Prop:=∀x∈N,(∀v∈x.keys,IR n v)/\∀v∈x.items,IR n v
theorem ax {l:List α}{v}{x}(hx:gt l v=some x):x∈l:=IN (aB hx).2
theorem afq {N}{root}(h:LN N root=true):IR N.length root/\pC N N.length:=by
 unfold LN at h;rw[abw] at h;have key:∀v,zA N.length v=true->IR N.length v:=λv hv=>by
  grind [zA,IR]
 refine⟨key _ h.1,λx hx=>?_⟩
 grind
def cf (ms:List Bool):Nat:=ms.count false
theorem ak3:∀{ms} {i},ms[i]?=some false->cf (ms.set i true)+1=cf ms
 |[],i,h=>by simp at h
 |m::ms,0,h=>by grind [cf]
 |m::ms,i+1,h=>by
  grind [cf]
def ahC ms:cf ms<=ms.length:=apf
structure VP (N:List aq) (n:Nat) (W:Nat->Int->Prop) (a:Int->Prop) (ms r:List Bool):Prop where
 len:r.length=ms.length
 mono:∀u,gt ms u=some true->gt r u=some true
 at':∀u,a u->gt r u=some true
 clo:∀u,gt r u=some true->gt ms u=some true\/∀v,Edge N u v->gt r v=some true
 snd:∀t,(∀u,a u->W t u)->t+cf ms<=n->∀u,gt r u=some true->gt ms u=some true\/∃s,s<n/\W s u
 cf:cf r<=cf ms
section
variable {N:List aq}{B n:Nat}{W:Nat->Int->Prop}
theorem N6 (hI:pC N N.length)(hB:∀x∈N,x.keys.length<=B/\x.items.length<=B)(hW:∀t u v,W t u->Edge N u v->W (t+1) v):∀k,
  (∀a ms,ms.length=N.length->IR N.length a->cf ms*(B+2)+1<=k->∃r,D4 k N a ms=some r/\VP N n W (·=a) ms r) /\
  (∀xs ms,ms.length=N.length->(∀v∈xs,IR N.length v)->xs.length+cf ms*(B+2)+2<=k->∃r,Cv k N xs ms=some r/\VP N n W (·∈xs) ms r):=by
 intro k
 induction k with
 |zero=>grind
 |succ k ih=>
  refine⟨λa ms hl ha hk=>?_,λxs ms hl hx hk=>?_⟩
  .rw[D4];obtain⟨m,hm⟩:=fj hl ha;obtain⟨x,hx⟩:=fj rfl ha;rw[hm];cases m with
   |true=>exact⟨ms,rfl,rfl,λ_ h=>h,λu hu=>by grind,λu h=>.inl h,λ_ _ _ u h=>.inl h,abi _⟩
   |false=>
    simp[hx];have hcf:=ak3 (aB hm).2;have hxm:=ax hx;have hmul:cf (ms.set a.toNat true)*(B+2)+(B+2)=cf ms*(B+2):=(by grind);have hset:∀u,gt (ms.set a.toNat true) u=if u=a then some true else gt ms u:=λu=>gH (by grind);obtain⟨m2,e2,p2⟩:=ih.2 x.keys (ms.set a.toNat true) (by grind) (hI x hxm).1 (by grind);have hl2:m2.length=N.length:=(by rw[p2.len];grind);have hm2:=ag8 (B+2) p2.cf;obtain⟨r,e3,p3⟩:=ih.2 x.items m2 hl2 (hI x hxm).2 (by grind);rw[e2];refine⟨r,e3,by rw[p3.len,p2.len];simp,λu hu=>p3.mono u (p2.mono u ?_),λu hu=>p3.mono u (p2.mono u ?_),λu hu=>?_,λt ht hc u hu=>?_,by have:=p2.cf;have:=p3.cf;omega⟩
    .grind
    .grind
    .by_cases hua:u=a
     .refine .inr λv hv=>?_;subst hua;obtain⟨y,hy,hv⟩:=hv;rw[hx] at hy;cases hy;rcases hv with hv|hv
      .exact p3.mono v (p2.at' v hv)
      .exact p3.at' v hv
     .rcases p3.clo u hu with h|h
      .rcases p2.clo u h with h|h
       .grind
       .exact .inr λv hv=>p3.mono v (h v hv)
      grind
    .have hwa:=ht a rfl;by_cases hua:u=a
     .grind
     .rcases p3.snd (t+1) (λv hv=>hW t a v hwa ⟨x,hx,.inr hv⟩) (by have:=p2.cf;omega) u hu with h|h
      .rcases p2.snd (t+1) (λv hv=>hW t a v hwa ⟨x,hx,.inl hv⟩) (by omega) u h with h|h
       .grind
       grind
      grind
  .cases xs with
   |nil=>exact⟨ms,rfl,rfl,λ_ h=>h,λu hu=>(by cases hu),λu h=>.inl h,λ_ _ _ u h=>.inl h,abi _⟩
   |cons x xs=>
    rw[Cv];rw[abK] at hk;obtain⟨m2,e2,p2⟩:=ih.1 x ms hl (hx x IS) (by omega);have hm2:=ag8 (B+2) p2.cf;obtain⟨r,e3,p3⟩:=ih.2 xs m2 (by rw[p2.len,hl]) (λv hv=>hx v (BY _ hv)) (by omega);rw[e2];refine⟨r,e3,by rw[p3.len,p2.len],λu hu=>p3.mono u (p2.mono u hu),λu hu=>?_,λu hu=>?_,λt ht hc u hu=>?_,by have:=p2.cf;have:=p3.cf;omega⟩
    .rcases List.mem_cons.1 hu with h|h
     .exact p3.mono u (p2.at' u h)
     .exact p3.at' u h
    .rcases p3.clo u hu with h|h
     .rcases p2.clo u h with h|h
      .grind
      .exact .inr λv hv=>p3.mono v (h v hv)
     grind
    .rcases p3.snd t (λv hv=>ht v (BY _ hv)) (by have:=p2.cf;omega) u hu with h|h
     .exact p2.snd t (λv hv=>by grind) hc u h
     grind
def Clo (N:List aq)(ms:List Bool):Prop:=∀u,gt ms u=some true->∀v,Edge N u v->gt ms v=some true
theorem ak5 {a}{ms r}(p:VP N n W a ms r)(c:Clo N ms):Clo N r:=λu hu v hv=>by
 rcases p.clo u hu with h|h
 .exact p.mono v (c u h v hv)
 grind
theorem Qz (hI:pC N N.length)(hB:∀x∈N,x.keys.length<=B/\x.items.length<=B){k}(hk:N.length*(B+2)+1<=k):∀xs ms ,ms.length=N.length->(∀v∈xs,IR N.length v)->Clo N ms ->
  ∃r,Hu k N xs ms=some r/\r.length=ms.length/\Clo N r/\(∀u,gt ms u=some true->gt r u=some true)/\∀u∈xs,gt r u=some true
 |[],ms,hl,_,c=>⟨ms,rfl,rfl,c,λ_ h=>h,λu hu=>(by cases hu)⟩
 |x::xs,ms,hl,hx,c=>by
  have hle:=ahC ms;rw[hl] at hle;have:=ag8 (B+2) hle;obtain⟨m2,e2,p2⟩:=(N6 (n:=0) (W:=λ_ _=>True) hI hB (λ_ _ _ _ _=>trivial) k).1 x ms hl (hx x IS) (by omega);obtain⟨r,e3,h1,h2,h3,h4⟩:=Qz hI hB hk xs m2 (by rw[p2.len,hl]) (λv hv=>hx v (BY _ hv)) (ak5 p2 c);refine⟨r,by rw[Hu,e2];exact e3,by rw[h1,p2.len],h2,λu hu=>h3 u (p2.mono u hu),λu hu=>?_⟩;rcases List.mem_cons.1 hu with h|h
  .exact h3 u (p2.at' u h)
  grind
theorem Vj (hI:pC N N.length)(hB:∀x∈N,x.keys.length<=B/\x.items.length<=B){k}(hk:N.length*(B+2)+1<=k):∀X ms ,(∀x∈X,x∈N)->ms.length=N.length->Clo N ms ->
  ∃r,Ve k N X ms=some r/\r.length=ms.length/\Clo N r/\(∀u,gt ms u=some true->gt r u=some true)/\∀x∈X,∀u∈x.keys,gt r u=some true
 |[],ms,_,hl,c=>⟨ms,rfl,rfl,c,λ_ h=>h,λx hx=>(by cases hx)⟩
 |x::X,ms,hX,hl,c=>by
  obtain⟨m2,e2,a1,a2,a3,a4⟩:=Qz hI hB hk x.keys ms hl (hI x (hX x IS)).1 c;obtain⟨r,e3,h1,h2,h3,h4⟩:=Vj hI hB hk X m2 (λy hy=>hX y (BY _ hy)) (by grind) a2
  grind [Ve]
theorem N7 {m}{u}{b}(h:gt (List.replicate m false) u=some b):b=false:=by
 have:=IN (aB h).2
 grind
theorem afr {m}:Clo N (List.replicate m false):=λu hu=>by grind [N7]
def CC (n:Nat)(l:ε):ε:=(List.range n).map λj:Nat=>((l.count (j:Int):Nat):Int)
theorem ak6 {n}{l}:(CC n l).length=n:=by grind [CC]
theorem Vk {n}{l}{v}(hv:IR n v):gt (CC n l) v=some ((l.count v:Nat):Int):=by
 obtain⟨h1,h2⟩:=hv
 grind [gt,CC]
theorem QA {n}{l}{v}(hv:IR n v)(hl:l.length<4611686018427387904):bump (CC n l) v=some (CC n (l++[v])):=by
 unfold bump;have hc:=apf (a:=v) (l:=l);rw[Vk hv,amS,xQ (by omega) (by omega)]
 congr 1
 refine amv λj=>?_;have hlt:v.toNat<n:=by have:=hv.1;have:=hv.2;omega
 by_cases hj:j=v.toNat
 .subst hj;rw[al5 (by grind [ak6])];unfold CC;rw[abh,List.getElem?_range hlt,amS,show ((v.toNat:Nat):Int)=v by have:=hv.1;omega];simp
 .rw[anO (Ne.symm hj)]
  grind [CC]
theorem CU {n}:∀{xs l},(∀v∈xs,IR n v)->l.length+xs.length<4611686018427387904->mZ xs (CC n l)=some (CC n (l++xs))
 |[],l,_,_=>by simp[mZ]
 |x::xs,l,hx,hl=>by
  rw[abK] at hl;rw[mZ,QA (hx x IS) (by omega),anQ,CU (λv hv=>hx v (BY _ hv)) (by grind)];simp
def refs (x:aq):ε:=x.keys++x.items
theorem QB {n}:∀{X} {l},pC X n->l.length+(X.flatMap refs).length<4611686018427387904->N4 X (CC n l)=some (CC n (l++X.flatMap refs))
 |[],l,_,_=>by simp[N4]
 |x::X,l,hx,hl=>by
  rw[acD,aby] at hl;have e:(refs x).length=x.keys.length+x.items.length:=by simp[refs]
  rw[N4,CU (hx x IS).1 (by omega),anQ,CU (hx x IS).2 (by grind),anQ,QB (λy hy=>hx y (BY _ hy)) (by grind)];simp[refs]
theorem Vl {X:List aq}(hB:∀x∈X,x.keys.length<=B/\x.items.length<=B):(X.flatMap refs).length<=X.length*(2*B):=by
 induction X with
 |nil=>simp
 |cons x X ih=>
  have h1:=ih λy hy=>hB y (BY _ hy)
  grind [List.mem_cons_self,List.length_append,List.length_cons,Nat.add_mul,refs]
theorem afs {root}(hI:pC N N.length)(hr:IR N.length root)(hB:∀x∈N,x.keys.length<=B/\x.items.length<=B)(hN:N.length<=4096)(hB2:B<1073741824):gC N root=some (CC N.length (root::N.flatMap refs)):=by
 unfold gC;have e:List.replicate N.length (0:Int)=CC N.length []:=by
  unfold CC;refine amv λj=>?_
  grind
 have h1:=Vl hB;have h2:N.length*(2*B)<=4096*(2*1073741824):=aor hN (by omega)
 grind [QA,QB,List.length_singleton]
end
end
section
variable {α β:Type}
inductive Wk (N:List aq) (root:Int):Nat->Int->Prop
 |root:Wk N root 0 root
 |step {t:Nat} {u v:Int}:Wk N root t u->Edge N u v->Wk N root (t+1) v
theorem least {p:Nat->Prop}:∀t,p t->∃t,p t/\∀s,s<t->¬p s:=by
 intro t
 induction t using Nat.strongRecOn with
 |ind t ih=>
  grind
theorem N8 {v}:∀{X:List aq} {i:Nat} {x},X[i]?=some x->v∈refs x->1<=(X.flatMap refs).count v
 |[],i,x,h,_=>by simp at h
 |y::X,0,x,h,hv=>by
  grind
 |y::X,i+1,x,h,hv=>by
  rw[acD,agf];have:=N8 (by simpa using h) hv;omega
theorem N9 {v}:∀{X:List aq} {i j:Nat} {x y},i<j->X[i]?=some x->X[j]?=some y->v∈refs x->v∈refs y->2<=(X.flatMap refs).count v
 |[],i,j,x,y,_,h,_,_,_=>by simp at h
 |z::X,0,j+1,x,y,_,h,h2,hx,hy=>by
  grind [List.count_pos_iff,N8]
 |z::X,i+1,j+1,x,y,hij,h,h2,hx,hy=>by
  rw[acD,agf];have:=N9 (i:=i) (j:=j) (by omega) (by simpa using h) (by grind) hx hy;omega
theorem MD {N}{u v}(e:Edge N u v):∃x,0<=u/\N[u.toNat]?=some x/\v∈refs x:=by
 obtain⟨x,hx,hv⟩:=e;obtain⟨h1,h2⟩:=aB hx
 grind [refs]
theorem CV {N}{root v}(hc:(root::N.flatMap refs).count v=1){u}(e:Edge N u v):v≠root/\∀u',Edge N u' v->u'=u:=by
 obtain⟨x,h1,h2,h3⟩:=MD e;have ho:=N8 h2 h3;rw[agw] at hc;refine⟨λhvr=>?_,λu' e'=>?_⟩
 .grind
 .obtain⟨y,g1,g2,g3⟩:=MD e';by_cases hlt:u'.toNat<u.toNat
  .grind [N9]
  by_cases hgt:u.toNat<u'.toNat
  .grind [N9]
  omega
theorem ahD {N}{n}{root}{K:Int->Prop}(hI:pC N n)(hn:N.length=n)(hW:∀v,IR n v->∃s,s<n/\Wk N root s v)(hK:∀v,K v->IR n v->(root::N.flatMap refs).count v=1) :
  ∃H:Int->Nat,(∀u,H u<=n)/\∀u v,K v->Edge N u v->H v<H u:=by
 have hex:∀v,∃d,IR n v->Wk N root d v/\∀s,s<d->¬Wk N root s v:=λv=>by
  by_cases hv:IR n v
  .obtain⟨s,_,h⟩:=hW v hv;obtain⟨t,h1,h2⟩:=least (p:=λt=>Wk N root t v) s h
   grind
  simp_all
 obtain⟨D,hD⟩:=anT hex;refine⟨λv=>n-D v,λu=>Nat.sub_le _ _,λu v hkv e=>?_⟩;have hu:IR n u:=by obtain⟨x,hx,_⟩:=e;grind [nF]
 have hv:IR n v:=by
  obtain⟨x,hx,hm⟩:=e;rcases hm with h|h
  .exact (hI x (ax hx)).1 v h
  .exact (hI x (ax hx)).2 v h
 obtain⟨s,hs,hws⟩:=hW v hv;have hDv:=hD v hv;have hDu:=hD u hu;have hlt:D v<n:=by
  grind
 obtain⟨hroot,huniq⟩:=CV (hK v hkv hv) e;have key:D u+1<=D v:=by
  have hw:=hDv.1;generalize D v=d at hw;cases hw with
  |root=>grind
  |step hwt e'=>
   grind
 grind
section
variable {N:List aq}{B:Nat}{K:Int->Prop}{H:Int->Nat}
def qK (x:aq):Prop:=x.kind=10->x.keys.length=x.items.length
structure Chd (K:Int->Prop) (H:Int->Nat) (h:Nat) (v:Int):Prop where
 k:K v
 lt:H v<h
theorem abG (hI:pC N N.length)(hB:∀x∈N,x.keys.length<=B/\x.items.length<=B)(hM:∀x∈N,qK x)(hKr:∀v,K v->IR N.length v)(hKc:∀u v,K u->Edge N u v->K v)(hH:∀u v,K v->Edge N u v->H v<H u):∀k,
  (∀i j h,K i->IR N.length j->H i<=h->(h+1)*(2*B+5)<=k->∃r,same k N i j=some r) /\
  (∀x y i h,x∈N->y∈N->(∀v∈x.keys,Chd K H h v)->(∀v∈x.items,Chd K H h v)->x.kind=10->y.kind=10->(x.keys.length-i)+1+(B+1)+h*(2*B+5)<=k->∃r,D5 k N x y i=some r) /\
  (∀x y i kx j b h,x∈N->y∈N->Chd K H h kx->(∀v∈x.items,Chd K H h v)->x.kind=10->y.kind=10->i<x.keys.length->(y.keys.length-j)+1+h*(2*B+5)<=k->∃r,xL k N x y i kx j b=some r) /\
  (∀x y i h,x∈N->y∈N->(∀v∈x.keys,Chd K H h v)->(∀v∈x.items,Chd K H h v)->x.kind=y.kind->x.items.length=y.items.length->(x.items.length-i)+1+h*(2*B+5)<=k->∃r,zF k N x y i=some r):=by
 intro k
 induction k with
 |zero=>grind
 |succ k ih=>
  have chd:∀{h:Nat} {v w:Int},Chd K H h v->IR N.length w->h*(2*B+5)<=k->∃r,same k N v w=some r:=λ{h v w} c hw hk=>by
   obtain⟨h1,h2⟩:=c;cases h with
   |zero=>omega
   |succ h=>exact ih.1 v w h h1 hw (by omega) hk
  refine⟨λi j h hi hj hh hk=>?_,λx y i h hx hy h1 h2 hkx hky hk=>?_,λx y i kx j b h hx hy h1 h2 hkx hky hik hk=>?_,λx y i h hx hy h1 h2 hkk hll hk=>?_⟩
  .rw[same];obtain⟨x,hx⟩:=fj rfl (hKr i hi);obtain⟨y,hy⟩:=fj rfl hj;rw[hx,hy];simp only;have hxm:=ax hx;have hym:=ax hy;have hbx:=hB x hxm;have hby:=hB y hym;rw[ale] at hk;have ck:∀v∈x.keys,Chd K H h v:=λv hv=>by
    have e:Edge N i v:=⟨x,hx,.inl hv⟩;have hkv:=hKc i v hi e;exact⟨hkv,by have:=hH i v hkv e;omega⟩
   have ci:∀v∈x.items,Chd K H h v:=λv hv=>by
    have e:Edge N i v:=⟨x,hx,.inr hv⟩;have hkv:=hKc i v hi e;exact⟨hkv,by have:=hH i v hkv e;omega⟩
   split
   .exact⟨_,rfl⟩
   rename_i hkk;split
   .exact⟨_,rfl⟩
   split
   .exact⟨_,rfl⟩
   split
   .exact⟨_,rfl⟩
   rename_i hll;have hkk:x.kind=y.kind:=apZ hkk;have hll:x.items.length=y.items.length:=apZ hll;split
   .rename_i h10;exact ih.2.1 x y 0 h hxm hym ck ci h10.1 (by grind) (by omega)
   .exact ih.2.2.2 x y 0 h hxm hym ck ci hkk hll (by omega)
  .rw[D5];cases hki:x.keys[i]? with
   |none=>exact⟨_,rfl⟩
   |some kx=>
    have hlt:=(List.getElem?_eq_some_iff.1 hki).1;have hby:=hB y hy;obtain⟨r,hr⟩:=ih.2.2.1 x y i kx 0 false h hx hy (h1 kx (IN hki)) h2 hkx hky hlt (by omega);simp only;rw[hr];cases r with
    |false=>exact⟨_,rfl⟩
    |true=>exact ih.2.1 x y (i+1) h hx hy h1 h2 hkx hky (by omega)
  .rw[xL];cases hkj:y.keys[j]? with
   |none=>exact⟨_,rfl⟩
   |some ky=>
    have hlt:=(List.getElem?_eq_some_iff.1 hkj).1;cases b with
    |true=>exact ih.2.2.1 x y i kx (j+1) true h hx hy h1 h2 hkx hky hik (by omega)
    |false=>
     obtain⟨r,hr⟩:=chd h1 ((hI y hy).1 ky (IN hkj)) (by omega);simp only;rw[hr];cases r with
     |false=>exact ih.2.2.1 x y i kx (j+1) false h hx hy h1 h2 hkx hky hik (by omega)
     |true=>
      have ex:=hM x hx hkx;have ey:=hM y hy hky;obtain⟨p,hp⟩:=eC (l:=x.items) (i:=i) (by omega);obtain⟨q,hq⟩:=eC (l:=y.items) (i:=j) (by omega);obtain⟨r2,hr2⟩:=chd (h2 p (IN hp)) ((hI y hy).2 q (IN hq)) (by omega);simp only[hp,hq,hr2];exact ih.2.2.1 x y i kx (j+1) r2 h hx hy h1 h2 hkx hky hik (by omega)
  .rw[zF];cases hpi:x.items[i]? with
   |none=>exact⟨_,rfl⟩
   |some p=>
    have hlt:=(List.getElem?_eq_some_iff.1 hpi).1;obtain⟨q,hq⟩:=eC (l:=y.items) (i:=i) (by omega);simp only[hq];obtain⟨r2,hr2⟩:=chd (h2 p (IN hpi)) ((hI y hy).2 q (IN hq)) (by omega);split
    .rename_i h10;have ex:=hM x hx h10;have ey:=hM y hy (by grind);obtain⟨kx,hkx⟩:=eC (l:=x.keys) (i:=i) (by omega);obtain⟨ky,hky⟩:=eC (l:=y.keys) (i:=i) (by omega);obtain⟨r1,hr1⟩:=chd (h1 kx (IN hkx)) ((hI y hy).1 ky (IN hky)) (by omega);simp only[hkx,hky,hr1,hr2];cases r1 with
     |false=>exact⟨_,rfl⟩
     |true=>
      cases r2 with
      |false=>exact⟨_,rfl⟩
      |true=>exact ih.2.2.2 x y (i+1) h hx hy h1 h2 hkk hll (by omega)
    .simp only[hr2];cases r2 with
     |false=>exact⟨_,rfl⟩
     |true=>exact ih.2.2.2 x y (i+1) h hx hy h1 h2 hkk hll (by omega)
theorem Vm {k}{x}:∀{ys},(∀y∈ys,∃r,same k N x y=some r)->∃r,twC k N x ys=some r
 |[],_=>⟨_,rfl⟩
 |y::ys,h=>by
  obtain⟨r,hr⟩:=h y IS;rw[twC,hr];cases r with
  |true=>grind
  |false=>exact Vm λz hz=>h z (BY _ hz)
theorem Vn {k}{P:Int->Prop}(hP:∀v,P v->IR N.length v)(hs:∀x y,P x->P y->∃r,same k N x y=some r):∀{xs met},(∀v∈xs,P v)->(∀v∈met,P v)->∃r,XY k N met xs=some r
 |[],met,_,_=>⟨_,rfl⟩
 |x::xs,met,h1,h2=>by
  have hx:=h1 x IS;obtain⟨n,hn⟩:=fj rfl (hP x hx);obtain⟨r,hr⟩:=Vm (ys:=met.filter (isKey N n.kind n.text)) λy hy=>hs x y hx (h2 y (List.mem_filter.1 hy).1);rw[XY,hn];simp only[hr];cases r with
  |true=>grind
  |false=>
   refine Vn hP hs (λv hv=>h1 v (BY _ hv)) λv hv=>?_
   grind
theorem Vo {k}{P:Int->Prop}(hP:∀v,P v->IR N.length v)(hs:∀x y,P x->P y->∃r,same k N x y=some r):∀{X},(∀x∈X,∀v∈x.keys,P v)->∃r,twN k N X=some r
 |[],_=>⟨_,rfl⟩
 |x::X,h=>by
  obtain⟨r,hr⟩:=Vn hP hs (met:=[]) (h x IS) (λv hv=>(by cases hv));rw[twN,hr];cases r with
  |true=>grind
  |false=>exact Vo hP hs λy hy=>h y (BY _ hy)
end
end
section
variable {α β:Type}
def zc (l:ε):Nat:=l.count 0
theorem ak7:∀{l} {i} {v},l[i]?=some 0->v≠0->zc (l.set i v)+1=zc l
 |[],i,v,h,_=>by simp at h
 |m::ms,0,v,h,hv=>by
  grind [zc]
 |m::ms,i+1,v,h,hv=>by
  grind [zc]
structure TI (N:List aq) (A:Int->Prop) (st:TS):Prop where
 lix:st.ix.length=N.length
 llo:st.lo.length=N.length
 lnn:st.nn.length=N.length
 lon:st.on.length=N.length
 nx:st.next=((N.length-zc st.ix:Nat):Int)
 zle:zc st.ix<=N.length
 pos:∀u i,gt st.ix u=some i->0<=i
 low:∀u i,gt st.ix u=some i->i≠0->∃l,gt st.lo u=some l/\1<=l/\l<=i
 gM:∀u∈st.gM,∃i,gt st.ix u=some i/\i≠0
 nd:st.gM.Nodup
 gC:st.gM.length+st.ff.length<=N.length-zc st.ix
 nnv:∀u i,gt st.ix u=some i->i≠0->u∈st.gM\/∃c,gt st.nn u=some c/\0<=c/\c<(st.ff.length:Int)
 clo:∀u i,gt st.ix u=some i->i≠0->A u\/∀v,Edge N u v->∃j,gt st.ix v=some j/\j≠0
structure TP (st st':TS):Prop where
 ix:∀u i,gt st.ix u=some i->i≠0->gt st'.ix u=some i
 gM:∃e,st'.gM=st.gM++e
 ff:st.ff.length<=st'.ff.length
 z:zc st'.ix<=zc st.ix
def TP.refl st:TP st st:=⟨λ_ _ h _=>h,⟨[],by simp⟩,abi _,abi _⟩
theorem TP.trans {a b c}(p:TP a b)(q:TP b c):TP a c:=by
 obtain⟨e,he⟩:=p.gM;obtain⟨f,hf⟩:=q.gM;exact⟨λu i h h0=>q.ix u i (p.ix u i h h0) h0,⟨e++f,by grind⟩,acY p.ff q.ff,acY q.z p.z⟩
def AV (st:TS)(u:Int):Prop:=∃i,gt st.ix u=some i/\i≠0
theorem TP.D4 {a b}(p:TP a b){u}(h:AV a u):AV b u:=let ⟨i,h1,h2⟩:=h;⟨i,p.ix u i h1 h2,h2⟩
section
variable {N:List aq}{B:Nat}{A:Int->Prop}{st:TS}
theorem abH (t:TI N A st){a}(ha:IR N.length a)(h0:gt st.ix a=some 0)(hb:N.length<=4096):∃st',KM a st=some st'/\TI N (λu=>A u\/u=a) st'/\TP st st'/\st'.gM=st.gM++[a]/\zc st'.ix+1=zc st.ix/\gt st'.ix a=some ((N.length-zc st.ix+1:Nat):Int)/\st'.ff=st.ff:=by
 obtain⟨b,hon⟩:=fj t.lon ha;obtain⟨l,hlo⟩:=fj t.llo ha;have hz:1<=zc st.ix:=List.count_pos_iff.2 (IN (aB h0).2);have hzl:=t.zle;have hct:=t.gC;have hw:IntKind.i64.wrap (st.next+1)=((N.length-zc st.ix+1:Nat):Int):=by
  rw[t.nx,xQ (by omega) (by omega)];omega
 have h2:=(aB h0).2;have hzs:=ak7 (v:=((N.length-zc st.ix+1:Nat):Int)) h2 (by omega);have hax:IR st.ix.length a:=by rw[t.lix];exact ha
 have hal:IR st.lo.length a:=by rw[t.llo];exact ha
 refine⟨{ st with next:=IntKind.i64.wrap (st.next+1),ix:=st.ix.set a.toNat (IntKind.i64.wrap (st.next+1)),lo:=st.lo.set a.toNat (IntKind.i64.wrap (st.next+1)),gM:=st.gM++[a],on:=st.on.set a.toNat true },?_,?_,?_,rfl,?_,?_,rfl⟩
 .unfold KM;rw[By ⟨by grind [da],by grind [da],by grind,by grind,by grind⟩]
 .have hna:a∉st.gM:=λhm=>by obtain⟨i,h3,h4⟩:=t.gM a hm;grind
  refine⟨by simpa using t.lix,by simpa using t.llo,t.lnn,by simpa using t.lon,?_,?_,?_,?_,?_,?_,?_,?_,?_⟩
  .grind
  .grind
  .intro u i hi;simp at hi;rw[gH hax] at hi;split at hi
   .grind
   .exact t.pos u i hi
  .intro u i hi hi0;simp at hi⊢;rw[gH hax] at hi;rw[gH hal];split
   .grind
   .rename_i hu;rw[AT hu] at hi;exact t.low u i hi hi0
  .intro u hu;simp only at hu⊢;rw[gH hax];split
   .grind
   .rename_i hne;rcases List.mem_append.1 hu with h|h
    .exact t.gM u h
    grind
  .grind [List.nodup_append,t.nd,List.mem_singleton]
  .grind
  .intro u i hi hi0;simp only at hi⊢;rw[gH hax] at hi;split at hi
   .grind
   .exact (t.nnv u i hi hi0).imp (λh=>List.mem_append.2 (.inl h)) id
  .intro u i hi hi0;simp only at hi⊢;rw[gH hax] at hi;split at hi
   .grind
   .rcases t.clo u i hi hi0 with h|h
    .grind
    grind [gH]
 .refine⟨λu i hi hi0=>?_,⟨[a],rfl⟩,abi _,?_⟩
  .show gt (st.ix.set a.toNat _) u=some i;rw[gH hax,AT (λhu=>by grind)];exact hi
  grind
 .grind
 .show gt (st.ix.set a.toNat _) a=_;rw[gH hax,By rfl,hw]
theorem afu (t:TI N A st){a v}(ha:AV st a)(hv:1<=v):∃st',LS a v st=some st'/\TI N A st'/\TP st st'/\st'.gM=st.gM/\st'.ix=st.ix:=by
 obtain⟨i,hi,hi0⟩:=ha;obtain⟨l,hl,hl1,hl2⟩:=t.low a i hi hi0;have hal:IR st.lo.length a:=nF hl;refine⟨{ st with lo:=st.lo.set a.toNat (mn l v) },by grind [LS],⟨t.lix,by simpa using t.llo,t.lnn,t.lon,t.nx,t.zle,t.pos,λu j hj hj0=>?_,t.gM,t.nd,t.gC,t.nnv,t.clo⟩,⟨λ_ _ h _=>h,⟨[],by simp⟩,abi _,abi _⟩,rfl,rfl⟩;simp;rw[gH hal];split
 .rename_i hu;simp at hj;rw[hu,hi] at hj;cases hj;refine⟨_,rfl,?_,?_⟩<;>(grind [mn])
 .exact t.low u j hj hj0
def Hw (st:TS)(x:Int)(l:ε):TS:={ st with gM:=l,on:=st.on.set x.toNat false,nn:=st.nn.set x.toNat (st.ff.length:Int) }
theorem Vp {k}{a c x}{l}(hs:st.gM=l++[x])(h1:IR st.on.length x)(h2:IR st.nn.length x)(hb:st.gM.length<=da) :
  tp (k+1) a st c=if x=a then some (Hw st x l,IntKind.i64.wrap (c+1)) else tp k a (Hw st x l) (IntKind.i64.wrap (c+1)):=by
 obtain⟨o,ho⟩:=fj rfl h1;obtain⟨q,hq⟩:=fj rfl h2;have e1:st.gM.getLast?=some x:=by grind
 have e2:st.gM.dropLast=l:=by grind
 rw[tp,e1];simp;rw[By ⟨by grind,by grind,hb⟩,e2];rfl
def pC.Gi (hI:pC N N.length){u v}(e:Edge N u v):IR N.length v:=by
 obtain⟨x,hx,hm⟩:=e;rcases hm with h|h
 .exact (hI x (ax hx)).1 v h
 .exact (hI x (ax hx)).2 v h
theorem TI.anb {a}(t:TI N (λu=>A u\/u=a) st)(h:∀v,Edge N a v->AV st v):TI N A st:=
 ⟨t.lix,t.llo,t.lnn,t.lon,t.nx,t.zle,t.pos,t.low,t.gM,t.nd,t.gC,t.nnv,λu i hi hi0=>by
  rcases t.clo u i hi hi0 with (h1|h1)|h1
  .grind
  .exact .inr λv hv=>h v (by grind)
  grind⟩
theorem XZ {a}{pre ext}{st':TS}{n}(t:TI N A st)(hs:st.gM=pre++a::ext)(h2:st'.gM=pre)(h3:st'.ix=st.ix)(h4:st'.lo=st.lo)(h5:st'.next=st.next)(h6:st'.ff=st.ff)(h7:st'.on.length=st.on.length)(h8:st'.nn.length=st.nn.length)
  (h9:∀u,u∈a::ext->gt st'.nn u=some (st.ff.length:Int)) (h10:∀u,u∉a::ext->gt st'.nn u=gt st.nn u):TI N A { st' with ff:=st'.ff++[n] }:=by
 have hnd:=t.nd;rw[hs] at hnd;refine⟨by simp;rw[h3];exact t.lix,by simp;rw[h4];exact t.llo,by simp;rw[h8];exact t.lnn,by simp;rw[h7];exact t.lon,by simp;rw[h5,h3];exact t.nx,by simp;rw[h3];exact t.zle,?_,?_,?_,?_,?_,?_,?_⟩
 .intro u i hi;simp at hi;rw[h3] at hi;exact t.pos u i hi
 .intro u i hi hi0;simp at hi⊢;rw[h3] at hi;rw[h4];exact t.low u i hi hi0
 .intro u hu;simp only at hu⊢;rw[h2] at hu;rw[h3];exact t.gM u (by grind)
 .grind
 .grind [t.gC,List.length_append,List.length_singleton,List.length_cons]
 .intro u i hi hi0;simp only at hi⊢;rw[h3] at hi;rw[h2,h6,aby,ahX];by_cases hu:u∈a::ext
  .grind
  .rcases t.nnv u i hi hi0 with h|⟨c,h,g1,g2⟩
   .grind
   grind
 .intro u i hi hi0;simp only at hi⊢;rw[h3] at hi⊢;exact t.clo u i hi hi0
theorem wP {m}{x y:α}{u}(h:gt (List.replicate m x) u=some y):y=x:=(List.mem_replicate.1 (IN (aB h).2)).2
theorem afv:TI N A (na N.length):=by
 have hz:zc (na N.length).ix=N.length:=by unfold na zc;simp
 have h0:∀u i,gt (na N.length).ix u=some i->i=0:=λu i h=>wP h;refine⟨by simp[na],by simp[na],by simp[na],by simp[na],?_,by omega,?_,?_,?_,?_,?_,?_,?_⟩
 .show (0:Int)=_
  grind
 .grind
 .grind
 .intro u hu;cases hu
 .exact apl
 .show 0+0<=_;omega
 .grind
 grind
end
end
section
variable {α β:Type}
section
variable {N:List aq}{B n p:Nat}{nn:ε}
def nf {l:List α}{v}(h0:0<=v)(h:v<(l.length:Int)):∃x,gt l v=some x:=fj (l:=l) rfl ⟨h0,h⟩
theorem Vq:∀{cs} {i} {X},X.length=p->(∀c∈cs,IR p c)->i+cs.length<=n->(∀xs∈X,∀v∈xs,IR n v)->∃Y,mem i cs X=some Y/\Y.length=p/\∀xs∈Y,∀v∈xs,IR n v
 |[],i,X,hX,_,_,hm=>⟨X,rfl,hX,hm⟩
 |c::cs,i,X,hX,hc,hi,hm=>by
  rw[abK] at hi;obtain⟨xs,hxs⟩:=fj hX (hc c IS);rw[mem,hxs];refine Vq (by grind) (λd hd=>hc d (BY _ hd)) (by omega) λys hys v hv=>?_;rcases al7 hys with h|h
  .grind
  .rw[h] at hv;rcases List.mem_append.1 hv with h|h
   .grind [ax]
   .rw[List.mem_singleton.1 h];exact⟨by omega,by omega⟩
def ak8 (nn:ε)(n p:Nat):Prop:=∀v,IR n v->∃c,gt nn v=some c/\0<=c/\c<(p:Int)
theorem abI:∀{ms} {X},ms.length=X.length->∃r,gA ms X=some r/\(r=true->(∀m∈ms,m=true)/\∀x∈X,rA x=some true)
 |[],[],_=>⟨true,rfl,λ_=>⟨λm h=>(by cases h),λm h=>(by cases h)⟩⟩
 |m::ms,x::X,hl=>by
  rw[gA];cases m with
  |false=>grind
  |true=>
   rw[AT (by simp)];obtain⟨f,hf⟩:=Th x;rw[hf];cases f with
   |false=>grind
   |true=>
    obtain⟨r,hr,h⟩:=abI (by simpa using hl)
    simp_all
theorem ahE:∀{bs} {cs} {i:Nat} {c},gB bs cs=true->bs[i]?=some true->cs[i]?=some c->c=1
 |[],cs,i,c,_,h,_=>by simp at h
 |b::bs,[],i,c,_,_,h=>by simp at h
 |b::bs,d::cs,0,c,h,hb,hc=>by
  grind [gB,gB]
 |b::bs,d::cs,i+1,c,h,hb,hc=>by
  rw[gB] at h;split at h
  .cases h
  .exact ahE h (by simpa using hb) (by grind)
theorem Gj {x}(h:rA x=some true):qK x:=λhk=>by
 grind [rA]
def gK (n B:Nat):Nat:=(n+1)*(2*B+8)
end
end
section
variable {N:List aq}{B:Nat}{A:Int->Prop}{st st':TS}
inductive gf (N:List aq) (u:Int):Int->Prop
 |refl:gf N u u
 |step {v w:Int}:gf N u v->Edge N v w->gf N u w
theorem gf.trans {u v w}(h:gf N u v)(h':gf N v w):gf N u w:=by
 induction h' with
 |refl=>exact h
 |step _ e ih=>exact ih.step e
def gf.one {u v}(e:Edge N u v):gf N u v:=.step .refl e
structure TJ (N:List aq) (A:Int->Prop) (st:TS):Prop where
 t:TI N A st
 on:∀u b,gt st.on u=some b->(b=true↔u∈st.gM)
 ord:st.gM.Pairwise λu v=>∀i j,gt st.ix u=some i->gt st.ix v=some j->i<j
 ib:∀u i,gt st.ix u=some i->i<=st.next
 ls:∀u∈st.gM,∀l,gt st.lo u=some l->∃g∈st.gM,gt st.ix g=some l/\gf N u g
 n0:∀u,(u∈st.gM\/gt st.ix u=some 0)->gt st.nn u=some (-1)
 n1:∀u,AV st u->u∉st.gM->∃c:Nat,gt st.nn u=some (c:Int)/\c<st.ff.length/\∀v,Edge N u v->AV st v/\v∉st.gM/\∃c':Nat,gt st.nn v=some (c':Int)/\c'<=c
 n2:∀u v (c:Nat),gt st.nn u=some (c:Int)->gt st.nn v=some (c:Int)->gf N u v
 n3:∀c,c<st.ff.length->st.ff[c]?=some ((st.nn.count (c:Int):Nat):Int)
 n4:∀c∈st.nn,c<(st.ff.length:Int)
theorem TJ.lt (j:TJ N A st){X Y}{u v}(h:st.gM=X++Y)(hu:u∈X)(hv:v∈Y){i k}(hi:gt st.ix u=some i)(hk:gt st.ix v=some k):i<k:=by
 have:=j.ord
 grind
theorem ak9 (j:TJ N A st){a}(ha:IR N.length a)(h0:gt st.ix a=some 0)(hb:N.length<=4096):∃st',KM a st=some st'/\TJ N (λu=>A u\/u=a) st'/\TP st st'/\st'.gM=st.gM++[a]/\zc st'.ix+1=zc st.ix/\gt st'.ix a=some st'.next/\st.next<st'.next /\
  (∀u,u≠a->gt st'.ix u=gt st.ix u/\gt st'.lo u=gt st.lo u):=by
 obtain⟨st1,e1,t1,p1,s1,z1,i1,c1⟩:=abH j.t ha h0 hb;have hw:IntKind.i64.wrap (st.next+1)=st.next+1:=by
  rw[j.t.nx];grind [xQ]
 have hx:st1={ st with next:=st.next+1,ix:=st.ix.set a.toNat (st.next+1),lo:=st.lo.set a.toNat (st.next+1),gM:=st.gM++[a],on:=st.on.set a.toNat true }:=by
  grind [KM,Option.some.inj]
 have hax:IR st.ix.length a:=by rw[j.t.lix];exact ha
 have hal:IR st.lo.length a:=by rw[j.t.llo];exact ha
 have hao:IR st.on.length a:=by rw[j.t.lon];exact ha
 have hna:a∉st.gM:=λhm=>by obtain⟨i,h3,h4⟩:=j.t.gM a hm;grind
 have gx:∀u,gt st1.ix u=if u=a then some (st.next+1) else gt st.ix u:=λu=>by grind [gH]
 have gl:∀u,gt st1.lo u=if u=a then some (st.next+1) else gt st.lo u:=λu=>by grind [gH]
 have go:∀u,gt st1.on u=if u=a then some true else gt st.on u:=λu=>by grind [gH]
 have gn:st1.nn=st.nn:=by rw[hx]
 have gz:st1.ff=st.ff:=by rw[hx]
 have ne:∀u,u∈st.gM->u≠a:=λu h e=>hna (e▸h);have nn:st1.next=st.next+1:=by rw[hx]
 have nx0:0<=st.next:=by grind
 have vs:∀u,u≠a->AV st1 u->AV st u:=λu hu ⟨i,h1,h2⟩=>⟨i,by grind,h2⟩;refine⟨st1,e1,⟨t1,λu b hb=>?_,?_,λu i hi=>?_,λu hu l hl=>?_,λu hu=>?_,λu hu hns=>?_,?_,?_,?_⟩,p1,s1,z1,by grind,by omega,λu hu=>⟨by grind,by grind⟩⟩
 .rw[go] at hb;rw[s1,afK,ac1];split at hb
  .grind
  .rename_i h;rw[j.on u b hb];simp[h]
 .rw[s1,List.pairwise_append];refine⟨j.ord.imp_of_mem λ{u v} hu hv h i k hi hk=>?_,by simp,λu hu v hv i k hi hk=>?_⟩
  .grind
  .rw[ac1] at hv;subst hv;rw[gx,AT (ne u hu)] at hi;rw[gx,By rfl] at hk;cases hk;have:=j.ib u i hi;omega
 .rw[gx] at hi;rw[nn];split at hi
  .grind
  .have:=j.ib u i hi;omega
 .rw[s1] at hu⊢;rw[gl] at hl;split at hl
  .rename_i h;cases hl;exact⟨a,by simp,by grind,by rw[h];exact .refl⟩
  .rename_i h;rcases List.mem_append.1 hu with hu|hu
   .obtain⟨g,h1,h2,h3⟩:=j.ls u hu l hl
    grind
   grind
 .rw[gn];rw[s1,gx] at hu;by_cases h:u=a
  .subst h;exact j.n0 u (.inr h0)
  .rw[AT h] at hu;rcases hu with hu|hu
   .rcases List.mem_append.1 hu with hu|hu
    .exact j.n0 u (.inl hu)
    grind
   .exact j.n0 u (.inr hu)
 .rw[s1] at hns;rw[gn,gz];have hne:u≠a:=λe=>hns (by simp[e]);obtain⟨c,h1,h2,h3⟩:=j.n1 u (vs u hne hu) λh=>hns (acC _ h);refine⟨c,h1,h2,λv hv=>?_⟩;obtain⟨q1,q2,q3⟩:=h3 v hv;have hva:v≠a:=λe=>by
   obtain⟨i,hi,hi0⟩:=q1
   grind
  exact⟨p1.D4 q1,by grind,q3⟩
 .rw[gn];exact j.n2
 .rw[gn,gz];exact j.n3
 .rw[gn,gz];exact j.n4
theorem ahF (j:TJ N A st){a l w}(hs:a∈st.gM)(hl:gt st.lo a=some l)(hw:1<=w)(h:l<=w\/∃g∈st.gM,gt st.ix g=some w/\gf N a g) :
  ∃st',LS a w st=some st'/\TJ N A st'/\TP st st'/\st'.gM=st.gM/\st'.ix=st.ix/\(∀u,u≠a->gt st'.lo u=gt st.lo u)/\∃m,gt st'.lo a=some m/\m<=l/\m<=w:=by
 obtain⟨st1,e1,t1,p1,s1,x1⟩:=afu j.t (j.t.gM a hs) hw;have hx:st1={ st with lo:=st.lo.set a.toNat (mn l w) }:=by
  grind [LS,Option.some.inj]
 have gl:∀u,gt st1.lo u=if u=a then some (mn l w) else gt st.lo u:=λu=>by grind [gH,nF]
 refine⟨st1,e1,⟨t1,by rw[hx];exact j.on,by rw[hx];exact j.ord,by rw[hx];exact j.ib,λu hu k hk=>?_,by rw[hx];exact j.n0,by rw[hx];exact j.n1,by rw[hx];exact j.n2,by rw[hx];exact j.n3,by rw[hx];exact j.n4⟩,p1,s1,x1,λu hu=>by grind,mn l w,by grind,?_,?_⟩
 .rw[gl] at hk;rw[s1] at hu⊢;rw[x1];split at hk
  .rename_i e;subst e;cases hk;unfold mn;split
   .grind
   .exact j.ls u hu l hl
  .exact j.ls u hu k hk
 .grind [mn]
 grind [mn]
theorem aoL {a}{pre}:∀m k ext st (c:Int),ext.length=m->st.gM=pre++a::ext->(a::ext).Nodup->m+1<=k->(∀u∈st.gM,IR st.on.length u/\IR st.nn.length u)->st.gM.length<=da->0<=c->c+st.gM.length<=4096->(∀u∈a::ext,gt st.nn u=some (-1)) ->
  ∃st',tp k a st c=some (st',c+ext.length+1)/\st'.gM=pre/\st'.ix=st.ix/\st'.lo=st.lo/\st'.next=st.next/\st'.ff=st.ff/\st'.on.length=st.on.length/\st'.nn.length=st.nn.length /\
   (∀u,u∈a::ext->gt st'.nn u=some (st.ff.length:Int)/\gt st'.on u=some false)/\(∀u,u∉a::ext->gt st'.nn u=gt st.nn u/\gt st'.on u=gt st.on u) /\
   st'.nn.count (st.ff.length:Int)=st.nn.count (st.ff.length:Int)+(ext.length+1)/\∀d:Nat,d≠st.ff.length->st'.nn.count (d:Int)=st.nn.count (d:Int):=by
 have cs:∀(st:TS) (x:Int),gt st.nn x=some (-1)->(st.nn.set x.toNat (st.ff.length:Int)).count (st.ff.length:Int)=st.nn.count (st.ff.length:Int)+1/\∀d:Nat,d≠st.ff.length->(st.nn.set x.toNat (st.ff.length:Int)).count (d:Int)=st.nn.count (d:Int):=λst x hx=>by
  obtain⟨h1,h2⟩:=aB hx
  grind
 intro m
 induction m with
 |zero=>
  intro k ext st c hm hs ha hk hr hb h0 hc hn;have he:ext=[]:=ac4 hm;subst he;obtain⟨k,rfl⟩:∃j,k=j+1:=⟨k-1,by omega⟩;have hra:=hr a (by grind);have hlen:1<=st.gM.length:=by grind
  obtain⟨c1,c2⟩:=cs st a (hn a (by simp));refine⟨Hw st a pre,by rw[Vp hs hra.1 hra.2 hb,By rfl,xQ (by omega) (by omega)];simp,rfl,rfl,rfl,rfl,rfl,by simp[Hw],by simp[Hw],λu hu=>?_,λu hu=>?_,c1,c2⟩
  .rw[ac1] at hu;exact⟨by show gt (st.nn.set a.toNat _) u=_;rw[gH hra.2,By hu],by show gt (st.on.set a.toNat _) u=_;rw[gH hra.1,By hu]⟩
  .rw[ac1] at hu;exact⟨by show gt (st.nn.set a.toNat _) u=_;rw[gH hra.2,AT hu],by show gt (st.on.set a.toNat _) u=_;rw[gH hra.1,AT hu]⟩
 |succ m ih=>
  intro k ext st c hm hs ha hk hr hb h0 hc hn;obtain⟨k,rfl⟩:∃j,k=j+1:=⟨k-1,by omega⟩;have hne:ext≠[]:=λh=>by rw[h] at hm;cases hm
  obtain⟨e2,x,rfl⟩:∃e2 x,ext=e2++[x]:=⟨ext.dropLast,ext.getLast hne,(apo hne).symm⟩;have hnd:(a::e2).Nodup/\x∉a::e2:=by
   rw[show a::(e2++[x])=(a::e2)++[x] from rfl,al6] at ha;exact⟨ha.1,λh=>ha.2.2 x h x (by simp) rfl⟩
  have hxa:x≠a:=λh=>hnd.2 (by simp[h]);have hs3:st.gM=(pre++a::e2)++[x]:=by rw[hs];simp
  have hrx:=hr x (by rw[hs3];simp);have hl3:st.gM.length=(pre++a::e2).length+1:=by rw[hs3,aby];rfl
  have gnn:∀u,gt (Hw st x (pre++a::e2)).nn u=if u=x then some (st.ff.length:Int) else gt st.nn u:=λu=>gH hrx.2;have gon:∀u,gt (Hw st x (pre++a::e2)).on u=if u=x then some false else gt st.on u:=λu=>gH hrx.1;obtain⟨c1,c2⟩:=cs st x (hn x (by simp));obtain⟨st',h1,h2,h3,h4,h5,h6,h7,h8,h9,h10,h11,h12⟩:=ih k e2 (Hw st x (pre++a::e2)) (c+1) (by simpa using hm) rfl hnd.1 (by omega) (λu hu=>by
   have:=hr u (by rw[hs3];exact List.mem_append.2 (.inl hu));simpa[Hw] using this) (by
   show (pre++a::e2).length<=da;omega) (by omega) (by show c+1+((pre++a::e2).length:Int)<=4096;omega) (λu hu=>by
   rw[gnn,AT (show u≠x from λe=>hnd.2 (by rw[<-e];exact hu))];exact hn u (by rw[<-acV];exact acC _ hu))
  have hlen:1<=st.gM.length:=by omega
  refine⟨st',by rw[Vp hs3 hrx.1 hrx.2 hb,AT hxa,xQ (by omega) (by omega),h1];simp;omega,h2,h3,h4,h5,h6,by rw[h7];simp[Hw],by rw[h8];simp[Hw],λu hu=>?_,λu hu=>?_,?_,λd hd=>?_⟩
  .by_cases hm2:u∈a::e2
   .exact h9 u hm2
   .have hux:u=x:=by
     simp at hu hm2
     grind
    rw[(h10 u hm2).1,(h10 u hm2).2,gnn,gon,By hux,By hux];exact⟨rfl,rfl⟩
  .have hm2:u∉a::e2:=λh=>hu (by simp at h⊢;grind);have hux:u≠x:=λh=>hu (by simp[h]);rw[(h10 u hm2).1,(h10 u hm2).2,gnn,gon,AT hux,AT hux];exact⟨rfl,rfl⟩
  .have:(Hw st x (pre++a::e2)).nn.count (st.ff.length:Int)=st.nn.count (st.ff.length:Int)+1:=c1;have h11:st'.nn.count (st.ff.length:Int)=(Hw st x (pre++a::e2)).nn.count (st.ff.length:Int)+(e2.length+1):=h11;rw[h11,this,aby,ahX];omega
  .rw[h12 d hd];exact c2 d hd
end
section
variable {N:List aq}{B:Nat}{A V D:Int->Prop}{st st':TS}{a:Int}{pre:ε}
def lw (st:TS)(a v:Int):Prop:=∀l i,gt st.lo a=some l->gt st.ix v=some i->l<=i
structure LI (N:List aq) (A V:Int->Prop) (pre:ε) (a:Int) (D:Int->Prop) (st:TS):Prop where
 j:TJ N (λu=>A u\/u=a) st
 pp:∀g∈pre,gf N g a
 vv:∀u,V u->AV st u
 dd:∀v,D v->AV st v/\(v∈st.gM->lw st a v)
 e:∃ext,st.gM=pre++a::ext/\∀u∈ext,¬V u/\gf N a u/\gf N u a/\∀v,Edge N u v->AV st v/\(v∈st.gM->lw st a v)
def LI.imp {D'}(L:LI N A V pre a D st)(h:∀v,D' v->D v):LI N A V pre a D' st:=⟨L.j,L.pp,L.vv,λv hv=>L.dd v (h v hv),L.e⟩
theorem LI.toA (L:LI N A V pre a D st){g}(hg:g∈st.gM):gf N g a:=by
 obtain⟨ext,hs,he⟩:=L.e;rw[hs] at hg;rcases List.mem_append.1 hg with h|h
 .exact L.pp g h
 .rcases List.mem_cons.1 h with rfl|h
  .exact .refl
  grind
theorem LI.mem (L:LI N A V pre a D st):a∈st.gM:=by
 obtain⟨ext,hs,_⟩:=L.e
 grind
structure VQ (N:List aq) (A:Int->Prop) (a:Int) (st st':TS):Prop where
 j:TJ N A st'
 p:TP st st'
 v:AV st' a
 lo:∀u,AV st u->gt st'.lo u=gt st.lo u
 e:∃e,st'.gM=st.gM++e/\∀u∈e,¬AV st u/\gf N a u/\(∃g∈st.gM,gf N u g)/\∀v,Edge N u v->AV st' v/\(v∈st'.gM->lw st' a v)
 l:∃l,gt st'.lo a=some l/\1<=l/\(a∈st'.gM\/st.next<l)
theorem LI.low (L:LI N A V pre a D st){x w}(hw:1<=w)(h:(∀l,gt st.lo a=some l->l<=w)\/∃g∈st.gM,gt st.ix g=some w/\gf N a g)(hv:AV st x)(hx:x∈st.gM->∀i,gt st.ix x=some i->w<=i) :
  ∃st',LS a w st=some st'/\LI N A V pre a (λv=>D v\/v=x) st'/\TP st st'/\∀u,AV st u->u≠a->gt st'.lo u=gt st.lo u:=by
 obtain⟨i,hi,hi0⟩:=L.j.t.gM a L.mem;obtain⟨la,hla,_,hla2⟩:=L.j.t.low a i hi hi0;obtain⟨yW,e2,j2,p2,s2,x2,lo2,m,hm,hm1,hm2⟩:=ahF L.j L.mem hla hw (h.imp (λq=>q la hla) id);have lwo:∀v,lw st a v->lw yW a v:=λv q l k hl hk=>by
  rw[hm] at hl;cases hl;rw[x2] at hk;have:=q la k hla hk;omega
 have vs:∀v,AV st v->AV yW v:=λv q=>p2.D4 q;obtain⟨ext,hs,he⟩:=L.e;refine⟨yW,e2,⟨j2,L.pp,λu hu=>vs u (L.vv u hu),λv hv2=>?_,ext,by grind,λu hu=>?_⟩,p2,λu _ hu=>lo2 u hu⟩
 .rw[s2];rcases hv2 with h|rfl
  .exact⟨vs v (L.dd v h).1,λq=>lwo v ((L.dd v h).2 q)⟩
  .refine⟨vs v hv,λq l k hl hk=>?_⟩
   grind
 grind
theorem LI.sub (hI:pC N N.length)(L:LI N A V pre a D st){x}(e:Edge N a x){st1}(P:VQ N (λu=>A u\/u=a) x st st1){l}(hl:gt st1.lo x=some l)(h1:1<=l)(hs1:x∈st1.gM\/st.next<l) :
  ∃yW,LS a l st1=some yW/\LI N A V pre a (λv=>D v\/v=x) yW/\TP st yW/\∀u,AV st u->u≠a->gt yW.lo u=gt st.lo u:=by
 obtain⟨ext,hs,he⟩:=L.e;obtain⟨f,hf,hq⟩:=P.e;obtain⟨i,hi,hi0⟩:=L.j.t.gM a L.mem;obtain⟨la,hla,_,hla2⟩:=L.j.t.low a i hi hi0;have hla1:gt st1.lo a=some la:=by rw[P.lo a ⟨i,hi,hi0⟩];exact hla
 have ha1:a∈st1.gM:=by grind
 obtain⟨yW,e2,j2,p2,s2,x2,lo2,m,hm,hm1,hm2⟩:=ahF P.j ha1 hla1 h1 (hs1.elim (λh=>by
  obtain⟨g,q1,q2,q3⟩:=P.j.ls x h l hl;exact .inr ⟨g,q1,q2,(gf.one e).trans q3⟩) λh=>.inl (by have:=L.j.ib a i hi;omega))
 have lwo:∀v,AV st v->lw st a v->lw yW a v:=λv ⟨k,hk,hk0⟩ q l k' hl hk'=>by
  rw[hm] at hl;cases hl;rw[x2,P.p.ix v k hk hk0] at hk';cases hk';have:=q la _ hla hk;omega
 have lwx:∀v,lw st1 x v->lw yW a v:=λv q l' k hl' hk=>by
  rw[hm] at hl';cases hl';rw[x2] at hk;have:=q l k hl hk;omega
 have lA:∀v,AV st v->v∈yW.gM->v∈st.gM:=λv hv h=>by
  grind
 have vs:∀v,AV st v->AV yW v:=λv h=>p2.D4 (P.p.D4 h);have up:∀v,AV st v/\(v∈st.gM->lw st a v)->AV yW v/\(v∈yW.gM->lw yW a v):=λv q=>⟨vs v q.1,λh=>lwo v q.1 (q.2 (lA v q.1 h))⟩;refine⟨yW,e2,⟨j2,L.pp,λu hu=>vs u (L.vv u hu),λv hv=>?_,ext++f,by grind,λu hu=>?_⟩,P.p.trans p2,λu hu hne=>(lo2 u hne).trans (P.lo u hu)⟩
 .rcases hv with h|rfl
  .exact up v (L.dd v h)
  .refine⟨p2.D4 P.v,λ_=>lwx v λl' k hl' hk=>?_⟩;obtain⟨k0,hk0,hk1⟩:=P.v;obtain⟨l2,q1,_,q2⟩:=P.j.t.low v k0 hk0 hk1
   grind
 .rcases List.mem_append.1 hu with hu|hu
  .grind
  .obtain⟨q1,q2,⟨g,q3,q4⟩,q5⟩:=hq u hu;exact⟨λh=>q1 (L.vv u h),(gf.one e).trans q2,q4.trans (L.toA q3),λv e=>⟨p2.D4 (q5 v e).1,λh=>lwx v ((q5 v e).2 (by grind))⟩⟩
theorem LI.pop (L:LI N A (AV st) st.gM a D st')(j:TJ N A st)(h0:gt st.ix a=some 0)(hD:∀v,Edge N a v->D v){ext}(hs:st'.gM=st.gM++a::ext){i}(hl:gt st'.lo a=some i)(hi:gt st'.ix a=some i){st4:TS}
  (g2:st4.gM=st.gM) (g3:st4.ix=st'.ix) (g4:st4.lo=st'.lo) (g5:st4.next=st'.next) (g6:st4.ff=st'.ff) (g7:st4.on.length=st'.on.length) (g8:st4.nn.length=st'.nn.length)
  (g9:∀u,u∈a::ext->gt st4.nn u=some (st'.ff.length:Int)/\gt st4.on u=some false) (g10:∀u,u∉a::ext->gt st4.nn u=gt st'.nn u/\gt st4.on u=gt st'.on u)
  (g11:st4.nn.count (st'.ff.length:Int)=st'.nn.count (st'.ff.length:Int)+(ext.length+1)) (g12:∀d:Nat,d≠st'.ff.length->st4.nn.count (d:Int)=st'.nn.count (d:Int)) :
  TJ N A { st4 with ff:=st4.ff++[0+(ext.length:Int)+1] }:=by
 obtain⟨ext',hs',he⟩:=L.e;rw[hs] at hs';have ee:=List.append_cancel_left hs';cases ee;have J:=L.j;have t3:TI N A st':=J.t.anb λv hv=>(L.dd v (hD v hv)).1;have hnd:=J.t.nd;rw[hs,al6] at hnd;have hpre:∀u∈st.gM,u∉a::ext:=λu h1 h2=>hnd.2.2 u h1 u h2 rfl;have edges:∀u∈a::ext,∀v,Edge N u v->AV st' v/\(v∈st'.gM->lw st' a v):=λu hu v e=>by
  rcases List.mem_cons.1 hu with rfl|hu
  .exact L.dd v (hD v e)
  grind
 have out:∀v,v∈st.gM->¬lw st' a v:=λv hv q=>by
  have hv3:v∈st'.gM:=by grind
  obtain⟨k,hk,_⟩:=J.t.gM v hv3;have h1:=J.lt hs hv IS hk hi;have h2:=q i k hl hk;omega
 have tr:∀u∈a::ext,gf N a u/\gf N u a:=λu hu=>by
  rcases List.mem_cons.1 hu with rfl|hu
  .exact⟨.refl,.refl⟩
  grind
 have mem:∀{c:Int} {u:Int},gt st'.nn u=some c->c<(st'.ff.length:Int):=λh=>J.n4 _ (ax h);have len:(st4.ff++[0+(ext.length:Int)+1]).length=st'.ff.length+1:=by grind
 refine⟨XZ t3 hs g2 g3 g4 g5 g6 g7 g8 (λu hu=>(g9 u hu).1) λu hu=>(g10 u hu).1,λu b hb=>?_,?_,λu k hk=>?_,λu hu l hl'=>?_,λu hu=>?_,λu hv hu=>?_,λu v c hu hv=>?_,λc hc=>?_,λc hc=>?_⟩
 .simp at hb⊢;rw[g2];by_cases hm:u∈a::ext
  .grind
  .rw[(g10 u hm).2] at hb;rw[J.on u b hb,hs,afK]
   grind
 .simp;rw[g2,g3];have:=J.ord
  grind
 .simp at hk⊢;rw[g3] at hk;rw[g5];exact J.ib u k hk
 .simp at hu hl'⊢;rw[g2] at hu⊢;rw[g4] at hl';rw[g3];have hu3:u∈st'.gM:=by grind
  obtain⟨g,q1,q2,q3⟩:=J.ls u hu3 l hl';obtain⟨k,hk,hk0⟩:=J.t.gM u hu3;obtain⟨l2,r1,_,r2⟩:=J.t.low u k hk hk0;rw[hl'] at r1;cases r1;rw[hs] at q1;rcases List.mem_append.1 q1 with q1|q1
  .grind
  .have:=J.lt hs hu q1 hk q2;omega
 .simp at hu⊢;rw[g2,g3] at hu;have hm:u∉a::ext:=λh=>by
   rcases hu with hu|hu
   .grind
   .obtain⟨k,hk,hk0⟩:=J.t.gM u (by grind)
    grind
  rw[(g10 u hm).1];exact J.n0 u (hu.imp (λh=>by grind) id)
 .have hv:AV st' u:=by
   obtain⟨k,hk,hk0⟩:=hv;exact⟨k,by grind,hk0⟩
  simp only at hu⊢;rw[g2] at hu;rw[g2,len];have vis4:∀v,AV st' v->AV { st4 with ff:=st4.ff++[0+(ext.length:Int)+1] } v:=λv ⟨k,hk,hk0⟩=>⟨k,by grind,hk0⟩;by_cases hm:u∈a::ext
  .refine⟨st'.ff.length,(g9 u hm).1,by omega,λv e=>?_⟩;obtain⟨q1,q2⟩:=edges u hm v e;have hvp:v∉st.gM:=λh=>out v h (q2 (by grind));refine⟨vis4 v q1,hvp,?_⟩;by_cases hvm:v∈a::ext
   .grind
   .obtain⟨c,r1,r2,_⟩:=J.n1 v q1 (by grind)
    grind
  .obtain⟨c,r1,r2,r3⟩:=J.n1 u hv (by grind);refine⟨c,by grind,by omega,λv e=>?_⟩;obtain⟨q1,q2,c',q3,q4⟩:=r3 v e
   grind
 .simp at hu hv;have key:∀{u:Int},gt st4.nn u=some (c:Int)->(u∈a::ext/\c=st'.ff.length)\/(gt st'.nn u=some (c:Int)/\c<st'.ff.length):=λ{u} h=>by
   by_cases hm:u∈a::ext
   .grind
   grind
  rcases key hu with⟨h1,h2⟩|⟨h1,h2⟩<;>rcases key hv with⟨h3,h4⟩|⟨h3,h4⟩
  .exact (tr u h1).2.trans (tr v h3).1
  .omega
  .omega
  .exact J.n2 u v c h1 h3
 .simp only at hc⊢;rw[len] at hc;rw[g6];by_cases hcl:c<st'.ff.length
  .rw[ahQ hcl,J.n3 c hcl,g12 c (by omega)]
  .have:c=st'.ff.length:=by omega
   subst this;rw[agj (abi _),amW,g11];have h0:st'.nn.count (st'.ff.length:Int)=0:=List.count_eq_zero.2 λh=>by have:=J.n4 _ h;omega
   grind
 .simp only at hc⊢;rw[len];obtain⟨n,hn⟩:=List.mem_iff_getElem?.1 hc;have hg:gt st4.nn (n:Int)=some c:=by unfold gt;simp_all
  grind
theorem aoM (hI:pC N N.length)(hB:∀x∈N,x.keys.length<=B/\x.items.length<=B)(hb:N.length<=4096)(hnB:N.length<=B):∀k,
  (∀a A st,TJ N A st->IR N.length a->gt st.ix a=some 0->(∀g∈st.gM,gf N g a)->zc st.ix*(2*B+8)<=k->∃st',tv k N a st=some st'/\VQ N A a st st') /\
  (∀xs a A V pre D st,LI N A V pre a D st->(∀x∈xs,Edge N a x)->xs.length+2+zc st.ix*(2*B+8)<=k->∃st',tl k N a xs st=some st'/\LI N A V pre a (λv=>D v\/v∈xs) st'/\TP st st'/\∀u,AV st u->u≠a->gt st'.lo u=gt st.lo u) /\
  (∀x a A V pre D st,LI N A V pre a D st->Edge N a x->1+zc st.ix*(2*B+8)<=k->∃st',ts k N a x st=some st'/\LI N A V pre a (λv=>D v\/v=x) st'/\TP st st'/\∀u,AV st u->u≠a->gt st'.lo u=gt st.lo u):=by
 intro k
 induction k with
 |zero=>
  refine⟨λa A st t ha h0 _ hk=>?_,λxs a A V pre D st _ _ hk=>by omega,λx a A V pre D st _ _ hk=>by omega⟩;have hz:1<=zc st.ix:=List.count_pos_iff.2 (IN (aB h0).2)
  grind
 |succ k ih=>
  refine⟨λa A st j ha h0 hP hk=>?_,λxs a A V pre D st L hx hk=>?_,λx a A V pre D st L e hk=>?_⟩
  .obtain⟨st1,e1,j1,p1,s1,z1,i1,n1,k1⟩:=ak9 j ha h0 hb;rw[tv,e1];obtain⟨x,hx⟩:=fj rfl ha;simp only[hx];have hxm:=ax hx;have hbx:=hB x hxm;have hmul:zc st1.ix*(2*B+8)+(2*B+8)=zc st.ix*(2*B+8):=by rw[<-z1,ale,aoy]
   have L1:LI N A (AV st) st.gM a (λ_=>False) st1:=⟨j1,hP,λu hu=>p1.D4 hu,λ_ h=>h.elim,[],s1,λu hu=>by cases hu⟩;obtain⟨yW,e2,L2,p2,k2⟩:=ih.2.1 x.keys a _ _ _ _ st1 L1 (λy hy=>⟨x,hx,.inl hy⟩) (by omega);have hm2:=ag8 (2*B+8) p2.z;obtain⟨st3,e3,L3,p3,k3⟩:=ih.2.1 x.items a _ _ _ _ yW L2 (λy hy=>⟨x,hx,.inr hy⟩) (by omega);rw[e2];simp only[e3];have p13:=p1.trans (p2.trans p3);have nva:¬AV st a:=λ⟨i,hi,hi0⟩=>by rw[h0] at hi;cases hi;exact hi0 rfl
   have klo:∀u,AV st u->gt st3.lo u=gt st.lo u:=λu hu=>by
    have hne:u≠a:=λe=>nva (e▸hu);rw[k3 u (p2.D4 (p1.D4 hu)) hne,k2 u (p1.D4 hu) hne,(k1 u hne).2]
   have nx0:0<=st.next:=by rw[j.t.nx];omega
   have i3:gt st3.ix a=some st1.next:=p3.ix _ _ (p2.ix _ _ i1 (by omega)) (by omega)
   obtain⟨l,hl,hl1,hl2⟩:=L3.j.t.low a _ i3 (by omega);rw[hl,i3];simp only;have hD:∀v,Edge N a v->((False\/v∈x.keys)\/v∈x.items):=λv ⟨y,hy,hv⟩=>by
    grind
   obtain⟨ext,hs3,he⟩:=id L3.e;by_cases hne:l≠st1.next
   .rw[By hne];have t3:TI N A st3:=L3.j.t.anb λv hv=>(L3.dd v (hD v hv)).1;obtain⟨g,q1,q2,q3⟩:=L3.j.ls a L3.mem l hl;have hg:g∈st.gM:=by
     rw[hs3] at q1;rcases List.mem_append.1 q1 with h|h
     .exact h
     .exfalso;rcases List.mem_cons.1 h with rfl|h
      .grind
      .have:=L3.j.lt (X:=st.gM++[a]) (by rw[hs3];simp) (by simp) h i3 q2;omega
    exact⟨st3,rfl,{ L3.j with t:=t3 },p13,⟨_,i3,by omega⟩,klo,⟨a::ext,hs3,λu hu=>by
     rcases List.mem_cons.1 hu with rfl|hu
     .exact⟨nva,.refl,⟨g,hg,q3⟩,λv e=>L3.dd v (hD v e)⟩
     .obtain⟨h1,h2,h3,h4⟩:=he u hu;exact⟨h1,h2,⟨g,hg,h3.trans q3⟩,h4⟩⟩,l,hl,hl1,.inl L3.mem⟩
   .rw[AT hne];have hli:l=st1.next:=Classical.not_not.1 hne
    subst hli;have hnd:=L3.j.t.nd;rw[hs3,al6] at hnd;have hct:=L3.j.t.gC;have hlen:st3.gM.length<=N.length:=(by omega);have hz:1<=zc st.ix:=List.count_pos_iff.2 (IN (aB h0).2);have hz2:=ag8 (2*B+8) hz;have hle:ext.length+1<=N.length:=(by grind);obtain⟨st4,e4,g2,g3,g4,g5,g6,g7,g8,g9,g10,g11,g12⟩:=aoL ext.length k ext st3 0 rfl hs3 hnd.2.1 (by omega) (λu hu=>by
     obtain⟨i,hi,_⟩:=L3.j.t.gM u hu;have:=nF hi;rw[L3.j.t.lix] at this;rw[L3.j.t.lon,L3.j.t.lnn];exact⟨this,this⟩) (by unfold da;omega) (by omega) (by omega) (λu hu=>L3.j.n0 u (.inl (by rw[hs3];exact OF _ hu)))
    rw[e4];simp only;rw[By (by rw[g6];unfold da;omega)];exact⟨_,rfl,L3.pop j h0 hD hs3 hl i3 g2 g3 g4 g5 g6 g7 g8 g9 g10 g11 g12,⟨λu i hi hi0=>by simp;rw[g3];exact p13.ix u i hi hi0,⟨[],by simp only;rw[g2];simp⟩,by simp only;rw[g6];have:=p13.ff;simp;omega,by simp;rw[g3];exact p13.z⟩,
     ⟨_,by simp only;rw[g3];exact i3,by omega⟩,λu hu=>by simp;rw[g4];exact klo u hu,⟨[],by simp only;rw[g2];simp,λu hu=>by cases hu⟩,_,by simp;rw[g4];exact hl,hl1,.inr n1⟩
  .cases xs with
   |nil=>exact⟨st,rfl,L.imp (λv h=>h.elim id λh=>by cases h),TP.refl st,λ_ _ _=>rfl⟩
   |cons x xs=>
    rw[abK] at hk;rw[tl];obtain⟨st1,e1,L1,p1,k1⟩:=ih.2.2 x a _ _ _ _ st L (hx x IS) (by omega);have hm1:=ag8 (2*B+8) p1.z;obtain⟨yW,e2,L2,p2,k2⟩:=ih.2.1 xs a _ _ _ _ st1 L1 (λy hy=>hx y (BY _ hy)) (by omega);rw[e1];exact⟨yW,e2,L2.imp (λv h=>h.elim (λh=>.inl (.inl h)) λh=>(List.mem_cons.1 h).elim (λh=>.inl (.inr h)) .inr),p1.trans p2,λu hu hne=>(k2 u (p1.D4 hu) hne).trans (k1 u hu hne)⟩
  .rw[ts];have hxr:IR N.length x:=hI.Gi e;obtain⟨i,hi⟩:=fj L.j.t.lix hxr;rw[hi];simp only;by_cases h0:i=0
   .subst h0;rw[By rfl];obtain⟨st1,e1,P⟩:=ih.1 x _ st L.j hxr hi (λg hg=>(L.toA hg).step e) (by omega);rw[e1];obtain⟨l,hl,hl1,hl2⟩:=P.l;simp only[hl];exact L.sub hI e P hl hl1 hl2
   .rw[AT h0];obtain⟨b,hb2⟩:=fj L.j.t.lon hxr;rw[hb2];have hv:AV st x:=⟨i,hi,h0⟩;cases b with
    |false=>
     have hns:x∉st.gM:=λh=>(by have:=(L.j.on x false hb2).2 h;grind);exact⟨st,rfl,⟨L.j,L.pp,L.vv,λv h=>h.elim (L.dd v) λh=>by grind,L.e⟩,TP.refl st,λ_ _ _=>rfl⟩
    |true=>
     have hp:=L.j.t.pos x i hi;exact L.low (by omega) (.inr ⟨x,(L.j.on x true hb2).1 rfl,hi,.one e⟩) hv λ_ k hk=>by grind
end
section
variable {N:List aq}{B:Nat}{root:Int}{nn ff b b':ε}
structure CO (N:List aq) (nn ff:ε):Prop where
 ln:nn.length=N.length
 lz:ff.length<=N.length
 c4:∀v,IR N.length v->∃c:Nat,gt nn v=some (c:Int)/\c<ff.length
 c2:∀u v cu cv,Edge N u v->gt nn u=some cu->gt nn v=some cv->cv<=cu
 c1:∀u v (c:Nat),gt nn u=some (c:Int)->gt nn v=some (c:Int)->gf N u v
 c3:∀c,c<ff.length->ff[c]?=some ((nn.count (c:Int):Nat):Int)
def Wk.Q6 {s}{v}(w:Wk N root s v):gf N root v:=by
 induction w with
 |root=>exact .refl
 |step _ e ih=>exact ih.step e
theorem ala (hI:pC N N.length)(hr:IR N.length root)(hB:∀x∈N,x.keys.length<=B/\x.items.length<=B)(hb:N.length<=4096)(hnB:N.length<=B)(hall:∀v,IR N.length v->gf N root v){k}(hk:N.length*(2*B+8)<=k) :
  ∃nn ff,comp k N root=some (nn,ff)/\CO N nn ff:=by
 have hz:zc (na N.length).ix=N.length:=by unfold na zc;simp
 have h0:gt (na N.length).ix root=some 0:=by
  obtain⟨x,hx⟩:=fj (l:=(na N.length).ix) (by simp[na]) hr;rw[hx,wP hx]
 have z0:∀u i,gt (na N.length).ix u=some i->i=0:=λu i h=>wP h;have j0:TJ N (λ_=>False) (na N.length):=⟨afv,λu b h=>by grind [wP,na],List.Pairwise.nil,λu i h=>by rw[z0 u i h];exact akz _,λu h=>(by cases h),λu h=>by
   rcases h with h|h
   .cases h
   .have hu:IR N.length u:=(by have:=nF h;grind [na]);obtain⟨c,hc⟩:=fj (l:=(na N.length).nn) (by simp[na]) hu;rw[hc,wP hc],λu ⟨i,h,h1⟩=>absurd (z0 u i h) h1,λu v c h _=>by have:=wP h;omega,λc hc=>by grind [na],λc hc=>by
   have:=amk hc
   grind⟩
 obtain⟨st,e,P⟩:=(aoM hI hB hb hnB k).1 root _ _ j0 hr h0 (λg hg=>by cases hg) (by grind);have hst:st.gM=[]:=by
  obtain⟨f,hf,hq⟩:=P.e;rw[hf];cases f with
  |nil=>rfl
  |cons u f=>obtain⟨_,_,⟨g,hg,_⟩,_⟩:=hq u IS;cases hg
 have ns:∀u:Int,u∉st.gM:=λu h=>by grind
 have hvis:∀v,gf N root v->AV st v:=λv w=>by
  induction w with
  |refl=>exact P.v
  |step _ e ih=>
   obtain⟨c,_,_,h⟩:=P.j.n1 _ ih (ns _)
   grind
 have one:∀v,IR N.length v->_:=λv hv=>P.j.n1 v (hvis v (hall v hv)) (ns v);refine⟨st.nn,st.ff,by grind [comp],P.j.t.lnn,by have:=P.j.t.gC;omega,λv hv=>?_,λu v cu cv ed h1 h2=>?_,P.j.n2,P.j.n3⟩
 .grind
 .have hu:IR N.length u:=by have:=nF h1;rw[P.j.t.lnn] at this;grind
  grind
theorem CO.le (C:CO N nn ff){u v}(h:gf N u v){cu cv}(hu:gt nn u=some cu)(hv:gt nn v=some cv)(hI:pC N N.length):cv<=cu:=by
 induction h generalizing cv with
 |refl=>grind
 |step r e ih=>
  rename_i x y;have hx:IR N.length x:=by obtain⟨n,hn,_⟩:=e;exact nF hn
  obtain⟨c,hc,_⟩:=C.c4 x hx;have:=ih hc;have:=C.c2 _ _ _ _ e hc hv;omega
structure RS (nn b:ε) (c:Int) (T:Int->Prop) (m:Int) (a:Bool) (m':Int) (a':Bool):Prop where
 le:m<=m'
 ub:∀x,T x->∀d q,gt nn x=some d->d≠c->gt b d=some q->q<=m'
 lb:m'=m\/∃x d,T x/\gt nn x=some d/\d≠c/\gt b d=some m'
 fl:a'=true↔a=true/\∀x,T x->gt nn x≠some c
theorem RS.cat {c}{T U}{m m1 m2}{a a1 a2}(h:RS nn b c T m a m1 a1)(h':RS nn b c U m1 a1 m2 a2):RS nn b c (λx=>T x\/U x) m a m2 a2:=by
 refine⟨an0 h.le h'.le,λx hx d q h1 h2 h3=>?_,?_,?_⟩
 .rcases hx with hx|hx
  .exact an0 (h.ub x hx d q h1 h2 h3) h'.le
  .exact h'.ub x hx d q h1 h2 h3
 .rcases h'.lb with e|⟨x,d,q1,q2⟩
  .subst e;rcases h.lb with e|⟨x,d,q1,q2⟩
   .grind
   grind
  grind
 .rw[h'.fl,h.fl]
  grind
theorem RS.Tk {c}{T}{m m' w}{a a'}(hc:IR b.length c)(h:RS nn (b.set c.toNat w) c T m a m' a'):RS nn b c T m a m' a':=by
 have g:∀d,d≠c->gt (b.set c.toNat w) d=gt b d:=λd hd=>by rw[gH hc,AT hd]
 refine⟨h.le,λx hx d q h1 h2 h3=>h.ub x hx d q h1 h2 (by grind),h.lb.imp id λ⟨x,d,q1,q2,q3,q4⟩=>⟨x,d,q1,q2,q3,by grind⟩,h.fl⟩
theorem RS.imp {c}{T U}{m m'}{a a'}(h:RS nn b c T m a m' a')(hu:∀x,T x↔U x):RS nn b c U m a m' a':=by
 have:T=U:=funext λx=>propext (hu x)
 grind
theorem sV {c m}(h:gt b c=some m):b.set c.toNat m=b:=by
 obtain⟨h1,h2⟩:=aB h
 grind [List.getElem?_eq_some_iff,List.set_getElem_self]
theorem Vr {c}:∀{xs b} {a} {m},(∀x∈xs,∃d,gt nn x=some d/\IR b.length d)->gt b c=some m->∃m' a',dR nn c xs b a=some (b.set c.toNat m',a')/\RS nn b c (·∈xs) m a m' a'
 |[],b,a,m,_,h=>⟨m,a,by rw[sV h];rfl,akz _,λx hx=>(by cases hx),.inl rfl,by simp⟩
 |x::xs,b,a,m,hx,h=>by
  obtain⟨d,hd,hdr⟩:=hx x IS;have hc:=nF h;rw[dR,hd];simp only;by_cases e:d=c
  .rw[By e];subst e;obtain⟨m',a',e1,r⟩:=Vr (a:=false) (λy hy=>hx y (BY _ hy)) h;refine⟨m',a',e1,r.le,λy hy d q h1 h2 h3=>?_,r.lb.imp id λ⟨y,d,q1,q2⟩=>⟨y,d,BY _ q1,q2⟩,?_⟩
   .rcases List.mem_cons.1 hy with rfl|hy
    .grind
    .exact r.ub y hy d q h1 h2 h3
   .rw[r.fl]
    grind
  .rw[AT e];obtain⟨q,hq⟩:=fj rfl hdr;rw[h,hq];simp only;have hg:gt (b.set c.toNat (mx m q)) c=some (mx m q):=by rw[gH hc,By rfl]
   obtain⟨m',a',e1,r⟩:=Vr (a:=a) (λy hy=>by
    obtain⟨d,h1,h2⟩:=hx y (BY _ hy)
    grind) hg
   rw[apG] at e1;have r:=r.Tk hc;have m1:m<=mx m q/\q<=mx m q/\(mx m q=m\/mx m q=q):=by grind [mx]
   have r0:RS nn b c (·=x) m a (mx m q) a:=⟨m1.1,λy hy d' q' h1 h2 h3=>by
    grind,m1.2.2.imp id λe'=>⟨x,d,rfl,hd,e,by grind⟩,⟨λh=>⟨h,λy hy=>by grind⟩,λh=>h.1⟩⟩
   exact⟨m',a',e1,(r0.cat r).imp λy=>by simp⟩
theorem ahG (hI:pC N N.length){p}(hN:ak8 nn N.length p){c}:∀{xs b} {a} {m},(∀v∈xs,IR N.length v)->b.length=p->gt b c=some m ->
  ∃m' a',dM N nn c xs b a=some (b.set c.toNat m',a')/\RS nn b c (λx=>∃i∈xs,Edge N i x) m a m' a'
 |[],b,a,m,_,_,h=>⟨m,a,by rw[sV h];rfl,akz _,λx ⟨i,hi,_⟩=>(by cases hi),.inl rfl,by simp⟩
 |i::xs,b,a,m,hx,hb,h=>by
  obtain⟨y,hy⟩:=fj rfl (hx i IS);have hc:=nF h;have nk:∀l:ε,(∀v∈l,IR N.length v)->∀(b:ε),b.length=p->∀x∈l,∃d,gt nn x=some d/\IR b.length d:=λl hl b hb x hx=>by
   obtain⟨d,h1,h2,h3⟩:=hN x (hl x hx);exact⟨d,h1,h2,by omega⟩
  obtain⟨m1,a1,e1,r1⟩:=Vr (a:=a) (nk y.keys (hI y (ax hy)).1 b hb) h;have hg1:gt (b.set c.toNat m1) c=some m1:=by rw[gH hc,By rfl]
  obtain⟨m2,a2,e2,r2⟩:=Vr (a:=a1) (nk y.items (hI y (ax hy)).2 (b.set c.toNat m1) (by grind)) hg1;rw[apG] at e2;have hg2:gt (b.set c.toNat m2) c=some m2:=by rw[gH hc,By rfl]
  obtain⟨m3,a3,e3,r3⟩:=ahG hI hN (a:=a2) (λv hv=>hx v (BY _ hv)) (by grind) hg2;rw[apG] at e3;rw[dM,hy];simp only[e1,e2];refine⟨m3,a3,e3,((r1.cat (r2.Tk hc)).cat (r3.Tk hc)).imp λx=>?_⟩;constructor
  .rintro ((h|h)|⟨j,h1,h2⟩)
   .exact⟨i,IS,y,hy,.inl h⟩
   .exact⟨i,IS,y,hy,.inr h⟩
   grind
  .rintro⟨j,h1,z,h2,h3⟩;rcases List.mem_cons.1 h1 with rfl|h1
   .grind
   .exact .inr ⟨j,h1,z,h2,h3⟩
end
section
variable {N:List aq}{B p:Nat}{root:Int}{nn ff b b':ε}
theorem ahH:∀{cs} {i} {X Y},mem i cs X=some Y->∀c ys,gt Y c=some ys->∃xs,gt X c=some xs/\∀v,v∈ys↔v∈xs\/∃j:Nat,v=((i+j:Nat):Int)/\cs[j]?=some c
 |[],i,X,Y,h,c,ys,hc=>by cases h;grind
 |c0::cs,i,X,Y,h,c,ys,hc=>by
  rw[mem] at h;cases hx:gt X c0 with
  |none=>grind
  |some x0=>
   rw[hx] at h;obtain⟨xs,h1,h2⟩:=ahH h c ys hc;rw[gH (nF hx)] at h1;have tail:∀v,(∃j:Nat,v=((i+1+j:Nat):Int)/\cs[j]?=some c)↔∃j:Nat,v=((i+(j+1):Nat):Int)/\(c0::cs)[j+1]?=some c:=λv=>by
    grind
   split at h1
   .rename_i e;subst e;cases h1;refine⟨x0,hx,λv=>?_⟩;rw[h2,afK,ac1,tail];constructor
    .grind
    .rintro (q|⟨j,q1,q2⟩)
     .grind
     .cases j with
      |zero=>grind
      |succ j=>grind
   .rename_i e;refine⟨xs,h1,λv=>?_⟩;rw[h2,tail];constructor
    .grind
    .rintro (q|⟨j,q1,q2⟩)
     .grind
     .cases j with
      |zero=>grind
      |succ j=>grind
theorem RS.congr {c}{T}{m m'}{a a'}(h:RS nn b c T m a m' a')(e:∀x d,T x->gt nn x=some d->d≠c->gt b' d=gt b d):RS nn b' c T m a m' a':=
 ⟨h.le,λx hx d q h1 h2 h3=>h.ub x hx d q h1 h2 (by grind),h.lb.imp id λ⟨x,d,q1,q2,q3,q4⟩=>⟨x,d,q1,q2,q3,by grind⟩,h.fl⟩
def BO (N:List aq)(nn b:ε)(d sz:Int):Prop:=∃m a a',gt b d=some (m+sz)/\RS nn b d (λx=>∃i,gt nn i=some d/\Edge N i x) 0 a m a'
theorem anc (hI:pC N N.length)(hN:ak8 nn N.length p)(hl:nn.length=N.length)(hp:p<=4096)(c2:∀u v cu cv,Edge N u v->gt nn u=some cu->gt nn v=some cv->cv<=cu) :
  ∀r c b a ,c+r.length=p->b.length=p->(∀j xs sz,r[j]?=some (xs,sz)->(∀v,v∈xs↔gt nn v=some ((c+j:Nat):Int))/\0<=sz/\sz<=4096)->(∀d:Nat,c<=d->d<p->gt b (d:Int)=some 0)->(∀d v,gt b d=some v->0<=v/\v<=4096*(c:Int)) ->
   ∃b' a',dC N nn c r b a=some (b',a')/\b'.length=p/\(∀d:Nat,d<c->gt b' (d:Int)=gt b (d:Int))/\(∀j xs sz,r[j]?=some (xs,sz)->BO N nn b' ((c+j:Nat):Int) sz)/\(∀d v,gt b' d=some v->0<=v/\v<=4096*(p:Int)) /\
    (a'=true↔a=true/\∀i x ci,Edge N i x->gt nn i=some ci->(c:Int)<=ci->gt nn x≠some ci)
 |[],c,b,a,hc,hb,_,_,hv=>by
  have:c=p:=by grind
  subst this;refine⟨b,a,rfl,hb,λ_ _=>rfl,λj xs sz h=>by simp at h,hv,⟨λh=>⟨h,λi x ci e h1 h2=>?_⟩,λh=>h.1⟩⟩;exfalso;have hi:IR N.length i:=by grind [nF]
  obtain⟨c',q1,q2,q3⟩:=hN i hi
  grind
 |(xs,sz)::r,c,b,a,hc,hb,hr,hz,hv=>by
  rw[abK] at hc;obtain⟨hx,hs1,hs2⟩:=hr 0 xs sz rfl;rw[ak4] at hx;have hc0:=hz c (abi _) (by omega);have hcr:IR b.length (c:Int):=nF hc0;have ct:((c:Int)).toNat=c:=aba c;have low:∀i x d,gt nn i=some (c:Int)->Edge N i x->gt nn x=some d->d≠(c:Int)->∃d':Nat,d=(d':Int)/\d'<c:=λi x d h1 e h2 h3=>by
   have h4:=c2 i x _ _ e h1 h2;obtain⟨c',q1,q2,q3⟩:=hN x (hI.Gi e);rw[h2] at q1;cases q1;exact⟨d.toNat,by omega,by omega⟩
  obtain⟨m1,a1,e1,r1⟩:=ahG hI hN (a:=a) (λv hv=>by have:=nF ((hx v).1 hv);grind) hb hc0;rw[ct] at e1;have r1:=r1.imp (U:=λx=>∃i,gt nn i=some (c:Int)/\Edge N i x) λx=>⟨λ⟨i,h1,h2⟩=>⟨i,(hx i).1 h1,h2⟩,λ⟨i,h1,h2⟩=>⟨i,(hx i).2 h1,h2⟩⟩;have hm1:m1<=4096*(c:Int):=by
   rcases r1.lb with e|⟨x,d,_,_,_,h⟩
   .omega
   grind
  have hm0:=r1.le;have hsm:∀v:Int,gt (b.set c v) (c:Int)=some v:=λv=>by have:=gH (x:=v) (u:=(c:Int)) hcr;grind
  have hso:∀(v d:Int),d≠(c:Int)->gt (b.set c v) d=gt b d:=λv d hd=>by have:=gH (x:=v) (u:=d) hcr;grind
  rw[dC,e1];simp only[hsm,apG];rw[xQ (by omega) (by omega)];obtain⟨b',a',e2,l2,k2,o2,v2,f2⟩:=anc hI hN hl hp c2 r (c+1) (b.set c (m1+sz)) a1 (by omega) (by simpa using hb) (λj xs' sz' h=>by
   have:=hr (j+1) xs' sz' (by simpa using h)
   grind) (λd h1 h2=>by grind) (λd v h=>by
   grind)
  have hbc:gt b' (c:Int)=some (m1+sz):=by rw[k2 c (by omega),hsm]
  refine⟨b',a',e2,l2,λd hd=>by rw[k2 d (by omega),hso _ _ (by omega)],λj xs' sz' h=>?_,v2,?_⟩
  .cases j with
   |zero=>
    simp at h;obtain⟨rfl,rfl⟩:=h;refine⟨m1,a,a1,hbc,r1.congr λx d ⟨i,q1,q2⟩ q3 q4=>?_⟩;obtain⟨d',rfl,q5⟩:=low i x d q1 q2 q3 q4;rw[k2 d' (by omega),hso _ _ q4]
   |succ j=>
    grind
  .rw[f2,r1.fl];constructor
   .rintro⟨⟨h1,h2⟩,h3⟩;refine⟨h1,λi x ci e q1 q2 q3=>?_⟩;by_cases hcc:ci=(c:Int)
    .subst hcc;exact h2 x ⟨i,q1,e⟩ q3
    .exact h3 i x ci e q1 (by omega) q3
   .rintro⟨h1,h2⟩;exact⟨⟨h1,λx ⟨i,q1,q2⟩=>h2 i x _ q2 q1 (by omega)⟩,λi x ci e q1 q2=>h2 i x ci e q1 (by omega)⟩
theorem count_range:∀(l:ε) c ,l.count c=(List.range l.length).countP λi=>decide (l[i]?=some c)
 |[],c=>rfl
 |a::l,c=>by
  rw[abK,apO,List.countP_cons,List.countP_map,agw,count_range l c];have e:((λi=>decide ((a::l)[i]?=some c))∘Nat.succ)=λi=>decide (l[i]?=some c):=by grind
  grind
noncomputable def wt (N:List aq)(u:Int):Int:=open Classical in (((List.range N.length).countP λi:Nat=>decide (gf N u (i:Int)/\gf N (i:Int) u):Nat):Int)
def DF (N:List aq)(f:Int->Int):Prop:=∀u,IR N.length u->wt N u<=f u/\∀v,gf N u v->f v<=f u/\(¬gf N v u->wt N u+f v<=f u)
theorem CO.iff (C:CO N nn ff)(hI:pC N N.length){u v}{c:Nat}(hu:gt nn u=some (c:Int))(hv:IR N.length v):gt nn v=some (c:Int)↔gf N u v/\gf N v u:=by
 constructor
 .intro h;exact⟨C.c1 u v c hu h,C.c1 v u c h hu⟩
 .rintro⟨h1,h2⟩;obtain⟨c',q,_⟩:=C.c4 v hv;have a1:=C.le h1 hu q hI;have a2:=C.le h2 q hu hI
  grind
theorem CO.wt (C:CO N nn ff)(hI:pC N N.length){u}{c:Nat}(hu:gt nn u=some (c:Int)):((nn.count (c:Int):Nat):Int)=wt N u:=by
 unfold Sh.wt;rw[count_range,C.ln]
 congr 1
 refine List.countP_congr λi hi=>?_;have hi:=List.mem_range.1 hi;have e:nn[i]?=gt nn (i:Int):=by grind [gt]
 rw[e];have:=C.iff hI hu (v:=(i:Int)) ⟨by omega,by omega⟩
 grind
def gf.ir (hI:pC N N.length){u v}(h:gf N u v)(hu:IR N.length u):IR N.length v:=by
 cases h with
 |refl=>exact hu
 |step _ e=>exact hI.Gi e
theorem ahI (hI:pC N N.length)(hr:IR N.length root)(hB:∀x∈N,x.keys.length<=B/\x.items.length<=B)(hb:N.length<=4096)(hnB:N.length<=B)(hall:∀v,IR N.length v->gf N root v){k}(hk:N.length*(2*B+8)<=k) :
  ∃d a,dep k N root=some (d,a)/\(∀m,d<=m↔∃f,DF N f/\f root<=m+1)/\(a=true↔∀u v,Edge N u v->¬gf N v u):=by
 obtain⟨nn,ff,e,C⟩:=ala hI hr hB hb hnB hall hk;have hN:ak8 nn N.length ff.length:=λv hv=>by
  obtain⟨c,h1,h2⟩:=C.c4 v hv
  grind
 unfold dep;rw[e];simp only;rw[By C.lz];obtain⟨X,eX,l1,_⟩:=Vq (n:=N.length) (p:=ff.length) (cs:=nn) (i:=0) (X:=List.replicate ff.length []) (by simp) (λc hc=>by
  obtain⟨i,hi⟩:=List.mem_iff_getElem?.1 hc;have hlt:=(List.getElem?_eq_some_iff.1 hi).1;have hln:=C.ln;obtain⟨d,hd,g1,g2⟩:=hN (i:Int) ⟨by omega,by omega⟩;unfold gt at hd;rw[By (by omega),aba,hi] at hd;cases hd;exact⟨g1,g2⟩) (by have:=C.ln;omega) (λxs hxs v hv=>by grind)
 rw[eX];have hX:∀(c:Nat) xs,X[c]?=some xs->∀v,v∈xs↔gt nn v=some (c:Int):=λc xs h v=>by
  obtain⟨ys,h1,h2⟩:=ahH eX (c:Int) xs (by grind [gt]);rw[h2,wP h1];constructor
  .grind [gt]
  .intro q;obtain⟨q1,q2⟩:=aB q
   grind
 have hzip:∀(j:Nat) xs sz,(X.zip ff)[j]?=some (xs,sz)->X[j]?=some xs/\ff[j]?=some sz:=λj xs sz h=>List.getElem?_zip_eq_some.1 h;have hcl:∀c:Int,nn.count c<=4096:=λc=>acY (apf) (by rw[C.ln];exact hb);obtain⟨b,a,eb,lb,_,ob,vb,fb⟩:=anc hI hN C.ln (acY C.lz hb) C.c2 (X.zip ff) 0 (List.replicate ff.length 0) true (by grind) (by simp) (λj xs sz h=>by
  obtain⟨h1,h2⟩:=hzip j xs sz h;rw[adr];rw[C.c3 j (aJ h2)] at h2
  grind) (λd _ hd=>by
  obtain⟨x,hx⟩:=fj (l:=List.replicate ff.length (0:Int)) (n:=ff.length) (by simp) (v:=(d:Int)) ⟨by omega,by omega⟩;rw[hx,wP hx]) (λd v h=>by grind [wP])
 simp only[eb];have ir1:∀{u:Int} {c:Int},gt nn u=some c->IR N.length u:=λh=>by have:=nF h;rw[C.ln] at this;grind
 have val:∀u (c:Nat),gt nn u=some (c:Int)->∃m a a',gt b (c:Int)=some (m+wt N u)/\RS nn b (c:Int) (λx=>∃i,gt nn i=some (c:Int)/\Edge N i x) 0 a m a':=λu c h=>by
  obtain⟨c',q1,q2⟩:=C.c4 u (ir1 h);rw[h] at q1;have:c=c':=by grind
  subst this;obtain⟨xs,hxs⟩:=eC (l:=X) (i:=c) (by omega);have:=ob c xs _ (List.getElem?_zip_eq_some.2 ⟨hxs,C.c3 c q2⟩);rw[adr] at this;obtain⟨m,a,a',h1,h2⟩:=this;exact⟨m,a,a',h1.trans (alZ (λz=>some (m+z)) (C.wt hI h)),h2⟩
 obtain⟨cr,hcr,hcl2⟩:=C.c4 root hr;obtain⟨m0,_,_,hv,_⟩:=val root cr hcr;rw[hcr];simp only[hv];have hvb:=vb _ _ hv;have hlz:=C.lz;rw[xQ (by omega) (by omega)]
 let F:Int->Int:=λu=>((gt nn u).bind (gt b)).getD 0
 have hF:∀u c v,gt nn u=some c->gt b c=some v->F u=v:=λu c v h1 h2=>by grind
 have Gi:∀u v,Edge N u v->F v<=F u/\(¬gf N v u->wt N u+F v<=F u):=λu v ed=>by
  have hu:IR N.length u:=by obtain⟨x,hx,_⟩:=ed;exact nF hx
  have hvr:=hI.Gi ed;obtain⟨cu,h1,_⟩:=C.c4 u hu;obtain⟨cv,h2,_⟩:=C.c4 v hvr;obtain⟨m,_,_,h3,h4⟩:=val u cu h1;obtain⟨mv,_,_,h5,_⟩:=val v cv h2;have e1:=hF u _ _ h1 h3;have e2:=hF v _ _ h2 h5;have hm:=h4.le;by_cases hq:(cv:Int)=cu
  .have:gf N v u:=C.c1 v u cv h2 (by grind)
   grind
  .have:=h4.ub v ⟨u,h1,ed⟩ _ _ h2 hq h5;have w0:0<=wt N u:=by unfold wt;omega
   exact⟨by omega,λ_=>by omega⟩
 have mono:∀u v,gf N u v->F v<=F u:=λu v h=>by
  induction h with
  |refl=>grind
  |step _ e ih=>exact an0 (Gi _ _ e).1 ih
 have dfF:DF N F:=λu hu=>by
  obtain⟨cu,h1,_⟩:=C.c4 u hu;obtain⟨m,_,_,h3,h4⟩:=val u cu h1;have e1:=hF u _ _ h1 h3;have hm:=h4.le;refine⟨by omega,λv h=>⟨mono u v h,λhn=>?_⟩⟩
  induction h with
  |refl=>exact absurd .refl hn
  |step r e ih=>
   rename_i x y;by_cases hx:gf N x u
   .have hyx:¬gf N y x:=λq=>hn (q.trans hx);have h5:=(Gi x y e).2 hyx;have h6:=mono x u hx;have h7:=mono u x r;have hxr:IR N.length x:=r.ir hI hu;obtain⟨cx,g1,_⟩:=C.c4 x hxr;have:gt nn u=some (cx:Int):=(C.iff hI g1 hu).2 ⟨hx,r⟩;have w1:=C.wt hI g1;have w2:=C.wt hI this;omega
   grind
 have least:∀f,DF N f->∀(c:Nat) u,gt nn u=some (c:Int)->F u<=f u:=λf hf c=>by
  induction c using Nat.strongRecOn with
  |_ c ih=>
   intro u h1;have hu:=ir1 h1;obtain⟨m,_,_,h3,h4⟩:=val u c h1;rw[hF u _ _ h1 h3];rcases h4.lb with h|⟨x,d,⟨i,q1,q2⟩,q3,q4,q5⟩
   .subst h;have:=(hf u hu).1;omega
   .have hx:=hI.Gi q2;obtain⟨cx,g1,_⟩:=C.c4 x hx;rw[g1] at q3;cases q3;have hle:=C.c2 i x _ _ q2 q1 g1;have h5:=ih cx (by omega) x g1;rw[hF x _ _ g1 q5] at h5;have h6:=((hf u hu).2 x ((C.c1 u i c h1 q1).step q2)).2 λh=>q4 (by
     have:=C.le h g1 h1 hI;omega)
    omega
 have eF:F root=m0+wt N root:=hF root _ _ hcr hv;refine⟨_,_,rfl,λm=>⟨λh=>⟨F,dfF,by omega⟩,λ⟨f,h1,h2⟩=>by have:=least f h1 cr root hcr;omega⟩,?_⟩;rw[fb];constructor
 .intro h u v ed q;have hu:IR N.length u:=by obtain⟨x,hx,_⟩:=ed;exact nF hx
  obtain⟨cu,h1,_⟩:=C.c4 u hu;exact h.2 u v _ ed h1 (by omega) ((C.iff hI h1 (hI.Gi ed)).2 ⟨.one ed,q⟩)
 .intro h;refine⟨rfl,λu v cu ed h1 _ h2=>?_⟩;obtain⟨c,q1,_⟩:=C.c4 u (ir1 h1);rw[h1] at q1;cases q1;exact h u v ed (C.c1 v u c h2 h1)
end
section
variable {N:List aq}{B:Nat}{root:Int}
def smX (R:Int->Int->Prop)(x y:aq):Prop:=x.kind=y.kind/\x.text=y.text/\x.ord=y.ord/\x.items.length=y.items.length /\
 if x.kind=10/\x.ord=false then ∀(a:Nat) kx p,x.keys[a]?=some kx->x.items[a]?=some p->∃(b:Nat) (ky q:Int),y.keys[b]?=some ky/\y.items[b]?=some q/\R kx ky/\R p q
 else ∀(a:Nat) p q,x.items[a]?=some p->y.items[a]?=some q->R p q/\(x.kind=10->∀kx ky,x.keys[a]?=some kx->y.keys[a]?=some ky->R kx ky)
def zI (N:List aq):Nat->Int->Int->Prop
 |0,_,_=>False
 |f+1,i,j=>∃x y,gt N i=some x/\gt N j=some y/\smX (zI N f) x y
def zI.succ:∀{f} {i j},zI N f i j->zI N (f+1) i j
 |0,i,j,h=>h.elim
 |f+1,i,j,⟨x,y,h1,h2,h3,h4,h5,h6,h7⟩=>by
  refine⟨x,y,h1,h2,h3,h4,h5,h6,?_⟩;split at h7
  .rename_i c;rw[By c];intro a kx p q1 q2;obtain⟨b,ky,q,r1,r2,r3,r4⟩:=h7 a kx p q1 q2;exact⟨b,ky,q,r1,r2,r3.succ,r4.succ⟩
  .rename_i c;rw[AT c];intro a p q q1 q2;exact⟨(h7 a p q q1 q2).1.succ,λk kx ky r1 r2=>((h7 a p q q1 q2).2 k kx ky r1 r2).succ⟩
def SM (N:List aq)(i j:Int):Prop:=∃f,zI N f i j
theorem alb (hM:∀x∈N,qK x):∀k,
  (∀i j r,same k N i j=some r->(r=true->zI N k i j)/\(r=false->¬SM N i j)) /\
  (∀x y i r,D5 k N x y i=some r->x.keys.length=x.items.length->(r=true->∀a,i<=a->∀kx p,x.keys[a]?=some kx->x.items[a]?=some p->∃(b:Nat) (ky q:Int),y.keys[b]?=some ky/\y.items[b]?=some q/\zI N k kx ky/\zI N k p q) /\
   (r=false->∃(a:Nat) (kx p:Int),x.keys[a]?=some kx/\x.items[a]?=some p/\∀(b:Nat) ky q ,y.keys[b]?=some ky->y.items[b]?=some q->¬(SM N kx ky/\SM N p q))) /\
  (∀x y i kx j b r,xL k N x y i kx j b=some r->(r=true->b=true\/∃(c:Nat) (ky p q:Int),y.keys[c]?=some ky/\x.items[i]?=some p/\y.items[c]?=some q/\zI N k kx ky/\zI N k p q) /\
   (r=false->b=false/\∀c,j<=c->∀ky p q,y.keys[c]?=some ky->x.items[i]?=some p->y.items[c]?=some q->¬(SM N kx ky/\SM N p q))) /\
  (∀x y i r,zF k N x y i=some r->(r=true->∀a,i<=a->∀p q,x.items[a]?=some p->y.items[a]?=some q->zI N k p q/\(x.kind=10->∀kx ky,x.keys[a]?=some kx->y.keys[a]?=some ky->zI N k kx ky)) /\
   (r=false->∃(a:Nat) (p q:Int),x.items[a]?=some p/\y.items[a]?=some q/\¬(SM N p q/\(x.kind=10->∀kx ky,x.keys[a]?=some kx->y.keys[a]?=some ky->SM N kx ky)))):=by
 intro k
 induction k with
 |zero=>exact⟨λi j r h=>(by grind [same,same]),λx y i r h=>(by rw[D5] at h;cases h),λx y i kx j b r h=>(by rw[xL] at h;cases h),λx y i r h=>(by rw[zF] at h;cases h)⟩
 |succ k ih=>
  refine⟨λi j r h=>?_,λx y i r h hl=>?_,λx y i kx j b r h=>?_,λx y i r h=>?_⟩
  .rw[same] at h;cases hx:gt N i with
   |none=>rw[hx] at h;cases h
   |some x=>
   cases hy:gt N j with
   |none=>rw[hx,hy] at h;cases h
   |some y=>
   rw[hx,hy] at h;simp only at h;have no:∀{q:Prop},(∀f,zI N (f+1) i j->q)->r=false->(∀h:q,False)->(r=true->zI N (k+1) i j)/\(r=false->¬SM N i j):=λhq hr hn=>⟨λe=>(by rw[hr] at e;cases e),λ_ ⟨f,hf⟩=>by
    cases f with
    |zero=>exact hf
    |succ f=>exact hn (hq f hf)⟩
   have inv:∀f,zI N (f+1) i j->smX (zI N f) x y:=λf ⟨x',y',h1,h2,h3⟩=>by
    rw[hx] at h1;rw[hy] at h2;cases h1;cases h2;exact h3
   split at h
   .rename_i c;cases h;exact no (λf hf=>(inv f hf).1) rfl c
   rename_i c1;split at h
   .rename_i c;cases h;exact no (λf hf=>(inv f hf).2.1) rfl λe=>by rw[e,Gh] at c;cases c
   rename_i c2;split at h
   .rename_i c;cases h;exact no (λf hf=>(inv f hf).2.2.1) rfl c
   rename_i c3;split at h
   .rename_i c;cases h;exact no (λf hf=>(inv f hf).2.2.2.1) rfl c
   rename_i c4;have c1:=Classical.not_not.1 c1;have c3:=Classical.not_not.1 c3;have c4:=Classical.not_not.1 c4;have c2:x.text=y.text:=by
    cases q:qk x.text y.text with
    |true=>exact kS q
    |false=>exact absurd q c2
   split at h
   .rename_i c;obtain⟨g1,g2⟩:=ih.2.1 x y 0 r h (hM x (ax hx) c.1);refine⟨λe=>⟨x,y,hx,hy,c1,c2,c3,c4,?_⟩,λe ⟨f,hf⟩=>?_⟩
    .rw[By c];exact λa kx p=>g1 e a (alg _) kx p
    .cases f with
     |zero=>exact hf
     |succ f=>
      have h7:=(inv f hf).2.2.2.2;rw[By c] at h7;obtain⟨a,kx,p,q1,q2,q3⟩:=g2 e;obtain⟨b,ky,q,r1,r2,r3,r4⟩:=h7 a kx p q1 q2;exact q3 b ky q r1 r2 ⟨⟨f,r3⟩,⟨f,r4⟩⟩
   .rename_i c;obtain⟨g1,g2⟩:=ih.2.2.2 x y 0 r h;refine⟨λe=>⟨x,y,hx,hy,c1,c2,c3,c4,?_⟩,λe ⟨f,hf⟩=>?_⟩
    .rw[AT c];exact λa p q=>g1 e a (alg _) p q
    .cases f with
     |zero=>exact hf
     |succ f=>
      have h7:=(inv f hf).2.2.2.2;rw[AT c] at h7;obtain⟨a,p,q,q1,q2,q3⟩:=g2 e;obtain⟨r1,r2⟩:=h7 a p q q1 q2;exact q3 ⟨⟨f,r1⟩,λhk kx ky s1 s2=>⟨f,r2 hk kx ky s1 s2⟩⟩
  .rw[D5] at h;cases hk:x.keys[i]? with
   |none=>
    rw[hk] at h;cases h;exact⟨λ_ a ha kx p q1=>(by
     have:=List.getElem?_eq_none_iff.1 hk;have:=aJ q1;omega),λe=>(by cases e)⟩
   |some kx=>
    rw[hk] at h;simp at h;cases hf:xL k N x y i kx 0 false with
    |none=>rw[hf] at h;cases h
    |some r1=>
     rw[hf] at h;obtain⟨g1,g2⟩:=ih.2.2.1 x y i kx 0 false r1 hf;obtain⟨p0,hp0⟩:=eC (l:=x.items) (i:=i) (by have:=aJ hk;omega);cases r1 with
     |false=>
      cases h;exact⟨λe=>(by cases e),λ_=>⟨i,kx,p0,hk,hp0,λb ky q q1 q2=>(g2 rfl).2 b (alg _) ky p0 q q1 hp0 q2⟩⟩
     |true=>
      obtain⟨m1,m2⟩:=ih.2.1 x y (i+1) r h hl;refine⟨λe a ha kx' p q1 q2=>?_,m2⟩;by_cases hai:a=i
      .subst hai;rw[hk] at q1;cases q1;rcases g1 rfl with z|⟨c,ky,p',q,s1,s2,s3,s4,s5⟩
       .cases z
       .rw[s2] at q2;cases q2;exact⟨c,ky,q,s1,s3,s4.succ,s5.succ⟩
      .obtain⟨b,ky,q,s1,s2,s3,s4⟩:=m1 e a (by omega) kx' p q1 q2;exact⟨b,ky,q,s1,s2,s3.succ,s4.succ⟩
  .rw[xL] at h;cases hk:y.keys[j]? with
   |none=>
    rw[hk] at h;cases h;exact⟨λe=>.inl e,λe=>⟨e,λc hc ky p q q1=>(by
     have:=List.getElem?_eq_none_iff.1 hk;have:=aJ q1;omega)⟩⟩
   |some ky0=>
    rw[hk] at h;simp at h;have up:∀{b':Bool},xL k N x y i kx (j+1) b'=some r->(b'=true->b=true\/∃(c:Nat) (ky p q:Int),y.keys[c]?=some ky/\x.items[i]?=some p/\y.items[c]?=some q/\zI N (k+1) kx ky/\zI N (k+1) p q)->(b'=false->b=false/\∀p q,x.items[i]?=some p->y.items[j]?=some q->¬(SM N kx ky0/\SM N p q)) ->
      (r=true->b=true\/∃(c:Nat) (ky p q:Int),y.keys[c]?=some ky/\x.items[i]?=some p/\y.items[c]?=some q/\zI N (k+1) kx ky/\zI N (k+1) p q)/\(r=false->b=false/\∀c,j<=c->∀ky p q,y.keys[c]?=some ky->x.items[i]?=some p->y.items[c]?=some q->¬(SM N kx ky/\SM N p q)):=λ{b'} h' h1 h2=>by
     obtain⟨g1,g2⟩:=ih.2.2.1 x y i kx (j+1) b' r h';refine⟨λe=>?_,λe=>?_⟩
     .rcases g1 e with z|⟨c,ky,p,q,s1,s2,s3,s4,s5⟩
      .exact h1 z
      .exact .inr ⟨c,ky,p,q,s1,s2,s3,s4.succ,s5.succ⟩
     .obtain⟨e1,e2⟩:=g2 e;obtain⟨e3,e4⟩:=h2 e1;refine⟨e3,λc hc ky p q s1 s2 s3=>?_⟩;by_cases hcj:c=j
      .subst hcj;rw[hk] at s1;cases s1;exact e4 p q s2 s3
      .exact e2 c (by omega) ky p q s1 s2 s3
    cases b with
    |true=>exact up h (λ_=>.inl rfl) λe=>(by cases e)
    |false=>
     simp at h;cases hs:same k N kx ky0 with
     |none=>rw[hs] at h;cases h
     |some r1=>
      rw[hs] at h;obtain⟨t1,t2⟩:=ih.1 kx ky0 r1 hs;cases r1 with
      |false=>exact up h (λe=>(by cases e)) λ_=>⟨rfl,λp q _ _ z=>t2 rfl z.1⟩
      |true=>
       simp at h;cases hp:x.items[i]? with
       |none=>rw[hp] at h;cases h
       |some p=>
       cases hq:y.items[j]? with
       |none=>rw[hp,hq] at h;cases h
       |some q=>
       rw[hp,hq] at h;simp at h;cases hs2:same k N p q with
       |none=>rw[hs2] at h;cases h
       |some r2=>
        rw[hs2] at h;obtain⟨u1,u2⟩:=ih.1 p q r2 hs2;have:=up h (λe=>.inr ⟨j,ky0,p,q,hk,hp,hq,(t1 rfl).succ,(u1 e).succ⟩) λe=>⟨rfl,λp' q' s1 s2 z=>by
         rw[hp] at s1;rw[hq] at s2;cases s1;cases s2;exact u2 e z.2⟩
        rw[hp] at this;exact this
  .rw[zF] at h;cases hp:x.items[i]? with
   |none=>
    rw[hp] at h;cases h;exact⟨λ_ a ha p q q1=>(by
     have:=List.getElem?_eq_none_iff.1 hp;have:=aJ q1;omega),λe=>(by cases e)⟩
   |some p=>
    rw[hp] at h;simp at h;cases hq:y.items[i]? with
    |none=>rw[hq] at h;cases h
    |some q=>
    rw[hq] at h;simp at h;have rest:zF k N x y (i+1)=some r->zI N k p q->(x.kind=10->∀kx ky,x.keys[i]?=some kx->y.keys[i]?=some ky->zI N k kx ky)->(r=true->∀a,i<=a->∀p q,x.items[a]?=some p->y.items[a]?=some q->zI N (k+1) p q/\(x.kind=10->∀kx ky,x.keys[a]?=some kx->y.keys[a]?=some ky->zI N (k+1) kx ky)) /\
      (r=false->∃(a:Nat) (p q:Int),x.items[a]?=some p/\y.items[a]?=some q/\¬(SM N p q/\(x.kind=10->∀kx ky,x.keys[a]?=some kx->y.keys[a]?=some ky->SM N kx ky))):=λh' w1 w2=>by
     obtain⟨g1,g2⟩:=ih.2.2.2 x y (i+1) r h';refine⟨λe a ha p' q' s1 s2=>?_,g2⟩;by_cases hai:a=i
     .subst hai;rw[hp] at s1;rw[hq] at s2;cases s1;cases s2;exact⟨w1.succ,λhk kx ky s1 s2=>(w2 hk kx ky s1 s2).succ⟩
     .obtain⟨v1,v2⟩:=g1 e a (by omega) p' q' s1 s2;exact⟨v1.succ,λhk kx ky s1 s2=>(v2 hk kx ky s1 s2).succ⟩
    split at h
    .rename_i hk10;cases hkx:x.keys[i]? with
     |none=>rw[hkx] at h;cases h
     |some kx=>
     cases hky:y.keys[i]? with
     |none=>rw[hkx,hky] at h;cases h
     |some ky=>
     rw[hkx,hky] at h;simp at h;cases hs:same k N kx ky with
     |none=>rw[hs] at h;cases h
     |some r1=>
      rw[hs] at h;obtain⟨t1,t2⟩:=ih.1 kx ky r1 hs;cases r1 with
      |false=>
       cases h;exact⟨λe=>(by cases e),λ_=>⟨i,p,q,hp,hq,λz=>t2 rfl (z.2 hk10 kx ky hkx hky)⟩⟩
      |true=>
       simp at h;cases hs2:same k N p q with
       |none=>rw[hs2] at h;cases h
       |some r2=>
        rw[hs2] at h;obtain⟨u1,u2⟩:=ih.1 p q r2 hs2;cases r2 with
        |false=>
         cases h;exact⟨λe=>(by cases e),λ_=>⟨i,p,q,hp,hq,λz=>u2 rfl z.1⟩⟩
        |true=>exact rest h (u1 rfl) λ_ kx' ky' s1 s2=>by rw[hkx] at s1;rw[hky] at s2;cases s1;cases s2;exact t1 rfl
    .rename_i hk10;cases hs2:same k N p q with
     |none=>rw[hs2] at h;cases h
     |some r2=>
      rw[hs2] at h;obtain⟨u1,u2⟩:=ih.1 p q r2 hs2;cases r2 with
      |false=>
       cases h;exact⟨λe=>(by cases e),λ_=>⟨i,p,q,hp,hq,λz=>u2 rfl z.1⟩⟩
      |true=>exact rest h (u1 rfl) λhk=>absurd hk hk10
theorem abJ (hM:∀x∈N,qK x){k}{i j}{r}(h:same k N i j=some r):r=true↔SM N i j:=by
 obtain⟨h1,h2⟩:=(alb hM k).1 i j r h;cases r with
 |true=>exact⟨λ_=>⟨k,h1 rfl⟩,λ_=>rfl⟩
 |false=>grind
theorem ahJ (hM:∀x∈N,qK x){k}{x}:∀{ys} {r},twC k N x ys=some r->(r=true↔∃y∈ys,SM N x y)
 |[],r,h=>by cases h;simp
 |y::ys,r,h=>by
  rw[twC] at h;cases hs:same k N x y with
  |none=>grind
  |some b=>
   rw[hs] at h;have hb:=abJ hM hs;cases b with
   |true=>grind
   |false=>
    rw[ahJ hM h]
    grind
theorem SM.kt {i j}(h:SM N i j):∃x y,gt N i=some x/\gt N j=some y/\x.kind=y.kind/\x.text=y.text:=by
 obtain⟨f,h⟩:=h;cases f with
 |zero=>exact h.elim
 |succ f=>obtain⟨x,y,h1,h2,h3,h4,_⟩:=h;grind
theorem ahK (hM:∀x∈N,qK x){k}:∀{xs met} {r},XY k N met xs=some r->(r=false↔(∀x∈xs,∀y∈met,¬SM N x y)/\xs.Pairwise λy x=>¬SM N x y)
 |[],met,r,h=>by cases h;simp
 |x::xs,met,r,h=>by
  rw[XY] at h;cases hx:gt N x with
  |none=>grind
  |some n=>
   rw[hx] at h;simp at h;cases hc:twC k N x (met.filter (isKey N n.kind n.text)) with
   |none=>grind
   |some b=>
    rw[hc] at h;have hb:=ahJ hM hc;have hall:(∃y∈met,SM N x y)↔b=true:=by
     rw[hb];constructor
     .rintro⟨y,h1,h2⟩;refine⟨y,List.mem_filter.2 ⟨h1,?_⟩,h2⟩;obtain⟨x',y',q1,q2,q3,q4⟩:=h2.kt
      grind [isKey,Gh]
     grind
    cases b with
    |true=>
     grind
    |false=>
     rw[ahK hM h,anW]
     grind
theorem ahL (hM:∀x∈N,qK x){k}:∀{X} {r},twN k N X=some r->(r=false↔∀x∈X,x.keys.Pairwise λy x=>¬SM N x y)
 |[],r,h=>by cases h;simp
 |x::X,r,h=>by
  rw[twN] at h;cases hc:XY k N [] x.keys with
  |none=>grind
  |some b=>
   rw[hc] at h;have hb:=ahK hM hc;cases b with
   |true=>
    grind
   |false=>
    rw[ahL hM h]
    grind
end
section
variable {N:List aq}{B k:Nat}{root:Int}
inductive KN (N:List aq):Int->Prop
 |key {x:aq} {v:Int}:x∈N->v∈x.keys->KN N v
 |step {u v:Int}:KN N u->Edge N u v->KN N v
structure Vd (N:List aq) (root:Int):Prop where
 le:N.length<=4096
 rt:IR N.length root
 ix:pC N N.length
 fm:∀x∈N,rA x=some true
 wk:∀v,IR N.length v->∃s,s<N.length/\Wk N root s v
 one:∀v,KN N v->(root::N.flatMap refs).count v=1
def KN.ir (hI:pC N N.length){v}(k:KN N v):IR N.length v:=by
 cases k with
 |key hx hv=>exact (hI _ hx).1 _ hv
 |step _ e=>
  obtain⟨x,hx,hv⟩:=e;rcases hv with hv|hv
  .exact (hI _ (ax hx)).1 _ hv
  .exact (hI _ (ax hx)).2 _ hv
structure GV (N:List aq) (root:Int):Prop where
 le:N.length<=4096
 rt:IR N.length root
 ix:pC N N.length
 fm:∀x∈N,rA x=some true
 Q6:∀v,IR N.length v->gf N root v
 one:∀v,KN N v->(root::N.flatMap refs).count v=1
 tw:∀x∈N,x.keys.Pairwise λy x=>¬SM N x y
 dp:∃f,DF N f/\f root<=33
theorem afw (hr:IR N.length root)(hI:pC N N.length):LN N root=true:=by
 have ok:∀v,IR N.length v->zA N.length v=true:=λv hv=>by
  grind [zA,IR]
 unfold LN;rw[ok root hr,aoI,al1];intro x hx;obtain⟨h1,h2⟩:=hI x hx
 grind
theorem ahM:∀{ms} {X},ms.length=X.length->(∀m∈ms,m=true)->(∀x∈X,rA x=some true)->gA ms X=some true
 |[],[],_,_,_=>rfl
 |m::ms,x::X,hl,h1,h2=>by
  rw[gA,h1 m IS,AT (by simp),h2 x IS];exact ahM (by grind) (λm hm=>h1 m (BY _ hm)) λx hx=>h2 x (BY _ hx)
theorem ahN:∀{bs} {cs},(∀(i:Nat) c,bs[i]?=some true->cs[i]?=some c->c=1)->gB bs cs=true
 |[],cs,_=>by cases cs<;>rfl
 |b::bs,[],_=>by rfl
 |b::bs,c::cs,h=>by
  rw[gB,AT,ahN λi c h1 h2=>h (i+1) c (by grind) (by grind)];rintro⟨rfl,hc⟩;exact hc (h 0 c rfl rfl)
theorem QC (hI:pC N N.length)(hB:∀x∈N,x.keys.length<=B/\x.items.length<=B)(hk:N.length*(B+2)+1<=k):∀xs ms r ,ms.length=N.length->(∀v∈xs,KN N v)->(∀u,gt ms u=some true->KN N u)->Hu k N xs ms=some r->r.length=N.length/\∀u,gt r u=some true->KN N u
 |[],ms,r,hl,_,hm,h=>by cases h;grind
 |x::xs,ms,r,hl,hx,hm,h=>by
  have hle:=ahC ms;rw[hl] at hle;have:=ag8 (B+2) hle;have kx:=hx x IS;obtain⟨m2,e2,p2⟩:=(N6 (n:=cf ms) (W:=λ_ u=>KN N u) hI hB (λ_ u v q e=>.step q e) k).1 x ms hl (kx.ir hI) (by omega);rw[Hu,e2] at h;refine QC hI hB hk xs m2 r (by rw[p2.len,hl]) (λv hv=>hx v (BY _ hv)) (λu hu=>?_) h;rcases p2.snd 0 (λw hw=>by grind) (by omega) u hu with q|⟨_,_,q⟩
  .grind
  grind
theorem Vs (hI:pC N N.length)(hB:∀x∈N,x.keys.length<=B/\x.items.length<=B)(hk:N.length*(B+2)+1<=k):∀X ms r ,(∀x∈X,x∈N)->ms.length=N.length->(∀u,gt ms u=some true->KN N u)->Ve k N X ms=some r->∀u,gt r u=some true->KN N u
 |[],ms,r,_,hl,hm,h=>by cases h;exact hm
 |x::X,ms,r,hX,hl,hm,h=>by
  rw[Ve] at h;cases e:Hu k N x.keys ms with
  |none=>grind
  |some m2=>
   rw[e] at h;obtain⟨l2,q2⟩:=QC hI hB hk x.keys ms m2 hl (λv hv=>.key (hX x IS) hv) hm e;exact Vs hI hB hk X m2 r (λy hy=>hX y (BY _ hy)) l2 q2 h
theorem E9 (hB:∀x∈N,x.keys.length<=B/\x.items.length<=B)(hnB:N.length<=B)(hB2:B<1073741824)(hk:gK N.length B<=k):∃r,ve k N root=some r/\(r=0↔GV N root)/\(r=0->Vd N root):=by
 unfold gK at hk;rw[ale,aoy] at hk;have hk1:N.length*(B+2)<=N.length*(2*B+8):=Nat.mul_le_mul_left _ (by omega);have hk2:N.length*(2*B+5)<=N.length*(2*B+8):=Nat.mul_le_mul_left _ (by omega);have no:∀{c:Int},c≠0->(GV N root->False)->∃r,some c=some r/\(r=0↔GV N root)/\(r=0->Vd N root):=λ{c} h1 h3=>
  ⟨c,rfl,⟨λe=>absurd e h1,λe=>(h3 e).elim⟩,λe=>absurd e h1⟩
 unfold ve;split
 .exact no (by decide) λg=>by have:=g.le;omega
 rename_i hb;split
 .exact no (by decide) λg=>by have:=g.rt;grind [IR]
 split
 .rename_i hin;exact no (by decide) λg=>by rw[afw g.rt g.ix] at hin;cases hin
 rename_i hin;have hin:LN N root=true:=by grind
 obtain⟨hr,hI⟩:=afq hin;have hcf:cf (List.replicate N.length false)=N.length:=by grind [cf]
 obtain⟨ms,em,pm⟩:=(N6 (n:=N.length) (W:=Wk N root) hI hB (λt u v w e=>.step w e) k).1 root (List.replicate N.length false) (by simp) hr (by grind);rw[em];simp;have hml:ms.length=N.length:=by rw[pm.len];simp
 have mk:∀v,gf N root v->gt ms v=some true:=λv w=>by
  induction w with
  |refl=>exact pm.at' _ rfl
  |step _ e ih=>
   rcases pm.clo _ ih with q|q
   .grind [N7]
   grind
 obtain⟨r1,er,hg⟩:=abI hml;rw[er];cases r1 with
 |false=>
  refine no (by decide) λg=>?_;have:=ahM hml (λm hm=>?_) g.fm
  .grind
  .obtain⟨i,hi⟩:=List.mem_iff_getElem?.1 hm;have hlt:=aJ hi;have:=mk (i:Int) (g.Q6 _ ⟨by omega,by omega⟩)
   grind [gt]
 |true=>
  obtain⟨hmt,hform⟩:=hg rfl;have hwk:∀v,IR N.length v->∃s,s<N.length/\Wk N root s v:=λv hv=>by
   obtain⟨b,hb2⟩:=fj hml hv;have:b=true:=hmt b (ax hb2);subst this;rcases pm.snd 0 (λu hu=>by rw[hu];exact .root) (by grind) v hb2 with h|h
   .grind [N7]
   grind
  have hall:∀v,IR N.length v->gf N root v:=λv hv=>by
   obtain⟨s,_,w⟩:=hwk v hv;exact w.Q6
  simp[afs hI hr hB (by omega) hB2];obtain⟨ks,ek,lk,ck,_,hks⟩:=Vj hI hB (k:=k) (by omega) N (List.replicate N.length false) (λ_ h=>h) (by simp) afr;have hsn:=Vs hI hB (by omega) N (List.replicate N.length false) ks (λ_ h=>h) (by simp) (λu hu=>by grind [N7]) ek;have hkn:∀v,KN N v->gt ks v=some true:=λv kv=>by
   induction kv with
   |key hx hv=>grind
   |step _ e ih=>exact ck _ ih _ e
  rw[ek];simp;have hkl:ks.length=N.length:=by grind
  split
  .rename_i hgb;refine no (by decide) λg=>?_;have:=ahN (bs:=ks) λi c h1 h2=>by
    have hi:IR N.length (i:Int):=⟨by omega,by grind⟩;have k1:KN N (i:Int):=hsn _ (by unfold gt;grind);have e1:=Vk (l:=root::N.flatMap refs) hi;unfold gt at e1;rw[By (by omega),aba,h2,g.one _ k1] at e1
    grind
   grind
  .rename_i hgb;have hgb:gB ks (CC N.length (root::N.flatMap refs))=true:=by grind
   have hK1:∀v,KN N v->(root::N.flatMap refs).count v=1:=λv kv=>by
    have h1:=Vk (l:=root::N.flatMap refs) (kv.ir hI);have:=ahE hgb (aB (hkn v kv)).2 (aB h1).2;omega
   have hM:∀x∈N,qK x:=λx hx=>Gj (hform x hx);obtain⟨H,hH1,hH2⟩:=ahD hI rfl hwk λv kv _=>hK1 v kv;have hst:=abG hI hB hM (λv kv=>kv.ir hI) (λu v q e=>.step q e) hH2 k;obtain⟨tw,et⟩:=Vo (λv kv=>kv.ir hI) (λx y hx hy=>hst.1 x y N.length hx (hy.ir hI) (hH1 x) (by rw[ale];omega)) (λx hx v hv=>.key hx hv);rw[et];have ht:=ahL hM et;cases tw with
   |true=>exact no (by decide) λg=>by have:=ht.2 g.tw;cases this
   |false=>
    obtain⟨d,a,ed,hd,_⟩:=ahI hI hr hB (by omega) hnB hall (k:=k) (by omega);simp[ed];split
    .rename_i h32;refine no (by decide) λg=>?_;have:=(hd 32).2 g.dp;omega
    .exact⟨0,rfl,⟨λ_=>⟨by omega,hr,hI,hform,hall,hK1,ht.1 rfl,(hd 32).1 (by omega)⟩,λ_=>rfl⟩,λ_=>⟨by omega,hr,hI,hform,hwk,hK1⟩⟩
theorem Tl (hB:∀x∈N,x.keys.length<=B/\x.items.length<=B)(hnB:N.length<=B)(hB2:B<1073741824)(hk:gK N.length B<=k){r}(h:ve k N root=some r):r=0↔GV N root:=by
 obtain⟨s,e,q,_⟩:=E9 (root:=root) hB hnB hB2 hk
 grind
def Tm (hB:∀x∈N,x.keys.length<=B/\x.items.length<=B)(hnB:N.length<=B)(hB2:B<1073741824)(hk:gK N.length B<=k):∃r,ve k N root=some r:=let ⟨r,h,_⟩:=E9 hB hnB hB2 hk;⟨r,h⟩
theorem MF (hB:∀x∈N,x.keys.length<=B/\x.items.length<=B)(hnB:N.length<=B)(hB2:B<1073741824)(hk:gK N.length B<=k)(h:ve k N root=some 0):Vd N root:=by
 obtain⟨s,e,_,q⟩:=E9 (root:=root) hB hnB hB2 hk
 grind
end
section
variable {N:List aq}{root:Int}{B:Nat}
def Vd.Hx (d:Vd N root):∃H:Int->Nat,(∀u,H u<=N.length)/\∀u v,KN N v->Edge N u v->H v<H u:=
 ahD (K:=KN N) d.ix rfl d.wk λv kv _=>d.one v kv
def Vd.map (d:Vd N root){x}(hx:x∈N)(hk:x.kind=10):x.keys.length=x.items.length:=Gj (d.fm x hx) hk
theorem Vd.keys (d:Vd N root){x}(hx:x∈N)(hk:x.kind≠10):x.keys=[]:=by
 have h:=d.fm x hx
 grind [rA]
theorem Gk {l:ε}{n}(hn:l.Nodup)(hr:∀v∈l,IR n v):l.length<=n:=by
 have hs:l.map Int.toNat ⊆ List.range n:=λv hv=>by
  grind [IR]
 have hn2:(l.map Int.toNat).Nodup:=by
  refine List.pairwise_map.2 (aoq ?_ hn);intro a b ha hb hab e;have h1:=(hr a ha).1;have h2:=(hr b hb).1
  grind
 have:=(ama (n:=n));have h3:=hn2.length_le_of_subset hs
 grind
theorem KP {v}:∀{X:List aq} {x},x∈X->x.keys.count v<=(X.flatMap refs).count v
 |[],x,h=>by cases h
 |y::X,x,h=>by
  rw[acD,agf];rcases List.mem_cons.1 h with rfl|h
  .grind [refs]
  .have:=KP (v:=v) h;omega
theorem Vd.nodup (d:Vd N root){x}(hx:x∈N):x.keys.Nodup:=by
 rw[ap0];intro v;by_cases hv:v∈x.keys
 .have h1:=d.one v (.key hx hv);rw[agw] at h1;have:=KP (v:=v) hx;omega
 grind
def Vd.alc (d:Vd N root){x}(hx:x∈N):x.keys.length<=N.length:=Gk (d.nodup hx) (d.ix x hx).1
end
end Go.Sh
