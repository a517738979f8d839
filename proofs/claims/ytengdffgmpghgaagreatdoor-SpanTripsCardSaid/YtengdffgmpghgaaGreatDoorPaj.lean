
import Derived.Test.YtengdffgmpghgaaGreatDoorPai
set_option linter.all false
namespace Go.Sh
open Go Go.Ago Go.Proofs
section
def vw (b:UInt8):Bool:=b==44||b==61||b==93||b==125||b==62||b==41
def Stop (r:List UInt8):Prop:=∀b t,r=b::t->vw b=true
def Mu (s t:List UInt8):Prop:=∀r r',Stop r->Stop r'->s++r=t++r'->s=t/\r=r'
theorem Mu.symm {s t:List UInt8}(h:Mu s t):Mu t s:=λr r' h1 h2 e=>by
 obtain⟨a,b⟩:=h r' r h2 h1 e.symm;exact⟨a.symm,b.symm⟩
theorem Stop.nil:Stop []:=λb t e=>by cases e
theorem Stop.cons {b:UInt8}{t:List UInt8}(h:vw b=true):Stop (b::t):=λb' t' e=>by
 cases e;exact h
theorem Mu.safe:∀{s t:List UInt8},(∀b∈s,vw b=false)->(∀b∈t,vw b=false)->Mu s t
 |[],[],_,_=>λr r' _ _ e=>⟨rfl,e⟩
 |[],b::t,_,h2=>λr r' h3 _ e=>by
  have:=h3 b (t++r') e;rw[h2 b IT] at this;cases this
 |a::s,[],h1,_=>λr r' _ h4 e=>by
  have:=h4 a (s++r) e.symm;rw[h1 a IT] at this;cases this
 |a::s,b::t,h1,h2=>λr r' h3 h4 e=>by
  simp only[aao,acY] at e;obtain⟨q1,q2⟩:=Mu.safe (λx hx=>h1 x (IN _ hx)) (λx hx=>h2 x (IN _ hx)) r r' h3 h4 e.2;exact⟨by rw[e.1,q1],q2⟩
theorem Mi:∀(s t r r':List UInt8),s.flatMap rJ++34::r=t.flatMap rJ++34::r'->s=t/\r=r'
 |[],[],r,r',e=>⟨rfl,by simpa using e⟩
 |[],b::t,r,r',e=>by
  rw[acS] at e;unfold rJ at e;split at e
  .simp at e
  .rename_i hb;simp only[List.flatMap_nil,acB,aao,acY] at e;exact absurd (.inl e.1.symm) hb
 |a::s,[],r,r',e=>by
  rw[acS] at e;unfold rJ at e;split at e
  .simp at e
  .rename_i hb;simp only[List.flatMap_nil,acB,aao,acY] at e;exact absurd (.inl e.1) hb
 |a::s,b::t,r,r',e=>by
  have ih:=Mi s t r r';rw[acS,acS] at e;generalize hu:s.flatMap rJ=u at e ih;generalize hv:t.flatMap rJ=v at e ih;unfold rJ at e;split at e<;>split at e
  .simp only[aao,acB,acY,ahP] at e;obtain⟨q1,q2⟩:=ih e.2;exact⟨by rw[e.1,q1],q2⟩
  .rename_i h1 h2;simp only[aao,acB,acY] at e;exact absurd (.inr e.1.symm) h2
  .rename_i h1 h2;simp only[aao,acB,acY] at e;exact absurd (.inr e.1) h1
  .simp only[aao,acB,acY] at e;obtain⟨q1,q2⟩:=ih e.2;exact⟨by rw[e.1,q1],q2⟩
theorem Mu.quo {s t:List UInt8}:Mu (D8 s) (D8 t):=λr r' _ _ e=>by
 unfold D8 at e;simp only[aao,abt,acY,ahP,acB] at e;obtain⟨q1,q2⟩:=Mi s t r r' e;exact⟨by rw[q1],q2⟩
theorem Ow {s t:List UInt8}(h:D8 s=D8 t):s=t:=by
 unfold D8 at h;simp only[aao,acY,ahP] at h;exact (Mi s t [] [] h).1
theorem Mu.head {a b:UInt8}{s t:List UInt8}(h:a≠b):Mu (a::s) (b::t):=λr r' _ _ e=>by
 simp only[aao,acY] at e;exact absurd e.1 h
end
section
def NE (s:List UInt8):Prop:=∃b t,s=b::t/\vw b=false
variable {F G:Int->List UInt8}{x y:ah}{c:UInt8}
theorem I9 (hc:vw c=true)(o:ε)(r:List UInt8):Stop (tU F x false o++c::r):=by
 cases o with
 |nil=>exact Stop.cons hc
 |cons k o=>
  unfold tU;rw[AT (by decide)];simp only[aao,acB,abt];exact Stop.cons (by decide)
theorem ZO {b:Bool}{k:Int}{o:ε}{r r':List UInt8}(hc:vw c=true)(hc2:c≠44)(h1:NE (F (nth x.items k)))(h2:x.kind=10->NE (F (nth x.keys k)))
  (e:c::r=tU F x b (k::o)++r'):False:=by
 unfold tU at e;cases b with
 |false=>
  rw[AT (by decide)] at e;simp only[aao,acB,abt,acY] at e;exact hc2 e.1
 |true=>
  rw[By rfl] at e;by_cases hx:x.kind=10
  .rw[By hx] at e;obtain⟨d,t,q1,q2⟩:=h2 hx;rw[q1] at e;simp only[aao,acB,abt,acY] at e;rw[<-e.1,hc] at q2;cases q2
  .rw[AT hx] at e;obtain⟨d,t,q1,q2⟩:=h1;rw[q1] at e;simp only[aao,acB,abt,acY] at e;rw[<-e.1,hc] at q2;cases q2
theorem Ox (hk:x.kind=10↔y.kind=10)(hc:vw c=true)(hc2:c≠44):∀(o o':ε) (b:Bool) (r r':List UInt8),
  (∀k∈o,∀k'∈o',(x.kind=10->Mu (F (nth x.keys k)) (G (nth y.keys k')))/\Mu (F (nth x.items k)) (G (nth y.items k'))) ->
  (∀k∈o,NE (F (nth x.items k))/\(x.kind=10->NE (F (nth x.keys k))))->(∀k∈o',NE (G (nth y.items k))/\(y.kind=10->NE (G (nth y.keys k)))) ->
  tU F x b o++c::r=tU G y b o'++c::r' ->
  o.length=o'.length/\(∀(i:Nat) k k',o[i]?=some k->o'[i]?=some k'->(x.kind=10->F (nth x.keys k)=G (nth y.keys k'))/\F (nth x.items k)=G (nth y.items k'))/\r=r'
 |[],[],b,r,r',_,_,_,e=>by
  refine⟨rfl,λi k k' h=>by simp at h,?_⟩;simpa[tU] using e
 |[],k::o',b,r,r',_,_,h3,e=>by
  obtain⟨q1,q2⟩:=h3 k IT;exact (ZO hc hc2 q1 q2 (by simpa[tU] using e)).elim
 |k::o,[],b,r,r',_,h2,_,e=>by
  obtain⟨q1,q2⟩:=h2 k IT;exact (ZO hc hc2 q1 q2 (by simpa[tU] using e.symm)).elim
 |k::o,k'::o',b,r,r',h1,h2,h3,e=>by
  have ih:=Ox hk hc hc2 o o' false r r' (λa ha a' ha'=>h1 a (IN _ ha) a' (IN _ ha'))
   (λa ha=>h2 a (IN _ ha)) (λa ha=>h3 a (IN _ ha))
  obtain⟨p1,p2⟩:=h1 k IT k' IT;have s1:=I9 (F:=F) (x:=x) hc o r;have s2:=I9 (F:=G) (x:=y) hc o' r';unfold tU at e;simp only[abt] at e
  replace e:=akM e
  have fin:(x.kind=10->F (nth x.keys k)=G (nth y.keys k'))->F (nth x.items k)++(tU F x false o++c::r)=G (nth y.items k')++(tU G y false o'++c::r') ->
    (k::o).length=(k'::o').length/\(∀(i:Nat) a a',(k::o)[i]?=some a->(k'::o')[i]?=some a'->(x.kind=10->F (nth x.keys a)=G (nth y.keys a'))/\F (nth x.items a)=G (nth y.items a'))/\r=r':=by
   intro hkey e;obtain⟨q1,q2⟩:=p2 _ _ s1 s2 e;obtain⟨i1,i2,i3⟩:=ih q2;refine⟨by simp[i1],λi a a' ha ha'=>?_,i3⟩;cases i with
   |zero=>
    simp only[akK,aai] at ha ha';subst ha;subst ha';exact⟨hkey,q1⟩
   |succ i=>
    simp only[ahM] at ha ha';exact i2 i a a' ha ha'
  by_cases hx:x.kind=10
  .rw[By hx,By (hk.1 hx)] at e;simp only[abt,aao,acB] at e;obtain⟨q1,q2⟩:=p1 hx _ _ (Stop.cons (by decide)) (Stop.cons (by decide)) e;simp only[acY,ahP] at q2;exact fin (λ_=>q1) q2
  .rw[AT hx,AT (λh=>hx (hk.2 h))] at e;simp only[acB] at e;exact fin (λh=>absurd h hx) e
theorem ajf:∀i<16,∀j<16,yY.getD i 0=yY.getD j 0->i=j:=by decide
theorem hex_inj:∀{s t:List UInt8},s.flatMap vE=t.flatMap vE->s=t
 |[],[],_=>rfl
 |[],b::t,e=>by simp[vE] at e
 |a::s,[],e=>by simp[vE] at e
 |a::s,b::t,e=>by
  rw[acS,acS] at e;have hd:∀u v:List UInt8,vE a++u=vE b++v->yY.getD (a.toNat/16) 0=yY.getD (b.toNat/16) 0/\yY.getD (a.toNat%16) 0=yY.getD (b.toNat%16) 0/\u=v:=λu v e=>by
   unfold vE at e;simp only[aao,acB,acY] at e;exact e
  obtain⟨q1,q2,q3⟩:=hd _ _ e;have la:=a.toNat_lt;have lb:=b.toNat_lt;have e1:=ajf _ (by omega) _ (by omega) q1;have e2:=ajf _ (by omega) _ (by omega) q2;have:a=b:=UInt8.toNat_inj.1 (by omega);rw[this,hex_inj q3]
end
section
variable {N N2:List ah}{H H2:Int->Nat}
def LF (x:ah):Prop:=x.kind=5\/(NE (nQ x)/\(∀b∈nQ x,vw b=false)/\∀b t,nQ x=b::t->b≠34/\b≠33/\b≠91/\b≠123/\b≠60)
structure KX (N:List ah) (H:Int->Nat):Prop where
 dn:∀i x,gt N i=some x->∀v,v∈x.keys\/v∈x.items->IR N.length v/\H v<H i
 fm:∀x∈N,jc x=some true
 kl:∀x∈N,x.kind=10->x.keys.length=x.items.length
 sc:∀x∈N,x.kind<9->LF x
 tg:∀x∈N,x.kind=11->∀b∈x.text.data.toList,b≠40
theorem Eb {x:ah}(h:x.kind=5):nQ x=D8 x.text.data.toList:=by
 unfold nQ;rw[AT (by omega),By h]
theorem ZP (x:ah):vw (br x).1=false/\vw (br x).2=true/\(br x).2≠44:=by
 unfold br;split
 .split<;>decide
 .decide
theorem yj (k:KX N H):∀(f:Nat) (i:Int),IR N.length i->H i<f->NE (iB N f i):=by
 intro f i hi hf;obtain⟨f,rfl⟩:∃g,f=g+1:=⟨f-1,by omega⟩;obtain⟨x,hx⟩:=dA (l:=N) rfl hi;unfold iB;rw[hx];simp only;unfold CV;split
 .exact⟨33,_,rfl,by decide⟩
 .split
  .rename_i h9;rcases k.sc x (az hx) h9 with h5|h
   .rw[Eb h5];exact⟨34,_,rfl,by decide⟩
   .exact h.1
  .exact⟨(br x).1,_,rfl,(ZP x).1⟩
theorem Te:∀(s t r r':List UInt8),(∀b∈s,b≠40)->(∀b∈t,b≠40)->s++40::r=t++40::r'->s=t/\r=r'
 |[],[],r,r',_,_,e=>⟨rfl,by simpa using e⟩
 |[],b::t,r,r',_,h2,e=>by
  simp only[acB,aao,acY] at e;exact absurd e.1.symm (h2 b IT)
 |a::s,[],r,r',h1,_,e=>by
  simp only[acB,aao,acY] at e;exact absurd e.1 (h1 a IT)
 |a::s,b::t,r,r',h1,h2,e=>by
  simp only[aao,acY] at e;obtain⟨q1,q2⟩:=Te s t r r' (λx hx=>h1 x (IN _ hx)) (λx hx=>h2 x (IN _ hx)) e.2;exact⟨by rw[e.1,q1],q2⟩
theorem rn {i:Int}{x:ah}(hx:gt N i=some x)(k:KX N H){a:Int}(ha:a∈gI N i):nth x.items a∈x.items/\(x.kind=10->nth x.keys a∈x.keys):=by
 unfold gI at ha;rw[hx] at ha;obtain⟨h0,h1⟩:=mX ha;exact⟨iG h0 h1,λh=>iG h0 (by rw[k.kl x (az hx) h];exact h1)⟩
def om (x:ah):Nat:=if x.kind=11 then 0 else if x.kind=5 then 1 else if x.kind<9 then 2 else 3
theorem Oy (k:KX N H){x:ah}(hx:x∈N)(F:Int->List UInt8)(o:ε):∃b t,CV F x o=b::t/\(om x=0->b=33)/\(om x=1->b=34)/\(om x=2->b≠34/\b≠33/\b≠91/\b≠123/\b≠60)/\(om x=3->b=(br x).1):=by
 unfold CV om;by_cases h11:x.kind=11
 .rw[By h11,By h11];exact⟨33,_,rfl,λ_=>rfl,λh=>(by cases h),λh=>(by cases h),λh=>(by cases h)⟩
 rw[AT h11,AT h11];by_cases h5:x.kind=5
 .rw[By h5,By (show x.kind<9 by omega),Eb h5];exact⟨34,_,rfl,λh=>(by cases h),λ_=>rfl,λh=>(by cases h),λh=>(by cases h)⟩
 rw[AT h5];by_cases h9:x.kind<9
 .rw[By h9,By h9];rcases k.sc x hx h9 with h|h
  .exact absurd h h5
  .obtain⟨b,t,q,_⟩:=h.1;exact⟨b,t,q,λh=>(by cases h),λh=>(by cases h),λ_=>h.2.2 b t q,λh=>(by cases h)⟩
 .rw[AT h9,AT h9];exact⟨(br x).1,_,rfl,λh=>(by cases h),λh=>(by cases h),λh=>(by cases h),λ_=>rfl⟩
theorem ae4 (x:ah):(br x).1=91\/(br x).1=123\/(br x).1=60:=by
 unfold br;split
 .split<;>simp
 .simp
theorem ahB {x y:ah}(h:(br x).1=(br y).1):(br x).2=(br y).2/\(x.kind=10↔y.kind=10)/\(x.kind=10->x.ord=y.ord):=by
 unfold br at h⊢;by_cases hx:x.kind=10<;>by_cases hy:y.kind=10<;>cases ox:x.ord<;>cases oy:y.ord<;>simp_all
theorem ahC (k:KX N H)(k2:KX N2 H2){x y:ah}(hx:x∈N)(hy:y∈N2){F G:Int->List UInt8}{o o':ε}{r r':List UInt8}(e:CV F x o++r=CV G y o'++r'):om x=om y/\(om x=3->(br x).1=(br y).1):=by
 obtain⟨b,t,q,a0,a1,a2,a3⟩:=Oy k hx F o;obtain⟨b',t',q',c0,c1,c2,c3⟩:=Oy k2 hy G o';rw[q,q'] at e;simp only[aao,acY] at e;obtain⟨rfl,_⟩:=e;have l:om x<4:=by unfold om;split<;>(try split)<;>(try split)<;>omega
 have l2:om y<4:=by unfold om;split<;>(try split)<;>(try split)<;>omega
 have b1:=ae4 x;have b2:=ae4 y;generalize om x=u at *
 generalize om y=v at *
 refine⟨?_,λh3=>?_⟩
 .match u,v with
  |0,0|1,1|2,2|3,3=>rfl
  |0,1=>exact absurd ((a0 rfl).symm.trans (c1 rfl)) (by decide)
  |1,0=>exact absurd ((a1 rfl).symm.trans (c0 rfl)) (by decide)
  |0,2=>exact absurd (a0 rfl) (c2 rfl).2.1
  |2,0=>exact absurd (c0 rfl) (a2 rfl).2.1
  |1,2=>exact absurd (a1 rfl) (c2 rfl).1
  |2,1=>exact absurd (c1 rfl) (a2 rfl).1
  |0,3=>have:=a0 rfl;rw[<-c3 rfl,this] at b2;revert b2;decide
  |3,0=>have:=c0 rfl;rw[<-a3 rfl,this] at b1;revert b1;decide
  |1,3=>have:=a1 rfl;rw[<-c3 rfl,this] at b2;revert b2;decide
  |3,1=>have:=c1 rfl;rw[<-a3 rfl,this] at b1;revert b1;decide
  |2,3=>have:=a2 rfl;rw[<-c3 rfl] at b2;rcases b2 with h|h|h<;>simp_all
  |3,2=>have:=c2 rfl;rw[<-a3 rfl] at b1;rcases b1 with h|h|h<;>simp_all
  |u+4,_=>omega
  |_,v+4=>omega
 .subst h3;have hv:v=3:=by
   match v with
   |3=>rfl
   |0=>have:=c0 rfl;rw[<-a3 rfl,this] at b1;revert b1;decide
   |1=>have:=c1 rfl;rw[<-a3 rfl,this] at b1;revert b1;decide
   |2=>have:=c2 rfl;rw[<-a3 rfl] at b1;rcases b1 with h|h|h<;>simp_all
   |v+4=>omega
  rw[<-a3 rfl,<-c3 hv]
end
section
variable {N N2:List ah}{H H2:Int->Nat}
theorem HI (x:ah):(om x=0->x.kind=11)/\(om x=1->x.kind=5)/\(om x=2->x.kind≠11/\x.kind≠5/\x.kind<9)/\(om x=3->x.kind≠11/\¬x.kind<9):=by
 unfold om;by_cases h11:x.kind=11
 .rw[By h11];exact⟨λ_=>h11,λh=>(by cases h),λh=>(by cases h),λh=>(by cases h)⟩
 rw[AT h11];by_cases h5:x.kind=5
 .rw[By h5];exact⟨λh=>(by cases h),λ_=>h5,λh=>(by cases h),λh=>(by cases h)⟩
 rw[AT h5];by_cases h9:x.kind<9
 .rw[By h9];exact⟨λh=>(by cases h),λh=>(by cases h),λ_=>⟨h11,h5,h9⟩,λh=>(by cases h)⟩
 .rw[AT h9];exact⟨λh=>(by cases h),λh=>(by cases h),λh=>(by cases h),λ_=>⟨h11,h9⟩⟩
def KS (F G:Int->List UInt8)(x y:ah)(o o':ε):Prop:=
 om x=om y/\(om x=0->x.text.data.toList=y.text.data.toList/\F (nth x.items 0)=G (nth y.items 0))/\(om x=1\/om x=2->nQ x=nQ y) /\
 (om x=3->(x.kind=10↔y.kind=10)/\(x.kind=10->x.ord=y.ord)/\o.length=o'.length /\
  ∀(i:Nat) a a',o[i]?=some a->o'[i]?=some a'->(x.kind=10->F (nth x.keys a)=G (nth y.keys a'))/\F (nth x.items a)=G (nth y.items a'))
theorem Oz (k:KX N H)(k2:KX N2 H2){x y:ah}(hx:x∈N)(hy:y∈N2){F G:Int->List UInt8}{o o':ε}
  (hp:∀a∈o,∀a'∈o',(x.kind=10->y.kind=10->Mu (F (nth x.keys a)) (G (nth y.keys a')))/\Mu (F (nth x.items a)) (G (nth y.items a')))
  (hn:∀a∈o,NE (F (nth x.items a))/\(x.kind=10->NE (F (nth x.keys a)))) (hn2:∀a∈o',NE (G (nth y.items a))/\(y.kind=10->NE (G (nth y.keys a))))
  (ht:x.kind=11->y.kind=11->Mu (F (nth x.items 0)) (G (nth y.items 0))) {r r':List UInt8} (s:Stop r) (s':Stop r') (e:CV F x o++r=CV G y o'++r') :
  r=r'/\KS F G x y o o':=by
 obtain⟨hc,hb⟩:=ahC k k2 hx hy e;obtain⟨x0,x1,x2,x3⟩:=HI x;obtain⟨y0,y1,y2,y3⟩:=HI y;have l:om x=0\/om x=1\/om x=2\/om x=3:=by unfold om;split<;>(try split)<;>(try split)<;>simp
 unfold CV at e;rcases l with l|l|l|l
 .have hx11:=x0 l;have hy11:=y0 (hc▸l);rw[By hx11,By hy11] at e;simp only[aao,abt,acY,ahP,acB] at e;obtain⟨q1,q2⟩:=Te _ _ _ _ (k.tg x hx hx11) (k2.tg y hy hy11) e;obtain⟨q3,q4⟩:=ht hx11 hy11 _ _ (Stop.cons (by decide)) (Stop.cons (by decide)) q2;simp only[acY,ahP] at q4;refine⟨q4,hc,λ_=>⟨q1,q3⟩,λh=>?_,λh=>?_⟩
  .rw[l] at h;rcases h with h|h<;>cases h
  .rw[l] at h;cases h
 .have hx5:=x1 l;have hy5:=y1 (hc▸l);rw[AT (by omega),By (by omega),AT (by omega),By (by omega),Eb hx5,Eb hy5] at e;obtain⟨q1,q2⟩:=Mu.quo r r' s s' e;refine⟨q2,hc,λh=>?_,λ_=>by rw[Eb hx5,Eb hy5,q1],λh=>?_⟩
  .rw[l] at h;cases h
  .rw[l] at h;cases h
 .obtain⟨p1,p2,p3⟩:=x2 l;obtain⟨p4,p5,p6⟩:=y2 (hc▸l);rw[AT p1,By p3,AT p4,By p6] at e;have f1:=(k.sc x hx p3).resolve_left p2;have f2:=(k2.sc y hy p6).resolve_left p5;obtain⟨q1,q2⟩:=Mu.safe f1.2.1 f2.2.1 r r' s s' e;refine⟨q2,hc,λh=>?_,λ_=>q1,λh=>?_⟩
  .rw[l] at h;cases h
  .rw[l] at h;cases h
 .obtain⟨p1,p2⟩:=x3 l;obtain⟨p3,p4⟩:=y3 (hc▸l);obtain⟨b1,b2,b3⟩:=ahB (hb l);rw[AT p1,AT p2,AT p3,AT p4,<-hb l,<-b1] at e;simp only[aao,abt,acY,ahP,acB] at e;obtain⟨q1,q2,q3⟩:=Ox b2 (ZP x).2.1 (ZP x).2.2 o o' true r r' (λa ha a' ha'=>⟨λh=>(hp a ha a' ha').1 h (b2.1 h),(hp a ha a' ha').2⟩) hn hn2 e;refine⟨q3,hc,λh=>?_,λh=>?_,λ_=>⟨b2,b3,q1,q2⟩⟩
  .rw[l] at h;cases h
  .rw[l] at h;rcases h with h|h<;>cases h
theorem VS (k:KX N H)(k2:KX N2 H2):∀(f g:Nat) (i j:Int),IR N.length i->IR N2.length j->H i<f+1->H2 j<g+1->∀(r r':List UInt8),Stop r->Stop r'->iB N (f+1) i++r=iB N2 (g+1) j++r' ->
  r=r'/\∃x y,gt N i=some x/\gt N2 j=some y/\KS (iB N f) (iB N2 g) x y (gI N i) (gI N2 j):=by
 intro f
 induction f with
 |zero=>
  intro g i j hi hj hf hg r r' s s' e;obtain⟨x,hx⟩:=dA (l:=N) rfl hi;obtain⟨y,hy⟩:=dA (l:=N2) rfl hj;unfold iB at e;rw[hx,hy] at e;simp only at e;have no:∀v,(v∈x.keys\/v∈x.items)->False:=λv hv=>by have:=(k.dn i x hx v hv).2;omega
  have noo:∀a∈gI N i,False:=λa ha=>no _ (.inr (rn hx k ha).1);have n11:x.kind≠11:=λh=>by
   have:=(qa (k.fm x (az hx))).2.2.2 h;exact no _ (.inr (iG (a:=0) (l:=x.items) (by omega) (by omega)))
  obtain⟨q1,q2⟩:=Oz k k2 (az hx) (az hy) (λa ha=>(noo a ha).elim) (λa ha=>(noo a ha).elim)
   (λa ha=>⟨by
     obtain⟨m1,m2⟩:=k2.dn j y hy _ (.inr (rn hy k2 ha).1);exact yj k2 _ _ m1 (by omega),λh10=>by
     obtain⟨m1,m2⟩:=k2.dn j y hy _ (.inl ((rn hy k2 ha).2 h10));exact yj k2 _ _ m1 (by omega)⟩) (λh=>absurd h n11) s s' e
  exact⟨q1,x,y,hx,hy,q2⟩
 |succ f ih=>
  intro g i j hi hj hf hg r r' s s' e;obtain⟨x,hx⟩:=dA (l:=N) rfl hi;obtain⟨y,hy⟩:=dA (l:=N2) rfl hj;rw[show iB N (f+1+1) i=CV (iB N (f+1)) x (gI N i) by rw[iB,hx],show iB N2 (g+1) j=CV (iB N2 g) y (gI N2 j) by rw[iB,hy]] at e;have dn:∀v,(v∈x.keys\/v∈x.items)->∀w,(w∈y.keys\/w∈y.items)->Mu (iB N (f+1) v) (iB N2 g w):=λv hv w hw r r' s s' e=>by
   obtain⟨m1,m2⟩:=k.dn i x hx v hv;obtain⟨m3,m4⟩:=k2.dn j y hy w hw;obtain⟨g,rfl⟩:∃g',g=g'+1:=⟨g-1,by omega⟩;have:=(ih g v w m1 m3 (by omega) (by omega) r r' s s' e).1;subst this;exact⟨List.append_cancel_right e,rfl⟩
  obtain⟨q1,q2⟩:=Oz k k2 (az hx) (az hy) (λa ha a' ha'=>⟨λh1 h2=>dn _ (.inl ((rn hx k ha).2 h1)) _ (.inl ((rn hy k2 ha').2 h2)),dn _ (.inr (rn hx k ha).1) _ (.inr (rn hy k2 ha').1)⟩)
   (λa ha=>⟨by
     obtain⟨m1,m2⟩:=k.dn i x hx _ (.inr (rn hx k ha).1);exact yj k _ _ m1 (by omega),λh10=>by
     obtain⟨m1,m2⟩:=k.dn i x hx _ (.inl ((rn hx k ha).2 h10));exact yj k _ _ m1 (by omega)⟩)
   (λa ha=>⟨by
     obtain⟨m1,m2⟩:=k2.dn j y hy _ (.inr (rn hy k2 ha).1);exact yj k2 _ _ m1 (by omega),λh10=>by
     obtain⟨m1,m2⟩:=k2.dn j y hy _ (.inl ((rn hy k2 ha).2 h10));exact yj k2 _ _ m1 (by omega)⟩)
   (λh1 h2=>by
    have l1:=(qa (k.fm x (az hx))).2.2.2 h1;have l2:=(qa (k2.fm y (az hy))).2.2.2 h2;exact dn _ (.inr (iG (by omega) (by omega))) _ (.inr (iG (by omega) (by omega)))) s s' e
  exact⟨q1,x,y,hx,hy,q2⟩
theorem ZQ (k:KX N H)(k2:KX N2 H2){f g:Nat}{i j:Int}(hi:IR N.length i)(hj:IR N2.length j)(hf:H i<f+1)(hg:H2 j<g+1)(e:iB N (f+1) i=iB N2 (g+1) j) :
  ∃x y,gt N i=some x/\gt N2 j=some y/\KS (iB N f) (iB N2 g) x y (gI N i) (gI N2 j):=
 (VS k k2 f g i j hi hj hf hg [] [] Stop.nil Stop.nil (by rw[e])).2
end
section
variable {N:List ah}{H:Int->Nat}
structure KLf (N:List ah):Prop where
 lf:∀x∈N,∀y∈N,x.kind<9->y.kind<9->nQ x=nQ y->x.kind=y.kind/\x.text=y.text
 od:∀x∈N,x.kind≠10->x.ord=false
 tx:∀x∈N,9<=x.kind->x.kind≠11->x.text.data.toList=[]
theorem Tf {s t:ζ}(h:s.data.toList=t.data.toList):s=t:=by
 apply ByteArray.ext;exact agh h
theorem OA {i:Int}{x:ah}(hx:gt N i=some x)(h:¬(x.kind=10/\x.ord=false)):gI N i=iota x.items.length:=by
 unfold gI;rw[hx];simp only[xh];rw[AT h]
theorem acW {i:Int}{x:ah}(hx:gt N i=some x){a:Nat}(ha:a<x.items.length):∃b:Nat,(gI N i)[b]?=some (a:Int):=by
 have h:(a:Int)∈gI N i:=by
  unfold gI;rw[hx];refine (Am _ _).mem_iff.2 ?_;exact BY (rl ha)
 exact List.getElem?_of_mem h
theorem acX {i:Int}{x:ah}(hx:gt N i=some x){b:Nat}(hb:b<x.items.length):∃a:Nat,(gI N i)[b]?=some (a:Int)/\a<x.items.length:=by
 have hl:=pn hx;have e:=aah (show b<(gI N i).length by omega);generalize (gI N i)[b]'(by omega)=v at e;have hm:=BY e;have h2:0<=v/\v<x.items.length:=by
  unfold gI at hm;rw[hx] at hm;exact mX hm
 exact⟨v.toNat,by rw[e,Int.toNat_of_nonneg h2.1],by omega⟩
end
section
variable {N N1 N2:List ah}{H1 H2:Int->Nat}{φ ψ:Int->Int}{v w root:Int}
theorem VT (I:BU N v N1 φ)(J:BU N w N2 ψ)(G:GV N root)(hv:IR N.length v)(hw:IR N.length w)(hM:∀x∈N,x.kind=10->x.keys.length=x.items.length)(k1:KX N1 H1)(k2:KX N2 H2)(l1:KLf N1)(l2:KLf N2)
  (lf:∀x∈N1,∀y∈N2,x.kind<9->y.kind<9->nQ x=nQ y->x.kind=y.kind/\x.text=y.text) :
  ∀(f g:Nat) (i j:Int),iV N v i->iV N w j->H1 (φ i)<f->H2 (ψ j)<g->iB N1 f (φ i)=iB N2 g (ψ j)->xg N f i j:=by
 intro f
 induction f with
 |zero=>intro g i j _ _ h;omega
 |succ f ih=>
  intro g i j hi hj hf hg e;obtain⟨g,rfl⟩:∃g',g=g'+1:=⟨g-1,by omega⟩;obtain⟨ri,ri'⟩:=I.ir G hv hi;obtain⟨rj,rj'⟩:=J.ir G hw hj;obtain⟨x0,hx0⟩:=dA (l:=N) rfl ri;obtain⟨y0,hy0⟩:=dA (l:=N) rfl rj;obtain⟨x',hx',Ex⟩:=I.nd i x0 hi hx0;obtain⟨y',hy',Ey⟩:=J.nd j y0 hj hy0;obtain⟨x,y,hx,hy,hc,c0,c12,c3⟩:=ZQ k1 k2 ri' rj' hf hg e;rw[hx'] at hx;cases hx;rw[hy'] at hy;cases hy;have mx:=az hx';have my:=az hy';have lx:x'.items.length=x0.items.length:=Ex.il;have ly:y'.items.length=y0.items.length:=Ey.il;obtain⟨ek,et,eo,_⟩:=Ex;obtain⟨ek2,et2,eo2,_⟩:=Ey;have Ex:vD φ x0 x':=⟨ek,et,eo,by assumption⟩;have Ey:vD ψ y0 y':=⟨ek2,et2,eo2,by assumption⟩;obtain⟨_,x1,x2,x3⟩:=HI x';have x00:=(HI x').1;obtain⟨y00,y1,y2,y3⟩:=HI y';obtain⟨fx0,fx1,fx2,fx3⟩:=qa (k1.fm x' mx);obtain⟨fy0,fy1,fy2,fy3⟩:=qa (k2.fm y' my);have low:∀p q,(p∈x0.keys\/p∈x0.items)->(q∈y0.keys\/q∈y0.items)->(φ p∈x'.keys\/φ p∈x'.items)->(ψ q∈y'.keys\/ψ q∈y'.items)->iB N1 f (φ p)=iB N2 g (ψ q)->xg N f p q:=λp q hp hq hp' hq' e=>by
   have m2:=(k1.dn _ x' hx' _ hp').2;have m4:=(k2.dn _ y' hy' _ hq').2;exact ih g p q (.step hi ⟨x0,hx0,hp⟩) (.step hj ⟨y0,hy0,hq⟩) (by omega) (by omega) e
  have l:om x'=0\/(om x'=1\/om x'=2)\/om x'=3:=by unfold om;split<;>(try split)<;>(try split)<;>simp
  refine⟨x0,y0,hx0,hy0,?_⟩;rcases l with l|l|l
  .have kx:=x00 l;have ky:=y00 (hc▸l);obtain⟨q1,q2⟩:=c0 l;have n1:=fx3 kx;have n2:=fy3 ky;have ox:=l1.od x' mx (by omega);have oy:=l2.od y' my (by omega);refine⟨by omega,by rw[<-et,<-et2];exact Tf q1,by rw[<-eo,<-eo2,ox,oy],by omega,?_⟩;rw[AT (by omega)];intro a p q hp hq;obtain rfl:a=0:=by have:=(List.getElem?_eq_some_iff.1 hp).1;omega
   obtain⟨a',ta,_,tb⟩:=Ex.to hp;obtain⟨b',ua,_,ub⟩:=Ey.to hq;obtain rfl:=tb (by omega);obtain rfl:=ub (by omega);have e1:=gb ta;have e2:=gb ua;refine⟨low p q (.inr (BY hp)) (.inr (BY hq)) (.inr (BY ta)) (.inr (BY ua)) ?_,λh=>by omega⟩;rw[<-e1,<-e2];exact q2
  .have n1:x'.kind<9:=by
    rcases l with l|l
    .have:=x1 l;omega
    .exact (x2 l).2.2
   have n2:y'.kind<9:=by
    rcases l with l|l
    .have:=y1 (hc▸l);omega
    .exact (y2 (hc▸l)).2.2
   obtain⟨q1,q2⟩:=lf x' mx y' my n1 n2 (c12 l);have ox:=l1.od x' mx (by omega);have oy:=l2.od y' my (by omega);have zx:x'.items.length=0:=by rw[fx2 n1];rfl
   have zy:y'.items.length=0:=by rw[fy2 n2];rfl
   refine⟨by omega,by rw[<-et,<-et2];exact q2,by rw[<-eo,<-eo2,ox,oy],by omega,?_⟩;rw[AT (by omega)];intro a p q hp;have:=(List.getElem?_eq_some_iff.1 hp).1;omega
  .obtain⟨p1,p2⟩:=x3 l;obtain⟨p3,p4⟩:=y3 (hc▸l);obtain⟨b1,b2,b3,b4⟩:=c3 l;have hk:x'.kind=y'.kind:=by
    by_cases h:x'.kind=10
    .rw[h,b1.1 h]
    .have:¬y'.kind=10:=λh2=>h (b1.2 h2);omega
   have ho:x'.ord=y'.ord:=by
    by_cases h:x'.kind=10
    .exact b2 h
    .rw[l1.od x' mx h,l2.od y' my (by omega)]
   have hl:x'.items.length=y'.items.length:=by rw[<-pn hx',<-pn hy',b3]
   have htx:x'.text=y'.text:=Tf (by rw[l1.tx x' mx (by omega) p1,l2.tx y' my (by omega) p3]);refine⟨by omega,by rw[<-et,<-et2,htx],by rw[<-eo,<-eo2,ho],by omega,?_⟩;split
   .rename_i c;intro a kx p hkx hp;obtain⟨a',ta,tk,_⟩:=Ex.to hp;have tk:=tk c.1 kx hkx;have ha:=(List.getElem?_eq_some_iff.1 ta).1;obtain⟨t,ht⟩:=acW hx' ha;have htl:t<y'.items.length:=by
     have:=(List.getElem?_eq_some_iff.1 ht).1;rw[pn hx'] at this;omega
    obtain⟨b',hb,hbl⟩:=acX hy' htl;obtain⟨r1,r2⟩:=b4 t _ _ ht hb;obtain⟨b,q,uq,eq,uk,_⟩:=Ey.of (aah hbl);have c10:x'.kind=10:=(by rw[ek];exact c.1);have y10:y0.kind=10:=(by rw[<-ek2];exact b1.1 c10);have hb2:=(List.getElem?_eq_some_iff.1 uq).1;obtain⟨kyv,g1⟩:∃kyv,y0.keys[b]?=some kyv:=⟨_,aah (by rw[hM y0 (az hy0) y10];exact hb2)⟩;have g1':=uk y10 _ g1;have g2':y'.items[b']?=some (ψ q):=(by rw[aah hbl,eq]);refine⟨b,_,_,g1,uq,low kx _ (.inl (BY hkx)) (.inl (BY g1)) (.inl (BY tk)) (.inl (BY g1')) ?_,
     low p _ (.inr (BY hp)) (.inr (BY uq)) (.inr (BY ta)) (.inr (BY g2')) ?_⟩
    .rw[<-gb tk,<-gb g1'];exact r1 c10
    .rw[<-gb ta,<-gb g2'];exact r2
   .rename_i c;intro a p q hp hq;have c':¬(x'.kind=10/\x'.ord=false):=(by rw[ek,eo];exact c);have d':¬(y'.kind=10/\y'.ord=false):=(by rw[<-hk,<-ho];exact c');obtain⟨a',ta,tk,tb⟩:=Ex.to hp;obtain⟨b',ua,uk,ub⟩:=Ey.to hq;obtain rfl:=tb c;obtain rfl:=ub (by rw[<-ek2,<-eo2];exact d');have ha:=(List.getElem?_eq_some_iff.1 ta).1;have i1:(gI N1 (φ i))[b']?=some (b':Int):=(by rw[OA hx' c'];exact rl ha);have i2:(gI N2 (ψ j))[b']?=some (b':Int):=(by rw[OA hy' d'];exact rl (by omega));obtain⟨r1,r2⟩:=b4 b' _ _ i1 i2;refine⟨low p q (.inr (BY hp)) (.inr (BY hq)) (.inr (BY ta)) (.inr (BY ua)) (by rw[<-gb ta,<-gb ua];exact r2),λh kx ky hkx hky=>?_⟩;have tk:=tk h kx hkx;have uk:=uk (by omega) ky hky;exact low kx ky (.inl (BY hkx)) (.inl (BY hky)) (.inl (BY tk)) (.inl (BY uk)) (by rw[<-gb tk,<-gb uk];exact r1 (by omega))
end
section
theorem Tg {x:ah}(h:jc x=some true):(x.kind≠10->x.ord=false)/\(9<=x.kind->x.kind≠11->x.text.data.toList=[]):=by
 obtain⟨k0,k1,_,_⟩:=qa h;unfold jc at h;by_cases h9:x.kind=9
 .rw[By h9] at h;simp only[aai,aag,OF,ajr] at h;exact⟨λ_=>h.1.2,λ_ _=>by rw[kM h.1.1];rfl⟩
 rw[AT h9] at h;by_cases h10:x.kind=10
 .rw[By h10] at h;simp only[aai,aag,OF] at h;exact⟨λq=>absurd h10 q,λ_ _=>by rw[kM h.1];rfl⟩
 rw[AT h10] at h;by_cases h11:x.kind=11
 .simp_all
 rw[AT h11] at h;refine⟨λ_=>?_,λh=>by omega⟩;split at h
 .simp_all
 .cases h
end
section
theorem Th {b:UInt8}(h:uX b=true):pX b=true:=by
 unfold uX at h;simp only[aag,Nat.ble_eq] at h;unfold pX;simp[h.1,h.2]
theorem Ja {s:ζ}(h:oQ s=true):(∀b∈s.data.toList,pX b=true)/\s.data.toList≠[]:=by
 unfold oQ at h;generalize s.data.toList=l at h⊢;simp only[aag,OF] at h;obtain⟨⟨h1,_,_⟩,h2⟩:=h;have h2:=List.all_eq_true.1 h2;cases l with
 |nil=>simp at h1
 |cons c r=>
  refine⟨λb hb=>?_,by simp⟩;split at h2
  .rename_i q;rcases List.mem_cons.1 hb with rfl|hb
   .have:b=45:=(by simpa using q.2);rw[this];decide
   .exact Th (h2 b hb)
  .exact Th (h2 b hb)
theorem ZR {s:ζ}(h:DT s=true):(∀b∈s.data.toList,N5 b=true)/\(101:UInt8)∈s.data.toList:=by
 have hn:∀{b:UInt8},pX b=true->N5 b=true:=λh=>by unfold N5;rw[h];rfl
 unfold DT at h;split at h
 .cases h
 split at h
 .cases h
 split at h
 .cases h
 split at h
 .rename_i h0 h1 _ _ e he;obtain⟨i,hi⟩:∃i:Nat,Lib.indexByte s.data.toList 101=i:=⟨(Lib.indexByte s.data.toList 101).toNat,by omega⟩;rw[hi] at h1 he;have hg:=(Lib.indexByte_some hi).1;have hm:(101:UInt8)∈s.data.toList:=BY hg;refine⟨?_,hm⟩;have a:=(Ja (by simpa using h1:oQ (s.extract 0 i)=true)).1;have b:=YF he;have el:s.data.toList=(s.extract 0 i).data.toList++101::(s.extract (i+1) s.size).data.toList:=by
   have hs:s.size=s.data.toList.length:=rfl;have q1:(s.extract 0 i).data.toList=s.data.toList.take i:=by simp[ajD]
   have q2:(s.extract (i+1) s.size).data.toList=s.data.toList.drop (i+1):=by
    simp only[ajD,Array.toList_extract,List.extract_eq_drop_take];exact agw (by rw[ajw];omega)
   rw[q1,q2];obtain⟨hlt,hv⟩:=List.getElem?_eq_some_iff.1 hg;rw[<-hv,List.getElem_cons_drop,akT]
  intro c hc;rw[el] at hc;rcases List.mem_append.1 hc with hc|hc
  .exact hn (a c hc)
  .rcases List.mem_cons.1 hc with rfl|hc
   .decide
   .exact b c (by simpa using hc)
 .cases h
theorem HJ {k:Int}{t:ζ}(h:A7 k t=some true):SX k t.data.toList:=by
 unfold A7 at h;by_cases k0:k=0
 .rw[By k0] at h;have e:=kM (aas h);subst k0;exact⟨by omega,by omega,λ_=>by rw[e];rfl,λq=>by omega,λq=>by omega,λq=>by omega,λq=>by omega,λq=>by omega⟩
 rw[AT k0] at h;by_cases k1:k=1
 .rw[By k1] at h;subst k1;refine⟨by omega,by omega,λq=>by omega,λ_=>?_,λq=>by omega,λq=>by omega,λq=>by omega,λq=>by omega⟩;have h:=aas h;rw[ajc] at h;exact h.elim (λh=>.inl (by rw[kM h];rfl)) λh=>.inr (by rw[kM h];rfl)
 rw[AT k1] at h;by_cases k2:k=2
 .rw[By k2] at h;subst k2;exact⟨by omega,by omega,λq=>by omega,λq=>by omega,λ_=>Ja (aas h),λq=>by omega,λq=>by omega,λq=>by omega⟩
 rw[AT k2] at h;by_cases k5:k=5
 .subst k5;exact⟨by omega,by omega,λq=>by omega,λq=>by omega,λq=>by omega,λq=>by omega,λq=>by omega,λq=>by omega⟩
 rw[AT k5] at h;by_cases k6:k=6
 .subst k6;exact⟨by omega,by omega,λq=>by omega,λq=>by omega,λq=>by omega,λq=>by omega,λq=>by omega,λq=>by omega⟩
 rw[AT k6] at h;by_cases k3:k=3
 .rw[By k3] at h;subst k3;exact⟨by omega,by omega,λq=>by omega,λq=>by omega,λq=>by omega,λ_=>ZR (aas h),λq=>by omega,λq=>by omega⟩
 rw[AT k3] at h;by_cases k4:k=4
 .rw[By k4] at h;subst k4;exact⟨by omega,by omega,λq=>by omega,λq=>by omega,λq=>by omega,λq=>by omega,λ_=>ab0 (aas h),λq=>by omega⟩
 rw[AT k4] at h;by_cases k7:k=7
 .rw[By k7] at h;subst k7;obtain⟨y,hy,e⟩:=YW (aas h);refine⟨by omega,by omega,λq=>by omega,λq=>by omega,λq=>by omega,λq=>by omega,λq=>by omega,λ_ b hb=>?_⟩;rw[e] at hb;exact (List.mem_append.1 hb).elim (λh=>.inl (hy.1 b h)) λh=>.inr (List.mem_singleton.1 h)
 rw[AT k7] at h;by_cases k8:k=8
 .rw[By k8] at h;subst k8;exact⟨by omega,by omega,λq=>by omega,λq=>by omega,λq=>by omega,λq=>by omega,λq=>by omega,λ_ b hb=>.inl ((ach (aas h)).1 b hb)⟩
 rw[AT k8] at h;cases h
theorem Mj {x:ah}(h:jc x=some true)(hk:x.kind<9):A7 x.kind x.text=some true:=by
 unfold jc at h;rw[AT (by omega),AT (by omega),AT (by omega)] at h;split at h
 .exact h
 .cases h
theorem po (x:ah):nQ x=lfB (λt=>t.flatMap rJ) (λt=>t.flatMap vE) x.kind x.text.data.toList:=rfl
theorem Mk {p:UInt8->Bool}{l:List UInt8}(h:∀b∈l,p b=true)(hn:l≠[])(hp:([44,61,93,125,62,41,34,33,91,123,60]:List UInt8).all (λc=>!p c)=true) :
  NE l/\(∀b∈l,vw b=false)/\∀b t,l=b::t->b≠34/\b≠33/\b≠91/\b≠123/\b≠60:=by
 have q:∀c∈([44,61,93,125,62,41,34,33,91,123,60]:List UInt8),∀b∈l,b≠c:=λc hc b hb e=>by
  subst e;have:=List.all_eq_true.1 hp b hc;rw[h b hb] at this;cases this
 have st:∀b∈l,vw b=false:=λb hb=>by
  unfold vw;simp[q 44 (by decide) b hb,q 61 (by decide) b hb,q 93 (by decide) b hb,q 125 (by decide) b hb,q 62 (by decide) b hb,q 41 (by decide) b hb]
 refine⟨?_,st,λb t e=>?_⟩
 .cases l with
  |nil=>exact absurd rfl hn
  |cons b t=>exact⟨b,t,rfl,st b IT⟩
 .have hb:b∈l:=by rw[e];exact IT
  exact⟨q 34 (by decide) b hb,q 33 (by decide) b hb,q 91 (by decide) b hb,q 123 (by decide) b hb,q 60 (by decide) b hb⟩
theorem ahD (t:List UInt8):∀b∈t.flatMap vE,yY.contains b=true:=by
 intro b hb;obtain⟨c,_,hc⟩:=List.mem_flatMap.1 hb;have hlt:=c.toNat_lt;have m:∀i,i<16->yY.contains (yY.getD i 0)=true:=by decide
 unfold vE at hc;rcases List.mem_cons.1 hc with rfl|hc
 .exact m _ (by omega)
 .obtain rfl:=List.mem_singleton.1 hc;exact m _ (by omega)
theorem ajg {x:ah}(h:jc x=some true)(hk:x.kind<9):LF x:=by
 obtain⟨k0,k9,h0,h1,h2,h3,h4,h7⟩:=HJ (Mj h hk);have q:x.kind=0\/x.kind=1\/x.kind=2\/x.kind=3\/x.kind=4\/x.kind=5\/x.kind=6\/x.kind=7\/x.kind=8:=by omega
 unfold LF;rcases q with q|q|q|q|q|q|q|q|q
 .right;rw[po,q,show lfB (λt=>t.flatMap rJ) (λt=>t.flatMap vE) 0 x.text.data.toList=[110,117,108,108] from rfl];exact Mk (p:=λb=>([110,117,108]:List UInt8).contains b) (by decide) (by decide) (by decide)
 .right;rw[po,q];show NE x.text.data.toList/\(∀b∈x.text.data.toList,vw b=false)/\∀b t,x.text.data.toList=b::t->b≠34/\b≠33/\b≠91/\b≠123/\b≠60;rcases h1 q with e|e<;>rw[e]
  .exact Mk (p:=λb=>([116,114,117,101]:List UInt8).contains b) (by decide) (by decide) (by decide)
  .exact Mk (p:=λb=>([102,97,108,115,101]:List UInt8).contains b) (by decide) (by decide) (by decide)
 .right;rw[po,q];exact Mk (h2 q).1 (h2 q).2 (by decide)
 .right;rw[po,q];exact Mk (h3 q).1 (ajU (h3 q).2) (by decide)
 .right;rw[po,q];exact Mk (h4 q).1 ((h4 q).2.elim ajU ajU) (by decide)
 .exact .inl q
 .right;rw[po,q];refine Mk (p:=λb=>yY.contains b||b==35) (λb hb=>?_) (akJ 35 _) (by decide);rcases List.mem_cons.1 (show b∈35::x.text.data.toList.flatMap vE from hb) with rfl|hb
  .decide
  .rw[ahD _ b hb];rfl
 .right;rw[po,q];refine Mk (p:=λb=>DW b||b==90||b==64||b==37) (λb hb=>?_) (akJ 64 _) (by decide);rcases List.mem_cons.1 (show b∈64::x.text.data.toList from hb) with rfl|hb
  .decide
  .rcases h7 (.inl q) b hb with e|rfl
   .simp[e]
   .decide
 .right;rw[po,q];refine Mk (p:=λb=>DW b||b==90||b==64||b==37) (λb hb=>?_) (akJ 37 _) (by decide);rcases List.mem_cons.1 (show b∈37::x.text.data.toList from hb) with rfl|hb
  .decide
  .rcases h7 (.inr q) b hb with e|rfl
   .simp[e]
   .decide
theorem OB {x y:ah}(hQ:∀s t,D8 s=D8 t->s=t)(hX:∀s t:List UInt8,s.flatMap vE=t.flatMap vE->s=t)(hx:jc x=some true)(hy:jc y=some true)(kx:x.kind<9)(ky:y.kind<9)(e:nQ x=nQ y):x.kind=y.kind/\x.text.data.toList=y.text.data.toList:=by
 rw[po,po] at e;exact agi hQ hX (HJ (Mj hx kx)) (HJ (Mj hy ky)) e
end
section
variable {N:List ah}{H:Int->Nat}
theorem ajh (hf:∀x∈N,jc x=some true)(dn:∀i x,gt N i=some x->∀v,v∈x.keys\/v∈x.items->IR N.length v/\H v<H i):KX N H where
 dn:=dn
 fm:=hf
 kl:=λx hx h10=>by
  have h:=hf x hx;unfold jc at h;rw[AT (by omega),By h10] at h;simp only[aai,aag,OF] at h;exact h.2
 sc:=λx hx h=>ajg (hf x hx) h
 tg:=λx hx h11 b hb=>by
  have h:=hf x hx;unfold jc at h;rw[AT (by omega),AT (by omega),By h11] at h;simp only[aai,aag] at h;exact YV h.1.1.1 b hb
theorem ahE (hf:∀x∈N,jc x=some true):KLf N where
 lf:=λx hx y hy kx ky e=>by
  obtain⟨a,b⟩:=OB (λ_ _=>Ow) (λ_ _=>hex_inj) (hf x hx) (hf y hy) kx ky e;exact⟨a,Tf b⟩
 od:=λx hx h=>(Tg (hf x hx)).1 h
 tx:=λx hx h9 h11=>(Tg (hf x hx)).2 h9 h11
end
section
variable {N:List ah}{root v w:Int}
theorem Ml (fw:mf N)(h0:Sh.gc N root=0)(kv:KN N v):∃N' φ H,BU N v N' φ/\KX N' H/\KLf N'/\(∀x∈N',jc x=some true)/\IR N'.length (φ v)/\H (φ v)<100/\AW N root v=ofBytes (iB N' 100 (φ v)):=by
 have d:=fw.vdg h0;obtain⟨N',r,φ,ek,I,hφ,g',fw',e⟩:=VR fw h0 kv;obtain⟨N2,r2,ek2,_,H,hH1,hH2⟩:=HD d fw fw.k0 kv;rw[ek] at ek2;cases ek2;refine⟨N',φ,H,I,ajh g'.fm λi x hx u hu=>⟨?_,hH2 i u ⟨x,hx,hu⟩⟩,ahE g'.fm,g'.fm,by rw[hφ];exact g'.rt,by have:=hH1 (φ v);omega,by rw[hφ];exact e⟩;exact g'.ix.Fb ⟨x,hx,hu⟩
theorem ED {s t:List UInt8}(h:ofBytes s=ofBytes t):s=t:=by
 have:=ahv (λb:ζ=>b.data.toList) h;exact this
theorem ahF (fw:mf N)(h0:Sh.gc N root=0){x:ah}(hx:x∈N){i j:Nat}(hi:x.keys[i]?=some v)(hj:x.keys[j]?=some w)(e:AW N root v=AW N root w):i=j:=by
 have g:=fw.gv.1 h0;have d:=fw.vdg h0;have kv:KN N v:=.key hx (BY hi);have kw:KN N w:=.key hx (BY hj);obtain⟨N1,φ,H1,I,k1,l1,f1,r1,b1,e1⟩:=Ml fw h0 kv;obtain⟨N2,ψ,H2,J,k2,l2,f2,r2,b2,e2⟩:=Ml fw h0 kw;rw[e1,e2] at e;have e:=ED e;have hM:∀x∈N,p9 x:=λx hx h=>d.map hx h;have s:xg N 100 v w:=VT I J g (kv.ir d.ix) (kw.ir d.ix) hM k1 k2 l1 l2 (λx hx y hy kx ky e=>by
  obtain⟨a,b⟩:=OB (λ_ _=>Ow) (λ_ _=>hex_inj) (f1 x hx) (f2 y hy) kx ky e;exact⟨a,Tf b⟩) 100 100 v w .refl .refl b1 b2 e
 have pw:=List.pairwise_iff_getElem.1 (g.tw x hx);obtain⟨q1,q2⟩:=List.getElem?_eq_some_iff.1 hi;obtain⟨q3,q4⟩:=List.getElem?_eq_some_iff.1 hj;rcases akD i j with h|h|h
 .have:=pw i j q1 q3 h;rw[q2,q4] at this;exact (this ⟨100,tu hM g.tw s⟩).elim
 .exact h
 .have:=pw j i q3 q1 h;rw[q2,q4] at this;exact (this ⟨100,s⟩).elim
theorem ahG (fw:mf N)(h0:Sh.gc N root=0)(kv:KN N v):AW N root v≠ofBytes []:=λe=>by
 obtain⟨N1,φ,H1,I,k1,_,_,r1,b1,e1⟩:=Ml fw h0 kv;rw[e1] at e;have e:=ED e;obtain⟨b,t,q,_⟩:=yj k1 100 (φ v) r1 b1;rw[q] at e;cases e
end
end Go.Sh
