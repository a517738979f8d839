
import Derived.Test.YtdbjhobkhjneeaaGreatDoorPal
import Derived.Test.YtdbjhobkhjneeaaGreatDoorSl0
set_option linter.all false
namespace Go.Sh
open Go Go.Ago Go.Proofs
section
variable {α β:Type}{h h' h0:aj}{L R:List bN}{N N2:List al}{root:Int}{B:Nat}{Q:β->aj->Prop}
theorem zE (a b:ζ):mM a b=true↔a=b:=⟨iH,λe=>by subst e;rw[qC];simp⟩
noncomputable def Kx (N:List al)(r:Int)(N2:List al)(s:Int)(x y:al):Option (List ζ):=
 open Classical in
 if x.kind≠y.kind\/x.text≠y.text\/x.ord≠y.ord\/x.items.length≠y.items.length then none
 else if x.keys.map (qz N r)=y.keys.map (qz N2 s) then some (x.keys.map (qz N r)) else none
def aj2 (z:Z h0 h L){s:Sl}{T:List ζ}{g:Nat}(hm:bN.sl s 1 eD (T.map .string) g∈L){i:Nat}{t:ζ}(ht:T[i]?=some t){f:Addr->M β}(q:∀a g,Cl h a [.string t] g->Wp (f a) h Q):Wp (sh (mT s (i:Int) 1) f) h Q:=by
 have o:uQ h s 1 eD (T.map .string) g:=(z.own _ hm).1;exact vj.XH (enc:=Value.string) o.Jg (by omega) (by simpa using ht) λa c=>q a g c
theorem aaT (z:Z h0 h L){k l:Sl}{T U:List ζ}{g g':Nat}(hk:bN.sl k 1 eD (T.map .string) g∈L)(hl:bN.sl l 1 eD (U.map .string) g'∈L)(hlen:T.length=U.length)(hb:T.length<=80):∀(n i:Nat),T.length-i<n->i<=T.length ->
  Wp (po n k l (T.length:Int) (i:Int)) h λr h'=>h'=h/\((r=.inl ()/\T.drop i=U.drop i)\/(r=.inr (pY,false)/\T.drop i≠U.drop i)):=by
 intro n
 induction n with
 |zero=>intro i h1;omega
 |succ n ih=>
  intro i h1 h2;rw[Ca];unfold tY;by_cases hi:i<T.length
  .rw[By (by simpa using hi)];obtain⟨t,ht⟩:=gG (l:=T) hi;obtain⟨u,hu⟩:=gG (l:=U) (i:=i) (by omega);refine aj2 z hk ht λa ga ca=>aj2 z hl hu λb gb cb=>?_;refine ca.tn (l:=.str) rfl rfl (cb.tn (l:=.str) rfl rfl ?_);rw[drop_cons ht,drop_cons hu];by_cases he:t=u
   .rw[AT (by simpa using (zE t u).2 he),w3 (B:=80) (by omega) (by omega)];refine (ih (i+1) (by omega) (by omega)).mono λr h' hr=>?_
    simp_all
   .have hne:mM t u=false:=by
     grind [mM,absurd,zE]
    rw[By (by rw[hne];rfl)];exact af.2 ⟨rfl,.inr ⟨rfl,λe=>he (amH e).1⟩⟩
  .rw[AT (by simpa using hi)];refine af.2 ⟨rfl,.inl ⟨rfl,?_⟩⟩
   grind
def aaU {s1 s2:Sl}{r1 r2 a b:Int}{x y:al}(z:Z h0 h L)(G1:lJ h0 s1 N)(G2:lJ h0 s2 N2)(f1:eZ N)(f2:eZ N2)(i1:jE N N.length)(i2:jE N2 N2.length)
  (m1:x.keys.length=(if x.kind=10 then x.items.length else 0)) (m2:y.keys.length=(if y.kind=10 then y.items.length else 0)) (hx:gt N a=some x) (hy:gt N2 b=some y) {n:Nat} (hn:fuQ+200<=n) :
  Wp (xm n (s1,r1) (s2,r2) (a,b)) h λr h'=>match Kx N r1 N2 r2 x y with
   |none=>r.2=false/\Z h0 h' L
   |some T=>r.2=true/\∃g,Z h0 h' (.sl r.1 1 eD (T.map .string) g::L):=by
 unfold xm;refine z.new λx0 h1 z _=>z.new λx1 h2 z _=>z.new λx2 h3 z _=>?_;refine z.eE (n:=16) [12,13] (by decide) (by simp) λkb h4 z=>?_;refine z.ld 4 (o:=0) (l:=.sl) (x:=s1) ?_;refine z.ld 2 (o:=0) (x:=a) ?_;refine G1.RX z (aB hx).1 (aB hx).2 λp ks is nd=>?_;refine (nd.fr z.fr).fI ?_;refine z.ld 3 (o:=0) (l:=.sl) (x:=s2) ?_;refine z.ld 2 (o:=1) (x:=b) ?_;refine G2.RX z (aB hy).1 (aB hy).2 λp' ks' is' nd'=>?_;refine (nd'.fr z.fr).fI ?_;refine z.newAt 0 λh5 z=>z.newAt 1 λh6 z=>?_;have z:Z h0 h6 (.ar (kb+12) [vi 0,Value.string (ofBytes []),Value.bool false,aI,aI] az::.ar (kb+13) [vi 0,Value.string (ofBytes []),Value.bool false,aI,aI] az::.ar x2 [vi a,vi b] cG::.ar x1 [aC s2,vi r2] ah::.ar x0 [aC s1,vi r1] ah::L):=z;refine z.stC 0 (cs':=[vi x.kind,.string x.text,.bool x.ord,aC ks,aC is]) (λq hq=>?_) λh7 z=>?_
 .simp only[ak3,abo,al3,anG] at hq;rcases hq with rfl|rfl|rfl
  .exact z.nbO 0 3 rfl rfl (by decide)
  .exact z.nbO 0 2 rfl rfl (by decide)
  .obtain⟨g,c⟩:=nd'.cl;exact z.nb0 0 c rfl
 refine z.st 1 (cs':=[vi y.kind,.string y.text,.bool y.ord,aC ks',aC is']) λh8 z=>?_;have z:Z h0 h8 (.ar (kb+12) [vi x.kind,.string x.text,.bool x.ord,aC ks,aC is] az::.ar (kb+13) [vi y.kind,.string y.text,.bool y.ord,aC ks',aC is'] az::.ar x2 [vi a,vi b] cG::.ar x1 [aC s2,vi r2] ah::.ar x0 [aC s1,vi r1] ah::L):=z;have no:∀{h},Z h0 h (.ar (kb+12) [vi x.kind,.string x.text,.bool x.ord,aC ks,aC is] az::.ar (kb+13) [vi y.kind,.string y.text,.bool y.ord,aC ks',aC is'] az::.ar x2 [vi a,vi b] cG::.ar x1 [aC s2,vi r2] ah::.ar x0 [aC s1,vi r1] ah::L)->Kx N r1 N2 r2 x y=none->Wp (AI (pY,false):M (Sl×Bool)) h λr h'=>match Kx N r1 N2 r2 x y with
   |none=>r.2=false/\Z h0 h' L
   |some T=>r.2=true/\∃g,Z h0 h' (.sl r.1 1 eD (T.map .string) g::L):=λz e=>by
  rw[e];exact af.2 ⟨rfl,z.drop.drop.drop.drop.drop⟩
 have b1:=(f1.map x (aq hx)).1;refine z.ld 0 (o:=0) (x:=x.kind) (z.ld 1 (o:=0) (x:=y.kind) ?_);by_cases c1:x.kind=y.kind
 .rw[AT (by simpa using c1)];refine z.ld 0 (o:=1) (l:=.str) (x:=x.text) (z.ld 1 (o:=1) (l:=.str) (x:=y.text) ?_);by_cases c2:x.text=y.text
  .rw[AT (by simpa using (zE _ _).2 c2)];refine z.ld 0 (o:=2) (l:=.bool) (x:=x.ord) (z.ld 1 (o:=2) (l:=.bool) (x:=y.ord) ?_);by_cases c3:x.ord=y.ord
   .rw[AT (by rw[c3];cases y.ord<;>decide)];refine z.ld 0 (o:=4) (l:=.sl) (x:=is) (z.ld 1 (o:=4) (l:=.sl) (x:=is') ?_);rw[nd.items.len,nd'.items.len];by_cases c4:x.items.length=y.items.length
    .rw[AT (by simp[c4])];unfold wL;refine z.fI 4 (x:=((s1,r1):eC [.sl,li])) ?_;refine z.fI 0 (x:=((x.kind,x.text,x.ord,ks,is):eC [li,.str,.bool,.sl,.sl])) ?_;refine z.fI 3 (x:=((s2,r2):eC [.sl,li])) ?_;refine z.fI 1 (x:=((y.kind,y.text,y.ord,ks',is'):eC [li,.str,.bool,.sl,.sl])) ?_;refine Eh (P:=λr h'=>∃g,Z h0 h' (.sl r 1 eD (x.keys.map λv=>Value.string (qz N r1 v)) g::.ar (kb+12) [vi x.kind,.string x.text,.bool x.ord,aC ks,aC is] az::.ar (kb+13) [vi y.kind,.string y.text,.bool y.ord,aC ks',aC is'] az::.ar x2 [vi a,vi b] cG::.ar x1 [aC s2,vi r2] ah::.ar x0 [aC s1,vi r1] ah::L)) (λq hq=>?_) (Tf z G1 f1 (aq hx) i1 nd.keys (by omega)) λk h9 hk=>?_
     .simp only[ak3,abo,al3,anG] at hq;rcases hq with rfl|rfl
      .exact⟨_,_,(z.get 3 rfl:LB _ x1 [aC s2,vi r2] ah),λr h' hp=>by obtain⟨g,zp⟩:=hp;exact (zp.get 4 rfl:LB _ x1 [aC s2,vi r2] ah)⟩
      .exact⟨_,_,(z.get 1 rfl:LB _ (kb+13) [vi y.kind,.string y.text,.bool y.ord,aC ks',aC is'] az),λr h' hp=>by obtain⟨g,zp⟩:=hp;exact (zp.get 2 rfl:LB _ (kb+13) [vi y.kind,.string y.text,.bool y.ord,aC ks',aC is'] az)⟩
     obtain⟨g,z9⟩:=hk;rw[ag];refine (Tf z9 G2 f2 (aq hy) i2 nd'.keys (by omega)).mono λl h10 hl=>?_;obtain⟨g',z10⟩:=hl;have hkl:k.len=x.keys.length:=by
      have o:uQ h10 k 1 eD (x.keys.map λv=>Value.string (qz N r1 v)) g:=z10.get 1 rfl;have:=o.1;simp at this;omega
     have hkk:x.keys.length=y.keys.length:=(by rw[m1,m2,c1,c4]);have e1:(x.keys.map λv=>Value.string (qz N r1 v))=(x.keys.map (qz N r1)).map Value.string:=(by rw[alf];rfl);have e2:(y.keys.map λv=>Value.string (qz N2 r2 v))=(y.keys.map (qz N2 r2)).map Value.string:=(by rw[alf];rfl);rw[e1,e2] at z10;rw[hkl,ag];have b2:=(f1.map x (aq hx)).2;have lp:=aaT (T:=x.keys.map (qz N r1)) (U:=y.keys.map (qz N2 r2)) z10 (k:=k) (l:=l) (BY _ IS) IS (by simp[hkk]) (by simpa using b2) n 0 (by simp;omega) (by omega);rw[adR] at lp;refine lp.mono λr h11 hr=>?_;obtain⟨rfl,hr⟩:=hr;rw[akc,akc] at hr;have hn0:¬(x.kind≠y.kind\/x.text≠y.text\/x.ord≠y.ord\/x.items.length≠y.items.length):=(by simp[c1,c2,c3,c4]);rcases hr with⟨rfl,e⟩|⟨rfl,e⟩
     .have em:Kx N r1 N2 r2 x y=some (x.keys.map (qz N r1)):=(by unfold Kx;rw[AT hn0,By e]);rw[em];refine af.2 ⟨rfl,g,z10.drop.sub (List.Sublist.cons_cons _ ?_)⟩;exact List.Sublist.cons _ (List.Sublist.cons _ (List.Sublist.cons _ (List.Sublist.cons _ (List.Sublist.cons _ (aiX _)))))
     .have em:Kx N r1 N2 r2 x y=none:=(by unfold Kx;rw[AT hn0,AT e]);rw[em];exact af.2 ⟨rfl,z10.drop.drop.drop.drop.drop.drop.drop⟩
    .rw[By (by simp;omega)];exact no z (by unfold Kx;rw[By (by simp[c4])])
   .rw[By (by cases hxo:x.ord<;>cases hyo:y.ord<;>simp_all)];exact no z (by unfold Kx;rw[By (by simp[c3])])
  .have hne:mM x.text y.text=false:=by
    cases hq:mM x.text y.text with
    |false=>rfl
    |true=>exact absurd ((zE _ _).1 hq) c2
   rw[By (by rw[hne];rfl)];exact no z (by unfold Kx;rw[By (by simp[c2])])
 .rw[By (by simpa using c1)];exact no z (by unfold Kx;rw[By (by simp[c1])])
end
section
variable {N N2:List al}{r s:Int}
abbrev IP:=Int×Int
abbrev PT:=List (Int×ζ)
def stp (T:List ζ)(i:Nat):Int×ζ:=match T[i]? with
 |some t=>(0,t)
 |none=>((i:Int),ofBytes [])
def srL (F:List IP->IP->Option (List IP×Option PT))(T:List ζ):Nat->ε->ε->List IP->Option (List IP×Option PT)
 |i,x::xs,y::ys,met=>match F met (x,y) with
  |none=>none
  |some (m',some p)=>some (m',some (stp T i::p))
  |some (m',none)=>srL F T (i+1) xs ys m'
 |_,[],_,met=>some (met,none)
 |_,_::_,[],met=>some (met,none)
noncomputable def srF (N:List al)(r:Int)(N2:List al)(s:Int):Nat->List IP->IP->Option (List IP×Option PT)
 |0,_,_=>none
 |f+1,met,q=>if q∈met then some (met,none) else match gt N q.1,gt N2 q.2 with
  |some x,some y=>match Kx N r N2 s x y with
   |none=>some (q::met,some [])
   |some T=>srL (srF N r N2 s f) T 0 x.items y.items (q::met)
  |_,_=>none
def Ph (n m:Nat):List IP:=(List.range n).flatMap λ(i:Nat)=>(List.range m).map λ(j:Nat)=>(((i:Int),(j:Int)):IP)
theorem aaV {n m:Nat}{q:IP}(h1:IR n q.1)(h2:IR m q.2):q∈Ph n m:=by
 obtain⟨a,b⟩:=q;refine List.mem_flatMap.2 ⟨a.toNat,List.mem_range.2 (by have:=h1.1;have:=h1.2;simp only at *;omega),List.mem_map.2 ⟨b.toNat,List.mem_range.2 (by have:=h2.1;have:=h2.2;simp only at *;omega),?_⟩⟩;have:=h1.1;have:=h2.1
 grind
def aaW (n m:Nat):(Ph n m).length=n*m:=by
 unfold Ph;rw[List.length_flatMap];simp only[adR,List.length_range];rw[List.map_const',List.sum_replicate_nat,List.length_range]
def un (P met:List IP):Nat:=P.countP λq=>decide (q∉met)
theorem Tu {P met m':List IP}(h:∀u∈met,u∈m'):un P m'<=un P met:=by
 unfold un;exact List.countP_mono_left λq _ hq=>by
  grind
theorem Tv:∀{P met:List IP} {q:IP},q∈P->q∉met->un P (q::met)+1<=un P met
 |[],_,_,h,_=>by simp at h
 |p::P,met,q,h,hn=>by
  have base:∀P,un P (q::met)<=un P met:=λP=>Tu λu hu=>BY _ hu;unfold un at base⊢;rw[am8,am8];by_cases e:p=q
  .grind
  .have ih:=Tv (P:=P) (List.mem_of_ne_of_mem (λx=>e x.symm) h) hn;unfold un at ih
   grind
def wk (N:List al):Int->η->Option Int
 |a,[]=>some a
 |a,i::π=>match gt N a with
  |none=>none
  |some x=>match x.items[i]? with
   |none=>none
   |some u=>wk N u π
def Ky (N:List al)(r:Int)(N2:List al)(s:Int)(q:IP)(m:List IP):Prop:=
 ∃x y T,gt N q.1=some x/\gt N2 q.2=some y/\Kx N r N2 s x y=some T/\∀(i:Nat) (u v:Int),x.items[i]?=some u->y.items[i]?=some v->(u,v)∈m
def Ky.mono {q:IP}{m m':List IP}(g:Ky N r N2 s q m)(h:∀u∈m,u∈m'):Ky N r N2 s q m':=by
 obtain⟨x,y,T,h1,h2,h3,h4⟩:=g;exact⟨x,y,T,h1,h2,h3,λi u v a b=>h _ (h4 i u v a b)⟩
def Bad (N:List al)(r:Int)(N2:List al)(s:Int)(q:IP)(π:η):Prop:=
 ∃a b x y,wk N q.1 π=some a/\wk N2 q.2 π=some b/\gt N a=some x/\gt N2 b=some y/\Kx N r N2 s x y=none
def alI (N:List al)(r:Int)(N2:List al)(s:Int)(met:List IP)(q:IP)(m':List IP)(res:Option PT):Prop:=
 (∀u∈met,u∈m')/\(∀u∈m',IR N.length u.1/\IR N2.length u.2\/u∈met)/\match res with
  |none=>q∈m'/\∀u∈m',u∈met\/Ky N r N2 s u m'
  |some _=>∃π,Bad N r N2 s q π
theorem Tw {x y:al}{T:List ζ}(h:Kx N r N2 s x y=some T):x.items.length=y.items.length/\T=x.keys.map (qz N r):=by
 unfold Kx at h
 grind
theorem Pj {f:Nat}{P:List IP}(F:List IP->IP->Option (List IP×Option PT))(hF:∀met q,un P met<f->IR N.length q.1->IR N2.length q.2->∃m' res,F met q=some (m',res)/\alI N r N2 s met q m' res){T:List ζ} :
  ∀(xs ys:ε) (i:Nat) (met:List IP),un P met<f->(∀v∈xs,IR N.length v)->(∀v∈ys,IR N2.length v)->∃m' res,srL F T i xs ys met=some (m',res)/\(∀u∈met,u∈m')/\(∀u∈m',IR N.length u.1/\IR N2.length u.2\/u∈met)/\match res with
   |none=>(∀(i:Nat) u v,xs[i]?=some u->ys[i]?=some v->(u,v)∈m')/\∀u∈m',u∈met\/Ky N r N2 s u m'
   |some _=>∃(i:Nat) (u v:Int) (π:η),xs[i]?=some u/\ys[i]?=some v/\Bad N r N2 s (u,v) π
 |[],ys,i,met,_,_,_=>⟨met,none,by unfold srL;rfl,λu h=>h,λu h=>.inr h,λi u v h=>by simp at h,λu h=>.inl h⟩
 |x::xs,[],i,met,_,_,_=>⟨met,none,by unfold srL;rfl,λu h=>h,λu h=>.inr h,λi u v _ h=>by simp at h,λu h=>.inl h⟩
 |x::xs,y::ys,i,met,hu,hx,hy=>by
  obtain⟨m1,r1,e1,s1,w1,t1⟩:=hF met (x,y) hu (hx x IS) (hy y IS);unfold srL;rw[e1];cases r1 with
  |some p=>
   obtain⟨π,b⟩:=t1;exact⟨m1,some (stp T i::p),rfl,s1,w1,0,x,y,π,rfl,rfl,b⟩
  |none=>
   obtain⟨t1,g1⟩:=t1;obtain⟨m2,r2,e2,s2,w2,t2⟩:=Pj F hF (T:=T) xs ys (i+1) m1 (amb (Tu s1) hu) (λv hv=>hx v (BY _ hv)) (λv hv=>hy v (BY _ hv));refine⟨m2,r2,e2,λu h=>s2 u (s1 u h),λu h=>?_,?_⟩
   .grind
   .cases r2 with
    |some p=>
     obtain⟨k,u,v,π,h1,h2,h3⟩:=t2;exact⟨k+1,u,v,π,by simpa using h1,by simpa using h2,h3⟩
    |none=>
     obtain⟨a,b⟩:=t2;refine⟨λk u v h1 h2=>?_,λu h=>?_⟩
     .grind
     .rcases b u h with q|q
      .rcases g1 u q with q2|q2
       .exact .inl q2
       .exact .inr (q2.mono s2)
      .exact .inr q
theorem Pk (i1:jE N N.length)(i2:jE N2 N2.length):∀(f:Nat) (met:List IP) (q:IP),un (Ph N.length N2.length) met<f->IR N.length q.1->IR N2.length q.2->∃m' res,srF N r N2 s f met q=some (m',res)/\alI N r N2 s met q m' res
 |0,_,_,h,_,_=>by omega
 |f+1,met,q,h,h1,h2=>by
  unfold srF;by_cases hm:q∈met
  .rw[By hm];exact⟨met,none,rfl,λu h=>h,λu h=>.inr h,hm,λu h=>.inl h⟩
  .rw[AT hm];obtain⟨x,hx⟩:=cP (l:=N) rfl h1;obtain⟨y,hy⟩:=cP (l:=N2) rfl h2;rw[hx,hy];simp only;have hc:=Tv (aaV h1 h2) hm;cases em:Kx N r N2 s x y with
   |none=>
    refine⟨q::met,some [],rfl,λu h=>BY _ h,λu h=>?_,[],q.1,q.2,x,y,rfl,rfl,hx,hy,em⟩
    grind
   |some T=>
    simp only;obtain⟨m2,r2,e2,s2,w2,t2⟩:=Pj (f:=f) (P:=Ph N.length N2.length) (srF N r N2 s f) (λmet q a b c=>Pk i1 i2 f met q a b c) (T:=T) x.items y.items 0 (q::met) (by omega) (i1 x (aq hx)).2 (i2 y (aq hy)).2;refine⟨m2,r2,e2,λu h=>s2 u (BY _ h),λu h=>?_,?_⟩
    .grind
    .cases r2 with
     |some p=>
      obtain⟨k,u,v,π,a1,a2,a,b,x',y',b1,b2,b3,b4,b5⟩:=t2;refine⟨k::π,a,b,x',y',?_,?_,b3,b4,b5⟩
      .grind [wk]
      grind [wk]
     |none=>
      obtain⟨a,b⟩:=t2;refine⟨s2 _ IS,λu h=>?_⟩;rcases b u h with q' | q'
      .rcases List.mem_cons.1 q' with rfl|h
       .exact .inr ⟨x,y,T,hx,hy,em,a⟩
       .exact .inl h
      .exact .inr q'
noncomputable def lbX (N:List al)(r:Int)(x:al):Int×ζ×Bool×Nat×List ζ:=(x.kind,x.text,x.ord,x.items.length,x.keys.map (qz N r))
noncomputable def lb (N:List al)(r:Int)(a:Int)(π:η):Option (Int×ζ×Bool×Nat×List ζ):=match wk N a π with
 |none=>none
 |some v=>(gt N v).map (lbX N r)
def Eqv (N:List al)(r a:Int)(N2:List al)(s b:Int):Prop:=∀π,lb N r a π=lb N2 s b π
def Eqv.refl {a:Int}:Eqv N r a N r a:=λ_=>rfl
theorem Eqv.symm {a b:Int}(h:Eqv N r a N2 s b):Eqv N2 s b N r a:=λπ=>(h π).symm
theorem aaX {x y:al}:(Kx N r N2 s x y).isSome↔lbX N r x=lbX N2 s y:=by
 unfold Kx lbX
 grind
theorem aaY {m:List IP}(hm:∀u∈m,Ky N r N2 s u m):∀(π:η) (q:IP),q∈m->lb N r q.1 π=lb N2 s q.2 π
 |[],q,hq=>by
  obtain⟨x,y,T,h1,h2,h3,h4⟩:=hm q hq
  grind [lb,wk,aaX]
 |i::π,q,hq=>by
  obtain⟨x,y,T,h1,h2,h3,h4⟩:=hm q hq;have hl:=(Tw h3).1;unfold lb wk;rw[h1,h2];simp only;by_cases hi:i<x.items.length
  .have e1:x.items[i]?=some x.items[i]:=aa9 hi;have e2:y.items[i]?=some (y.items[i]'(by omega)):=aa9 (by omega);rw[e1,e2];simp only;exact aaY hm π (x.items[i],y.items[i]'(by omega)) (h4 i _ _ e1 e2)
  grind
def WC:Nat:=1602
def aj3 (f1:eZ N)(f2:eZ N2)(met:List IP):un (Ph N.length N2.length) met<WC:=by
 have h1:un (Ph N.length N2.length) met<=(Ph N.length N2.length).length:=an0;rw[aaW] at h1;have:=f1.len;have:=f2.len;have h2:N.length*N2.length<=40*40:=ami (by omega) (by omega);unfold WC;omega
noncomputable def MA (N:List al)(r a:Int)(N2:List al)(s b:Int):Option PT:=match srF N r N2 s WC [] (a,b) with
 |some (_,res)=>res
 |none=>none
theorem Tx (f1:eZ N)(f2:eZ N2)(i1:jE N N.length)(i2:jE N2 N2.length){a b:Int}(ha:IR N.length a)(hb:IR N2.length b):∃m',srF N r N2 s WC [] (a,b)=some (m',MA N r a N2 s b)/\(MA N r a N2 s b=none↔Eqv N r a N2 s b):=by
 obtain⟨m',res,e,o1,o2,o3⟩:=Pk (r:=r) (s:=s) i1 i2 WC [] (a,b) (aj3 f1 f2 _) ha hb;have er:MA N r a N2 s b=res:=by unfold MA;rw[e]
 refine⟨m',by rw[er];exact e,?_⟩;rw[er];cases res with
 |none=>
  refine⟨λ_ π=>aaY (m:=m') (λu hu=>?_) π (a,b) o3.1,λ_=>rfl⟩;rcases o3.2 u hu with h|h
  .cases h
  .exact h
 |some p=>
  refine⟨λh=>(nomatch h),λh=>?_⟩;obtain⟨π,a',b',x,y,h1,h2,h3,h4,h5⟩:=o3;have:=h π
  grind [lb,Option.some.injEq,aaX]
end
section
variable {N M A B:List al}{φ ψ:Int->Int}{κ κ':Int->ζ}{H H2:Int->Nat}{F G:Int->List UInt8}{x y:al}
def lbK (κ:Int->ζ)(x:al):Int×ζ×Bool×Nat×List ζ:=(x.kind,x.text,x.ord,x.items.length,x.keys.map κ)
def lbP (κ:Int->ζ)(A:List al)(a:Int)(π:η):Option (Int×ζ×Bool×Nat×List ζ):=match wk A a π with
 |none=>none
 |some v=>(gt A v).map (lbK κ)
def EqK (κ:Int->ζ)(A:List al)(a:Int)(κ':Int->ζ)(B:List al)(b:Int):Prop:=∀π,lbP κ A a π=lbP κ' B b π
structure Nrm (N A:List al) (φ:Int->Int) (κ:Int->ζ):Prop where
 nd:∀u x,gt N u=some x->∃x',gt A (φ u)=some x'/\x'.kind=x.kind/\x'.text=x.text/\x'.ord=x.ord/\x'.items=(bM N u).map (λa=>φ (nth x.items a))/\x'.keys=if x.kind=10 then (bM N u).map (λa=>φ (nth x.keys a)) else []
 ky:∀k,KN N k->κ (φ k)=ofBytes (dI N 100 k)
def Tz {l m:List UInt8}(h:ofBytes l=ofBytes m):l=m:=by
 have:=akn (λs:ζ=>s.data.toList) h;simpa[ofBytes] using this
def MC (hk:x.kind=y.kind):∀{o o':ε} {b},o.length=o'.length->(∀(i:Nat) a a',o[i]?=some a->o'[i]?=some a'->(x.kind=10->F (nth x.keys a)=G (nth y.keys a'))/\F (nth x.items a)=G (nth y.items a'))->rh F x b o=rh G y b o'
 |[],[],_,_,_=>rfl
 |[],_::_,_,h,_=>by simp at h
 |_::_,[],_,h,_=>by simp at h
 |a::o,a'::o',b,hl,h=>by
  have h0:=h 0 a a' rfl rfl;have ih:=MC hk (o:=o) (o':=o') (b:=false) (by simpa using hl) λi c c' q q'=>h (i+1) c c' (by simpa using q) (by simpa using q');unfold rh;rw[ih,<-hk,h0.2];by_cases k:x.kind=10
  .rw[By k,By k,h0.1 k]
  .rw[AT k,AT k]
theorem yz (hI:jE N N.length)(hM:∀x∈N,kJ x)(ht:∀x∈N,x.kind=11->x.items.length=1)(hH:∀u v,Edge N u v->H v<H u):∀f g u,IR N.length u->H u<f->H u<g->dI N f u=dI N g u
 |0,_,_,_,h,_=>by omega
 |_+1,0,_,_,_,h=>by omega
 |f+1,g+1,u,hu,h1,h2=>by
  obtain⟨x,hx⟩:=cP rfl hu;have hm:=aq hx;have ih:∀w,(w∈x.keys\/w∈x.items)->dI N f w=dI N g w:=λw hw=>by
   have:=hH u w ⟨x,hx,hw⟩;exact yz hI hM ht hH f g w (hw.elim ((hI x hm).1 w) ((hI x hm).2 w)) (by omega) (by omega)
  unfold dI;simp only[hx];have o1:bM N u=iS (iT N) x:=by unfold bM;rw[hx]
  rw[o1];unfold Bn;by_cases k11:x.kind=11
  .rw[By k11,By k11];have hl:=ht x hm k11;rw[ih _ (.inr (aY (by omega) (by omega)))]
  .rw[AT k11,AT k11];by_cases k9:x.kind<9
   .rw[By k9,By k9]
   .rw[AT k9,AT k9,MC (G:=dI N g) rfl rfl λi a a' q q'=>?_];rw[q] at q';cases q';have r:=dP (IN q);exact⟨λk=>ih _ (.inl (aY r.1 (by rw[hM x hm k];exact r.2))),ih _ (.inr (aY r.1 r.2))⟩
def EqK.kid {a b:Int}{x y:al}(h:EqK κ A a κ' B b)(hx:gt A a=some x)(hy:gt B b=some y){i:Nat}{u v:Int}(hu:x.items[i]?=some u)(hv:y.items[i]?=some v):EqK κ A u κ' B v:=λπ=>by
 have:=h (i::π);unfold lbP wk at this;simp only[hx,hy,hu,hv] at this;exact this
theorem TA (S:Nrm N A φ κ)(S':Nrm M B ψ κ')(hI:jE N N.length)(hI':jE M M.length)(hM:∀x∈N,kJ x)(hM':∀x∈M,kJ x)(ht:∀x∈N,x.kind=11->x.items.length=1)(ht':∀x∈M,x.kind=11->x.items.length=1)
  (hH:∀u v,Edge N u v->H v<H u) (hH':∀u v,Edge M u v->H2 v<H2 u):∀f u v,f<=100->IR N.length u->IR M.length v->EqK κ A (φ u) κ' B (ψ v)->H u<f->H2 v<f->dI N f u=dI M f v
 |0,_,_,_,_,_,_,h,_=>by omega
 |f+1,u,v,hf,hu,hv,E,h1,h2=>by
  obtain⟨x,hx⟩:=cP rfl hu;obtain⟨y,hy⟩:=cP rfl hv;have hm:=aq hx;have hm':=aq hy;obtain⟨x',gx,a1,a2,a3,a4,a5⟩:=S.nd u x hx;obtain⟨y',gy,b1,b2,b3,b4,b5⟩:=S'.nd v y hy;have e0:=E [];unfold lbP wk at e0;simp only[gx,gy,aeq,abo] at e0;unfold lbK at e0;simp only[aly] at e0;obtain⟨c1,c2,c3,c4,c5⟩:=e0;have hk:x.kind=y.kind:=by rw[<-a1,<-b1,c1]
  have hl:x.items.length=y.items.length:=by
   rw[a4,b4,adR,adR,fu hx,fu hy] at c4;exact c4
  have o1:bM N u=iS (iT N) x:=by unfold bM;rw[hx]
  have o2:bM M v=iS (iT M) y:=by unfold bM;rw[hy]
  have pt:∀(i:Nat) a a',(bM N u)[i]?=some a->(bM M v)[i]?=some a'->(x.kind=10->dI N f (nth x.keys a)=dI M f (nth y.keys a'))/\dI N f (nth x.items a)=dI M f (nth y.items a'):=λi a a' q q'=>by
   have r:=dP (IN (o1▸q));have r':=dP (IN (o2▸q'));refine⟨λk=>?_,?_⟩
   .have m1:=aY (l:=x.keys) r.1 (by rw[hM x hm k];exact r.2);have m2:=aY (l:=y.keys) r'.1 (by rw[hM' y hm' (hk▸k)];exact r'.2);rw[By k] at a5;rw[By (hk▸k)] at b5;have g:=akn (λl=>l[i]?) c5;simp only[a5,b5,abi,q,q',aeq,abo] at g;rw[S.ky _ (.key hm m1),S'.ky _ (.key hm' m2)] at g;have g:=Tz g;have l1:=hH u _ ⟨x,hx,.inl m1⟩;have l2:=hH' v _ ⟨y,hy,.inl m2⟩;rw[yz hI hM ht hH f 100 _ ((hI x hm).1 _ m1) (by omega) (by omega),g,yz hI' hM' ht' hH' 100 f _ ((hI' y hm').1 _ m2) (by omega) (by omega)]
   .have m1:=aY (l:=x.items) r.1 r.2;have m2:=aY (l:=y.items) r'.1 r'.2;have l1:=hH u _ ⟨x,hx,.inr m1⟩;have l2:=hH' v _ ⟨y,hy,.inr m2⟩;refine TA S S' hI hI' hM hM' ht ht' hH hH' f _ _ (by omega) ((hI x hm).2 _ m1) ((hI' y hm').2 _ m2) (E.kid gx gy (i:=i) ?_ ?_) (by omega) (by omega)
    .rw[a4,abi,q];rfl
    .rw[b4,abi,q'];rfl
  unfold dI;simp only[hx,hy];unfold Bn;rw[<-hk,show y.text=x.text by rw[<-a2,<-b2,c2]];by_cases k11:x.kind=11
  .rw[By k11,By k11];have l1:=ht x hm k11;have i1:(bM N u)[0]?=some 0:=by rw[o1,om (λq=>by omega),l1];rfl
   have i2:(bM M v)[0]?=some 0:=by rw[o2,om (λq=>by omega),<-hl,l1];rfl
   rw[(pt 0 0 0 i1 i2).2]
  .rw[AT k11,AT k11];by_cases k9:x.kind<9
   .rw[By k9,By k9,Pb hk.symm (by rw[<-a2,<-b2,c2])]
   .rw[AT k9,AT k9,MC hk (by rw[fu hx,fu hy,hl]) pt];have:br y=br x:=by
     unfold br;rw[<-hk,show y.ord=x.ord by rw[<-a3,<-b3,c3]]
    rw[this]
end
section
variable {N M A B:List al}{φ ψ:Int->Int}{κ κ':Int->ζ}{H H2:Int->Nat}{x y:al}
def INJ (N M:List al)(K K2:Int->Prop)(H H2:Int->Nat):Prop:=∀f g i j,K i->K2 j->H i<f+1->H2 j<g+1->dI N (f+1) i=dI M (g+1) j ->
 ∃x y,gt N i=some x/\gt M j=some y/\x.kind=y.kind/\x.text=y.text/\x.ord=y.ord/\x.items.length=y.items.length /\
  ∀(p:Nat) a a',(bM N i)[p]?=some a->(bM M j)[p]?=some a'->(x.kind=10->dI N f (nth x.keys a)=dI M g (nth y.keys a'))/\dI N f (nth x.items a)=dI M g (nth y.items a')
def Kz {α β:Type}{f:α->β}{g:α->β}:∀{l m:List α},l.length=m.length->(∀(i:Nat) a b,l[i]?=some a->m[i]?=some b->f a=g b)->l.map f=m.map g
 |[],[],_,_=>rfl
 |[],_::_,h,_=>by simp at h
 |_::_,[],h,_=>by simp at h
 |a::l,b::m,hl,h=>by
  rw[abv,abv,h 0 a b rfl rfl,Kz (l:=l) (m:=m) (by simpa using hl) λi c d q q'=>h (i+1) c d (by simpa using q) (by simpa using q')]
theorem aet (J:INJ N M (IR N.length) (IR M.length) H H2)(S:Nrm N A φ κ)(S':Nrm M B ψ κ')(hI:jE N N.length)(hI':jE M M.length)(hM:∀x∈N,kJ x)(hM':∀x∈M,kJ x)(ht:∀x∈N,x.kind=11->x.items.length=1)(ht':∀x∈M,x.kind=11->x.items.length=1)
  (hH:∀u v,Edge N u v->H v<H u) (hH':∀u v,Edge M u v->H2 v<H2 u):∀(π:η) f g u v,f<100->g<100->IR N.length u->IR M.length v->H u<f+1->H2 v<g+1->dI N (f+1) u=dI M (g+1) v->lbP κ A (φ u) π=lbP κ' B (ψ v) π:=by
 intro π
 induction π with
 |nil=>
  intro f g u v hf hg hu hv h1 h2 e;obtain⟨x,y,hx,hy,hk,htx,ho,hl,pt⟩:=J f g u v hu hv h1 h2 e;have hm:=aq hx;have hm':=aq hy;obtain⟨x',gx,a1,a2,a3,a4,a5⟩:=S.nd u x hx;obtain⟨y',gy,b1,b2,b3,b4,b5⟩:=S'.nd v y hy;have o1:bM N u=iS (iT N) x:=by unfold bM;rw[hx]
  have o2:bM M v=iS (iT M) y:=by unfold bM;rw[hy]
  unfold lbP wk;simp only[gx,gy,aeq];unfold lbK;rw[a1,a2,a3,a4,b1,b2,b3,b4,hk,htx,ho,adR,adR,fu hx,fu hy,hl];have:x'.keys.map κ=y'.keys.map κ':=by
   by_cases k:x.kind=10
   .rw[a5,b5,By k,By (hk▸k),alf,alf];refine Kz (by rw[fu hx,fu hy,hl]) λi a a' q q'=>?_;have r:=dP (IN (o1▸q));have r':=dP (IN (o2▸q'));have m1:=aY (l:=x.keys) r.1 (by rw[hM x hm k];exact r.2);have m2:=aY (l:=y.keys) r'.1 (by rw[hM' y hm' (hk▸k)];exact r'.2);have l1:=hH u _ ⟨x,hx,.inl m1⟩;have l2:=hH' v _ ⟨y,hy,.inl m2⟩;show κ (φ (nth x.keys a))=κ' (ψ (nth y.keys a'));rw[S.ky _ (.key hm m1),S'.ky _ (.key hm' m2),yz hI hM ht hH 100 f _ ((hI x hm).1 _ m1) (by omega) (by omega),(pt i a a' q q').1 k,yz hI' hM' ht' hH' g 100 _ ((hI' y hm').1 _ m2) (by omega) (by omega)]
   .rw[a5,b5,AT k,AT (hk▸k)];rfl
  rw[this]
 |cons i π ih=>
  intro f g u v hf hg hu hv h1 h2 e;obtain⟨x,y,hx,hy,hk,htx,ho,hl,pt⟩:=J f g u v hu hv h1 h2 e;have hm:=aq hx;have hm':=aq hy;obtain⟨x',gx,a1,a2,a3,a4,a5⟩:=S.nd u x hx;obtain⟨y',gy,b1,b2,b3,b4,b5⟩:=S'.nd v y hy;have o1:bM N u=iS (iT N) x:=by unfold bM;rw[hx]
  have o2:bM M v=iS (iT M) y:=by unfold bM;rw[hy]
  unfold lbP wk;simp only[gx,gy,a4,b4,abi];cases q:(bM N u)[i]? with
  |none=>
   have q':(bM M v)[i]?=none:=by
    rw[List.getElem?_eq_none_iff] at q⊢;rw[fu hx] at q;rw[fu hy];omega
   rw[q'];rfl
  |some a=>
   obtain⟨a',q'⟩:∃a',(bM M v)[i]?=some a':=by
    have:=(List.getElem?_eq_some_iff.1 q).1;rw[fu hx] at this;exact⟨_,aa9 (by rw[fu hy];omega)⟩
   rw[q'];simp only[aeq];have r:=dP (IN (o1▸q));have r':=dP (IN (o2▸q'));have m1:=aY (l:=x.items) r.1 r.2;have m2:=aY (l:=y.items) r'.1 r'.2;have l1:=hH u _ ⟨x,hx,.inr m1⟩;have l2:=hH' v _ ⟨y,hy,.inr m2⟩;obtain⟨f,rfl⟩:∃k,f=k+1:=⟨f-1,by omega⟩;obtain⟨g,rfl⟩:∃k,g=k+1:=⟨g-1,by omega⟩;have:=ih f g _ _ (by omega) (by omega) ((hI x hm).2 _ m1) ((hI' y hm').2 _ m2) (by omega) (by omega) (pt i a a' q q').2;unfold lbP at this;exact this
end
section
variable {N M A B:List al}{φ ψ:Int->Int}{κ κ':Int->ζ}{H:Int->Nat}{C:Int->Prop}
def aaZ (S:Nrm N A φ κ)(hI:jE N N.length)(hH:∀u v,Edge N u v->H v<H u):∀(π:η) u w,IR N.length u->wk A (φ u) π=some w->π.length<=H u
 |[],_,_,_,_=>aku _
 |i::π,u,w,hu,h=>by
  obtain⟨x,hx⟩:=cP rfl hu;obtain⟨x',gx,_,_,_,a4,_⟩:=S.nd u x hx;have o1:bM N u=iS (iT N) x:=by unfold bM;rw[hx]
  unfold wk at h;simp only[gx,a4,abi] at h;cases q:(bM N u)[i]? with
  |none=>rw[q] at h;cases h
  |some a=>
   rw[q] at h;simp only[aeq] at h;have r:=dP (IN (o1▸q));have m1:=aY (l:=x.items) r.1 r.2;have l1:=hH u _ ⟨x,hx,.inr m1⟩;have:=aaZ S hI hH π _ w ((hI x (aq hx)).2 _ m1) h;simp only[aaH];omega
def TB (S:Nrm M B ψ κ)(hC:∀u,C u->∃x,gt M u=some x/\∃v∈x.items,C v):∀n u,C u->∃π:η,π.length=n/\∃v,C v/\wk B (ψ u) π=some (ψ v)
 |0,u,h=>⟨[],rfl,u,h,rfl⟩
 |n+1,u,h=>by
  obtain⟨x,hx,v,hv,cv⟩:=hC u h;obtain⟨x',gx,_,_,_,a4,_⟩:=S.nd u x hx;obtain⟨a,ha⟩:=List.mem_iff_getElem?.1 hv;have la:=(List.getElem?_eq_some_iff.1 ha).1;have o1:bM M u=iS (iT M) x:=by unfold bM;rw[hx]
  obtain⟨p,hp⟩:=Ku (cv:=iT M) la;obtain⟨π,l,w,cw,e⟩:=TB S hC n v cv;refine⟨p::π,by simp[l],w,cw,?_⟩;unfold wk;simp only[gx,a4,abi,o1,hp,aeq,xr ha];exact e
def aa0 {r s:Int}(S:Nrm N A φ κ)(S':Nrm M B ψ κ')(hI:jE N N.length)(hH:∀u v,Edge N u v->H v<H u)(hr:IR N.length r)(hC:∀u,C u->∃x,gt M u=some x/\∃v∈x.items,C v)(cs:C s):¬EqK κ A (φ r) κ' B (ψ s):=λE=>by
 obtain⟨π,l,v,cv,e⟩:=TB S' hC (H r+1) s cs;obtain⟨y,hy,_⟩:=hC v cv;obtain⟨y',gy,_⟩:=S'.nd v y hy;have:=E π;unfold lbP at this;rw[e] at this;simp only[gy,aeq] at this;cases q:wk A (φ r) π with
 |none=>rw[q] at this;cases this
 |some w=>
  have:=aaZ S hI hH π r w hr q;omega
theorem EqK.symm {a b:Int}(h:EqK κ A a κ' B b):EqK κ' B b κ A a:=λπ=>(h π).symm
end
section
def wT (b:UInt8):Bool:=b==44||b==61||b==93||b==125||b==62||b==41
def Stop (r:List UInt8):Prop:=∀b t,r=b::t->wT b=true
def Py (s t:List UInt8):Prop:=∀r r',Stop r->Stop r'->s++r=t++r'->s=t/\r=r'
theorem Py.symm {s t:List UInt8}(h:Py s t):Py t s:=λr r' h1 h2 e=>by
 obtain⟨a,b⟩:=h r' r h2 h1 e.symm;exact⟨a.symm,b.symm⟩
def Stop.nil:Stop []:=λb t e=>by cases e
theorem Stop.cons {b:UInt8}{t:List UInt8}(h:wT b=true):Stop (b::t):=λb' t' e=>by
 cases e;exact h
def Py.safe:∀{s t:List UInt8},(∀b∈s,wT b=false)->(∀b∈t,wT b=false)->Py s t
 |[],[],_,_=>λr r' _ _ e=>⟨rfl,e⟩
 |[],b::t,_,h2=>λr r' h3 _ e=>by
  have:=h3 b (t++r') e;rw[h2 b IS] at this;cases this
 |a::s,[],h1,_=>λr r' _ h4 e=>by
  have:=h4 a (s++r) e.symm;rw[h1 a IS] at this;cases this
 |a::s,b::t,h1,h2=>λr r' h3 h4 e=>by
  simp only[abm,abP] at e;obtain⟨q1,q2⟩:=Py.safe (λx hx=>h1 x (BY _ hx)) (λx hx=>h2 x (BY _ hx)) r r' h3 h4 e.2;exact⟨by rw[e.1,q1],q2⟩
def MD:∀(s t r r':List UInt8),s.flatMap td++34::r=t.flatMap td++34::r'->s=t/\r=r'
 |[],[],r,r',e=>⟨rfl,by simpa using e⟩
 |[],b::t,r,r',e=>by
  rw[abz] at e;unfold td at e;split at e
  .simp at e
  .rename_i hb;simp only[anL,abr,abm,abP] at e;exact absurd (.inl e.1.symm) hb
 |a::s,[],r,r',e=>by
  rw[abz] at e;unfold td at e;split at e
  .simp at e
  .rename_i hb;simp only[anL,abr,abm,abP] at e;exact absurd (.inl e.1) hb
 |a::s,b::t,r,r',e=>by
  have ih:=MD s t r r';rw[abz,abz] at e;generalize hu:s.flatMap td=u at e ih;generalize hv:t.flatMap td=v at e ih;unfold td at e;split at e<;>split at e
  .simp only[abm,abr,abP,akl] at e;obtain⟨q1,q2⟩:=ih e.2;exact⟨by rw[e.1,q1],q2⟩
  .rename_i h1 h2;simp only[abm,abr,abP] at e;exact absurd (.inr e.1.symm) h2
  .rename_i h1 h2;simp only[abm,abr,abP] at e;exact absurd (.inr e.1) h1
  .simp only[abm,abr,abP] at e;obtain⟨q1,q2⟩:=ih e.2;exact⟨by rw[e.1,q1],q2⟩
def Py.quo {s t:List UInt8}:Py (FA s) (FA t):=λr r' _ _ e=>by
 unfold FA at e;simp only[abm,abp,abP,akl,abr] at e;obtain⟨q1,q2⟩:=MD s t r r' e;exact⟨by rw[q1],q2⟩
def aa1 {s t:List UInt8}(h:FA s=FA t):s=t:=by
 unfold FA at h;simp only[abm,abP,akl] at h;exact (MD s t [] [] h).1
end
section
def NE (s:List UInt8):Prop:=∃b t,s=b::t/\wT b=false
variable {F G:Int->List UInt8}{x y:al}{c:UInt8}
def KA (hc:wT c=true)(o:ε)(r:List UInt8):Stop (rh F x false o++c::r):=by
 cases o with
 |nil=>exact Stop.cons hc
 |cons k o=>
  unfold rh;rw[AT (by decide)];simp only[abm,abr,abp];exact Stop.cons (by decide)
def aa2 {b:Bool}{k:Int}{o:ε}{r r':List UInt8}(hc:wT c=true)(hc2:c≠44)(h1:NE (F (nth x.items k)))(h2:x.kind=10->NE (F (nth x.keys k)))
  (e:c::r=rh F x b (k::o)++r'):False:=by
 unfold rh at e;cases b with
 |false=>
  rw[AT (by decide)] at e;simp only[abm,abr,abp,abP] at e;exact hc2 e.1
 |true=>
  rw[By rfl] at e;by_cases hx:x.kind=10
  .rw[By hx] at e;obtain⟨d,t,q1,q2⟩:=h2 hx;rw[q1] at e;simp only[abm,abr,abp,abP] at e;rw[<-e.1,hc] at q2;cases q2
  .rw[AT hx] at e;obtain⟨d,t,q1,q2⟩:=h1;rw[q1] at e;simp only[abm,abr,abp,abP] at e;rw[<-e.1,hc] at q2;cases q2
def Pl (hk:x.kind=10↔y.kind=10)(hc:wT c=true)(hc2:c≠44):∀(o o':ε) (b:Bool) (r r':List UInt8),
  (∀k∈o,∀k'∈o',(x.kind=10->Py (F (nth x.keys k)) (G (nth y.keys k')))/\Py (F (nth x.items k)) (G (nth y.items k'))) ->
  (∀k∈o,NE (F (nth x.items k))/\(x.kind=10->NE (F (nth x.keys k))))->(∀k∈o',NE (G (nth y.items k))/\(y.kind=10->NE (G (nth y.keys k)))) ->
  rh F x b o++c::r=rh G y b o'++c::r' ->
  o.length=o'.length/\(∀(i:Nat) k k',o[i]?=some k->o'[i]?=some k'->(x.kind=10->F (nth x.keys k)=G (nth y.keys k'))/\F (nth x.items k)=G (nth y.items k'))/\r=r'
 |[],[],b,r,r',_,_,_,e=>by
  refine⟨rfl,λi k k' h=>by simp at h,?_⟩;simpa[rh] using e
 |[],k::o',b,r,r',_,_,h3,e=>by
  obtain⟨q1,q2⟩:=h3 k IS;exact (aa2 hc hc2 q1 q2 (by simpa[rh] using e)).elim
 |k::o,[],b,r,r',_,h2,_,e=>by
  obtain⟨q1,q2⟩:=h2 k IS;exact (aa2 hc hc2 q1 q2 (by simpa[rh] using e.symm)).elim
 |k::o,k'::o',b,r,r',h1,h2,h3,e=>by
  have ih:=Pl hk hc hc2 o o' false r r' (λa ha a' ha'=>h1 a (BY _ ha) a' (BY _ ha'))
   (λa ha=>h2 a (BY _ ha)) (λa ha=>h3 a (BY _ ha))
  obtain⟨p1,p2⟩:=h1 k IS k' IS;have s1:=KA (F:=F) (x:=x) hc o r;have s2:=KA (F:=G) (x:=y) hc o' r';unfold rh at e;simp only[abp] at e
  replace e:=anO e
  have fin:(x.kind=10->F (nth x.keys k)=G (nth y.keys k'))->F (nth x.items k)++(rh F x false o++c::r)=G (nth y.items k')++(rh G y false o'++c::r') ->
    (k::o).length=(k'::o').length/\(∀(i:Nat) a a',(k::o)[i]?=some a->(k'::o')[i]?=some a'->(x.kind=10->F (nth x.keys a)=G (nth y.keys a'))/\F (nth x.items a)=G (nth y.items a'))/\r=r':=by
   intro hkey e;obtain⟨q1,q2⟩:=p2 _ _ s1 s2 e;obtain⟨i1,i2,i3⟩:=ih q2;refine⟨by simp[i1],λi a a' ha ha'=>?_,i3⟩;cases i with
   |zero=>
    simp only[List.getElem?_cons_zero,abo] at ha ha';subst ha;subst ha';exact⟨hkey,q1⟩
   |succ i=>
    simp only[al6] at ha ha';exact i2 i a a' ha ha'
  by_cases hx:x.kind=10
  .rw[By hx,By (hk.1 hx)] at e;simp only[abp,abm,abr] at e;obtain⟨q1,q2⟩:=p1 hx _ _ (Stop.cons (by decide)) (Stop.cons (by decide)) e;simp only[abP,akl] at q2;exact fin (λ_=>q1) q2
  .rw[AT hx,AT (λh=>hx (hk.2 h))] at e;simp only[abr] at e;exact fin (λh=>absurd h hx) e
def alJ:∀i<16,∀j<16,Al.getD i 0=Al.getD j 0->i=j:=by decide
def hex_inj:∀{s t:List UInt8},s.flatMap w5=t.flatMap w5->s=t
 |[],[],_=>rfl
 |[],b::t,e=>by simp[w5] at e
 |a::s,[],e=>by simp[w5] at e
 |a::s,b::t,e=>by
  rw[abz,abz] at e;have hd:∀u v:List UInt8,w5 a++u=w5 b++v->Al.getD (a.toNat/16) 0=Al.getD (b.toNat/16) 0/\Al.getD (a.toNat%16) 0=Al.getD (b.toNat%16) 0/\u=v:=λu v e=>by
   unfold w5 at e;simp only[abm,abr,abP] at e;exact e
  obtain⟨q1,q2,q3⟩:=hd _ _ e;have la:=a.toNat_lt;have lb:=b.toNat_lt;have e1:=alJ _ (by omega) _ (by omega) q1;have e2:=alJ _ (by omega) _ (by omega) q2;have:a=b:=UInt8.toNat_inj.1 (by omega);rw[this,hex_inj q3]
end
section
variable {N N2:List al}{H H2:Int->Nat}{K K2:Int->Prop}
def LF (x:al):Prop:=x.kind=5\/(NE (oa x)/\(∀b∈oa x,wT b=false)/\∀b t,oa x=b::t->b≠34/\b≠33/\b≠91/\b≠123/\b≠60)
structure KX (N:List al) (K:Int->Prop) (H:Int->Nat):Prop where
 ir:∀i,K i->IR N.length i
 dn:∀i x,K i->gt N i=some x->∀v,v∈x.keys\/v∈x.items->K v/\H v<H i
 fm:∀x∈N,ju x=some true
 kl:∀x∈N,x.kind=10->x.keys.length=x.items.length
 sc:∀x∈N,x.kind<9->LF x
 tg:∀x∈N,x.kind=11->∀b∈x.text.data.toList,b≠40
def FF {x:al}(h:x.kind=5):oa x=FA x.text.data.toList:=by
 unfold oa;rw[AT (by omega),By h]
def aa3 (x:al):wT (br x).1=false/\wT (br x).2=true/\(br x).2≠44:=by
 unfold br;split
 .split<;>decide
 .decide
def BM (k:KX N K H):∀(f:Nat) (i:Int),K i->H i<f->NE (dI N f i):=by
 intro f i hi hf;obtain⟨f,rfl⟩:∃g,f=g+1:=⟨f-1,by omega⟩;obtain⟨x,hx⟩:=cP (l:=N) rfl (k.ir i hi);unfold dI;rw[hx];simp only;unfold Bn;split
 .exact⟨33,_,rfl,by decide⟩
 .split
  .rename_i h9;rcases k.sc x (aq hx) h9 with h5|h
   .rw[FF h5];exact⟨34,_,rfl,by decide⟩
   .exact h.1
  .exact⟨(br x).1,_,rfl,(aa3 x).1⟩
def TD:∀(s t r r':List UInt8),(∀b∈s,b≠40)->(∀b∈t,b≠40)->s++40::r=t++40::r'->s=t/\r=r'
 |[],[],r,r',_,_,e=>⟨rfl,by simpa using e⟩
 |[],b::t,r,r',_,h2,e=>by
  simp only[abr,abm,abP] at e;exact absurd e.1.symm (h2 b IS)
 |a::s,[],r,r',h1,_,e=>by
  simp only[abr,abm,abP] at e;exact absurd e.1 (h1 a IS)
 |a::s,b::t,r,r',h1,h2,e=>by
  simp only[abm,abP] at e;obtain⟨q1,q2⟩:=TD s t r r' (λx hx=>h1 x (BY _ hx)) (λx hx=>h2 x (BY _ hx)) e.2;exact⟨by rw[e.1,q1],q2⟩
def sT {i:Int}{x:al}(hx:gt N i=some x)(k:KX N K H){a:Int}(ha:a∈bM N i):nth x.items a∈x.items/\(x.kind=10->nth x.keys a∈x.keys):=by
 unfold bM at ha;rw[hx] at ha;obtain⟨h0,h1⟩:=dP ha;exact⟨aY h0 h1,λh=>aY h0 (by rw[k.kl x (aq hx) h];exact h1)⟩
def nI (x:al):Nat:=if x.kind=11 then 0 else if x.kind=5 then 1 else if x.kind<9 then 2 else 3
def Pn (k:KX N K H){x:al}(hx:x∈N)(F:Int->List UInt8)(o:ε):∃b t,Bn F x o=b::t/\(nI x=0->b=33)/\(nI x=1->b=34)/\(nI x=2->b≠34/\b≠33/\b≠91/\b≠123/\b≠60)/\(nI x=3->b=(br x).1):=by
 unfold Bn nI;by_cases h11:x.kind=11
 .rw[By h11,By h11];exact⟨33,_,rfl,λ_=>rfl,λh=>(by cases h),λh=>(by cases h),λh=>(by cases h)⟩
 rw[AT h11,AT h11];by_cases h5:x.kind=5
 .rw[By h5,By (show x.kind<9 by omega),FF h5];exact⟨34,_,rfl,λh=>(by cases h),λ_=>rfl,λh=>(by cases h),λh=>(by cases h)⟩
 rw[AT h5];by_cases h9:x.kind<9
 .rw[By h9,By h9];rcases k.sc x hx h9 with h|h
  .exact absurd h h5
  .obtain⟨b,t,q,_⟩:=h.1;exact⟨b,t,q,λh=>(by cases h),λh=>(by cases h),λ_=>h.2.2 b t q,λh=>(by cases h)⟩
 .rw[AT h9,AT h9];exact⟨(br x).1,_,rfl,λh=>(by cases h),λh=>(by cases h),λh=>(by cases h),λ_=>rfl⟩
def agb (x:al):(br x).1=91\/(br x).1=123\/(br x).1=60:=by
 unfold br;split
 .split<;>simp
 .simp
def aj4 {x y:al}(h:(br x).1=(br y).1):(br x).2=(br y).2/\(x.kind=10↔y.kind=10)/\(x.kind=10->x.ord=y.ord):=by
 unfold br at h⊢;by_cases hx:x.kind=10<;>by_cases hy:y.kind=10<;>cases ox:x.ord<;>cases oy:y.ord<;>simp_all
def aj5 (k:KX N K H)(k2:KX N2 K2 H2){x y:al}(hx:x∈N)(hy:y∈N2){F G:Int->List UInt8}{o o':ε}{r r':List UInt8}(e:Bn F x o++r=Bn G y o'++r'):nI x=nI y/\(nI x=3->(br x).1=(br y).1):=by
 obtain⟨b,t,q,a0,a1,a2,a3⟩:=Pn k hx F o;obtain⟨b',t',q',c0,c1,c2,c3⟩:=Pn k2 hy G o';rw[q,q'] at e;simp only[abm,abP] at e;obtain⟨rfl,_⟩:=e;have l:nI x<4:=by unfold nI;split<;>(try split)<;>(try split)<;>omega
 have l2:nI y<4:=by unfold nI;split<;>(try split)<;>(try split)<;>omega
 have b1:=agb x;have b2:=agb y;generalize nI x=u at *
 generalize nI y=v at *
 refine⟨?_,λh3=>?_⟩
 .match u,v with
  |0,0|1,1|2,2|3,3=>rfl
  |0,1=>exact absurd ((a0 rfl).symm.trans (c1 rfl)) (by decide)
  |1,0=>exact absurd ((a1 rfl).symm.trans (c0 rfl)) (by decide)
  |0,2=>exact absurd (a0 rfl) (c2 rfl).2.1
  |2,0=>exact absurd (c0 rfl) (a2 rfl).2.1
  |1,2=>exact absurd (a1 rfl) (c2 rfl).1
  |2,1=>exact absurd (c1 rfl) (a2 rfl).1
  |0,3=>have:=a0 rfl;rw[<-c3 rfl,this] at b2;revert b2;decide
  |3,0=>have:=c0 rfl;rw[<-a3 rfl,this] at b1;revert b1;decide
  |1,3=>have:=a1 rfl;rw[<-c3 rfl,this] at b2;revert b2;decide
  |3,1=>have:=c1 rfl;rw[<-a3 rfl,this] at b1;revert b1;decide
  |2,3=>have:=a2 rfl;rw[<-c3 rfl] at b2;rcases b2 with h|h|h<;>simp_all
  |3,2=>have:=c2 rfl;rw[<-a3 rfl] at b1;rcases b1 with h|h|h<;>simp_all
  |u+4,_=>omega
  |_,v+4=>omega
 .subst h3;have hv:v=3:=by
   match v with
   |3=>rfl
   |0=>have:=c0 rfl;rw[<-a3 rfl,this] at b1;revert b1;decide
   |1=>have:=c1 rfl;rw[<-a3 rfl,this] at b1;revert b1;decide
   |2=>have:=c2 rfl;rw[<-a3 rfl] at b1;rcases b1 with h|h|h<;>simp_all
   |v+4=>omega
  rw[<-a3 rfl,<-c3 hv]
end
section
variable {N N2:List al}{H H2:Int->Nat}{K K2:Int->Prop}
def aa4 (x:al):(nI x=0->x.kind=11)/\(nI x=1->x.kind=5)/\(nI x=2->x.kind≠11/\x.kind≠5/\x.kind<9)/\(nI x=3->x.kind≠11/\¬x.kind<9):=by
 unfold nI;by_cases h11:x.kind=11
 .rw[By h11];exact⟨λ_=>h11,λh=>(by cases h),λh=>(by cases h),λh=>(by cases h)⟩
 rw[AT h11];by_cases h5:x.kind=5
 .rw[By h5];exact⟨λh=>(by cases h),λ_=>h5,λh=>(by cases h),λh=>(by cases h)⟩
 rw[AT h5];by_cases h9:x.kind<9
 .rw[By h9];exact⟨λh=>(by cases h),λh=>(by cases h),λ_=>⟨h11,h5,h9⟩,λh=>(by cases h)⟩
 .rw[AT h9];exact⟨λh=>(by cases h),λh=>(by cases h),λh=>(by cases h),λ_=>⟨h11,h9⟩⟩
def KS (F G:Int->List UInt8)(x y:al)(o o':ε):Prop:=
 nI x=nI y/\(nI x=0->x.text.data.toList=y.text.data.toList/\F (nth x.items 0)=G (nth y.items 0))/\(nI x=1\/nI x=2->oa x=oa y) /\
 (nI x=3->(x.kind=10↔y.kind=10)/\(x.kind=10->x.ord=y.ord)/\o.length=o'.length /\
  ∀(i:Nat) a a',o[i]?=some a->o'[i]?=some a'->(x.kind=10->F (nth x.keys a)=G (nth y.keys a'))/\F (nth x.items a)=G (nth y.items a'))
def Po (k:KX N K H)(k2:KX N2 K2 H2){x y:al}(hx:x∈N)(hy:y∈N2){F G:Int->List UInt8}{o o':ε}
  (hp:∀a∈o,∀a'∈o',(x.kind=10->y.kind=10->Py (F (nth x.keys a)) (G (nth y.keys a')))/\Py (F (nth x.items a)) (G (nth y.items a')))
  (hn:∀a∈o,NE (F (nth x.items a))/\(x.kind=10->NE (F (nth x.keys a)))) (hn2:∀a∈o',NE (G (nth y.items a))/\(y.kind=10->NE (G (nth y.keys a))))
  (ht:x.kind=11->y.kind=11->Py (F (nth x.items 0)) (G (nth y.items 0))) {r r':List UInt8} (s:Stop r) (s':Stop r') (e:Bn F x o++r=Bn G y o'++r') :
  r=r'/\KS F G x y o o':=by
 obtain⟨hc,hb⟩:=aj5 k k2 hx hy e;obtain⟨x0,x1,x2,x3⟩:=aa4 x;obtain⟨y0,y1,y2,y3⟩:=aa4 y;have l:nI x=0\/nI x=1\/nI x=2\/nI x=3:=by unfold nI;split<;>(try split)<;>(try split)<;>simp
 unfold Bn at e;rcases l with l|l|l|l
 .have hx11:=x0 l;have hy11:=y0 (hc▸l);rw[By hx11,By hy11] at e;simp only[abm,abp,abP,akl,abr] at e;obtain⟨q1,q2⟩:=TD _ _ _ _ (k.tg x hx hx11) (k2.tg y hy hy11) e;obtain⟨q3,q4⟩:=ht hx11 hy11 _ _ (Stop.cons (by decide)) (Stop.cons (by decide)) q2;simp only[abP,akl] at q4;refine⟨q4,hc,λ_=>⟨q1,q3⟩,λh=>?_,λh=>?_⟩
  .rw[l] at h;rcases h with h|h<;>cases h
  .rw[l] at h;cases h
 .have hx5:=x1 l;have hy5:=y1 (hc▸l);rw[AT (by omega),By (by omega),AT (by omega),By (by omega),FF hx5,FF hy5] at e;obtain⟨q1,q2⟩:=Py.quo r r' s s' e;refine⟨q2,hc,λh=>?_,λ_=>by rw[FF hx5,FF hy5,q1],λh=>?_⟩
  .rw[l] at h;cases h
  .rw[l] at h;cases h
 .obtain⟨p1,p2,p3⟩:=x2 l;obtain⟨p4,p5,p6⟩:=y2 (hc▸l);rw[AT p1,By p3,AT p4,By p6] at e;have f1:=(k.sc x hx p3).resolve_left p2;have f2:=(k2.sc y hy p6).resolve_left p5;obtain⟨q1,q2⟩:=Py.safe f1.2.1 f2.2.1 r r' s s' e;refine⟨q2,hc,λh=>?_,λ_=>q1,λh=>?_⟩
  .rw[l] at h;cases h
  .rw[l] at h;cases h
 .obtain⟨p1,p2⟩:=x3 l;obtain⟨p3,p4⟩:=y3 (hc▸l);obtain⟨b1,b2,b3⟩:=aj4 (hb l);rw[AT p1,AT p2,AT p3,AT p4,<-hb l,<-b1] at e;simp only[abm,abp,abP,akl,abr] at e;obtain⟨q1,q2,q3⟩:=Pl b2 (aa3 x).2.1 (aa3 x).2.2 o o' true r r' (λa ha a' ha'=>⟨λh=>(hp a ha a' ha').1 h (b2.1 h),(hp a ha a' ha').2⟩) hn hn2 e;refine⟨q3,hc,λh=>?_,λh=>?_,λ_=>⟨b2,b3,q1,q2⟩⟩
  .rw[l] at h;cases h
  .rw[l] at h;rcases h with h|h<;>cases h
def WD (k:KX N K H)(k2:KX N2 K2 H2):∀(f g:Nat) (i j:Int),K i->K2 j->H i<f+1->H2 j<g+1->∀(r r':List UInt8),Stop r->Stop r'->dI N (f+1) i++r=dI N2 (g+1) j++r' ->
  r=r'/\∃x y,gt N i=some x/\gt N2 j=some y/\KS (dI N f) (dI N2 g) x y (bM N i) (bM N2 j):=by
 intro f
 induction f with
 |zero=>
  intro g i j hi hj hf hg r r' s s' e;obtain⟨x,hx⟩:=cP (l:=N) rfl (k.ir i hi);obtain⟨y,hy⟩:=cP (l:=N2) rfl (k2.ir j hj);unfold dI at e;rw[hx,hy] at e;simp only at e;have no:∀v,(v∈x.keys\/v∈x.items)->False:=λv hv=>by have:=(k.dn i x hi hx v hv).2;omega
  have noo:∀a∈bM N i,False:=λa ha=>no _ (.inr (sT hx k ha).1);have n11:x.kind≠11:=λh=>by
   have:=(pW (k.fm x (aq hx))).2.2.2 h;exact no _ (.inr (aY (a:=0) (l:=x.items) (by omega) (by omega)))
  obtain⟨q1,q2⟩:=Po k k2 (aq hx) (aq hy) (λa ha=>(noo a ha).elim) (λa ha=>(noo a ha).elim)
   (λa ha=>⟨by
     obtain⟨m1,m2⟩:=k2.dn j y hj hy _ (.inr (sT hy k2 ha).1);exact BM k2 _ _ m1 (by omega),λh10=>by
     obtain⟨m1,m2⟩:=k2.dn j y hj hy _ (.inl ((sT hy k2 ha).2 h10));exact BM k2 _ _ m1 (by omega)⟩) (λh=>absurd h n11) s s' e
  exact⟨q1,x,y,hx,hy,q2⟩
 |succ f ih=>
  intro g i j hi hj hf hg r r' s s' e;obtain⟨x,hx⟩:=cP (l:=N) rfl (k.ir i hi);obtain⟨y,hy⟩:=cP (l:=N2) rfl (k2.ir j hj);rw[show dI N (f+1+1) i=Bn (dI N (f+1)) x (bM N i) by rw[dI,hx],show dI N2 (g+1) j=Bn (dI N2 g) y (bM N2 j) by rw[dI,hy]] at e;have dn:∀v,(v∈x.keys\/v∈x.items)->∀w,(w∈y.keys\/w∈y.items)->Py (dI N (f+1) v) (dI N2 g w):=λv hv w hw r r' s s' e=>by
   obtain⟨m1,m2⟩:=k.dn i x hi hx v hv;obtain⟨m3,m4⟩:=k2.dn j y hj hy w hw;obtain⟨g,rfl⟩:∃g',g=g'+1:=⟨g-1,by omega⟩;have:=(ih g v w m1 m3 (by omega) (by omega) r r' s s' e).1;subst this;exact⟨List.append_cancel_right e,rfl⟩
  obtain⟨q1,q2⟩:=Po k k2 (aq hx) (aq hy) (λa ha a' ha'=>⟨λh1 h2=>dn _ (.inl ((sT hx k ha).2 h1)) _ (.inl ((sT hy k2 ha').2 h2)),dn _ (.inr (sT hx k ha).1) _ (.inr (sT hy k2 ha').1)⟩)
   (λa ha=>⟨by
     obtain⟨m1,m2⟩:=k.dn i x hi hx _ (.inr (sT hx k ha).1);exact BM k _ _ m1 (by omega),λh10=>by
     obtain⟨m1,m2⟩:=k.dn i x hi hx _ (.inl ((sT hx k ha).2 h10));exact BM k _ _ m1 (by omega)⟩)
   (λa ha=>⟨by
     obtain⟨m1,m2⟩:=k2.dn j y hj hy _ (.inr (sT hy k2 ha).1);exact BM k2 _ _ m1 (by omega),λh10=>by
     obtain⟨m1,m2⟩:=k2.dn j y hj hy _ (.inl ((sT hy k2 ha).2 h10));exact BM k2 _ _ m1 (by omega)⟩)
   (λh1 h2=>by
    have l1:=(pW (k.fm x (aq hx))).2.2.2 h1;have l2:=(pW (k2.fm y (aq hy))).2.2.2 h2;exact dn _ (.inr (aY (by omega) (by omega))) _ (.inr (aY (by omega) (by omega)))) s s' e
  exact⟨q1,x,y,hx,hy,q2⟩
def aa5 (k:KX N K H)(k2:KX N2 K2 H2){f g:Nat}{i j:Int}(hi:K i)(hj:K2 j)(hf:H i<f+1)(hg:H2 j<g+1)(e:dI N (f+1) i=dI N2 (g+1) j) :
  ∃x y,gt N i=some x/\gt N2 j=some y/\KS (dI N f) (dI N2 g) x y (bM N i) (bM N2 j):=
 (WD k k2 f g i j hi hj hf hg [] [] Stop.nil Stop.nil (by rw[e])).2
end
section
def G6 {x:al}(h:ju x=some true):(x.kind≠10->x.ord=false)/\(9<=x.kind->x.kind≠11->x.text.data.toList=[]):=by
 obtain⟨k0,k1,_,_⟩:=pW h;unfold ju at h;by_cases h9:x.kind=9
 .rw[By h9] at h;simp only[abo,aaq,abb,amf] at h;exact⟨λ_=>h.1.2,λ_ _=>by rw[iH h.1.1];rfl⟩
 rw[AT h9] at h;by_cases h10:x.kind=10
 .rw[By h10] at h;simp only[abo,aaq,abb] at h;exact⟨λq=>absurd h10 q,λ_ _=>by rw[iH h.1];rfl⟩
 rw[AT h10] at h;by_cases h11:x.kind=11
 .simp_all
 rw[AT h11] at h;refine⟨λ_=>?_,λh=>by omega⟩;split at h
 .simp_all
 .cases h
end
section
def TE {b:UInt8}(h:nK b=true):re b=true:=by
 unfold nK at h;simp only[aaq,Nat.ble_eq] at h;unfold re;simp[h.1,h.2]
def KB {s:ζ}(h:lg s=true):(∀b∈s.data.toList,re b=true)/\s.data.toList≠[]:=by
 unfold lg at h;generalize s.data.toList=l at h⊢;simp only[aaq,abb] at h;obtain⟨⟨h1,_,_⟩,h2⟩:=h;have h2:=List.all_eq_true.1 h2;cases l with
 |nil=>simp at h1
 |cons c r=>
  refine⟨λb hb=>?_,by simp⟩;split at h2
  .rename_i q;rcases List.mem_cons.1 hb with rfl|hb
   .have:b=45:=(by simpa using q.2);rw[this];decide
   .exact TE (h2 b hb)
  .exact TE (h2 b hb)
def aa6 {s:ζ}(h:zr s=true):(∀b∈s.data.toList,Ou b=true)/\(101:UInt8)∈s.data.toList:=by
 have hn:∀{b:UInt8},re b=true->Ou b=true:=λh=>by unfold Ou;rw[h];rfl
 unfold zr at h;split at h
 .cases h
 split at h
 .cases h
 split at h
 .cases h
 split at h
 .rename_i h0 h1 _ _ e he;obtain⟨i,hi⟩:∃i:Nat,Lib.indexByte s.data.toList 101=i:=⟨(Lib.indexByte s.data.toList 101).toNat,by omega⟩;rw[hi] at h1 he;have hg:=(Lib.indexByte_some hi).1;have hm:(101:UInt8)∈s.data.toList:=IN hg;refine⟨?_,hm⟩;have a:=(KB (by simpa using h1:lg (s.extract 0 i)=true)).1;have b:=Zo he;have el:s.data.toList=(s.extract 0 i).data.toList++101::(s.extract (i+1) s.size).data.toList:=by
   have hs:s.size=s.data.toList.length:=rfl;have q1:(s.extract 0 i).data.toList=s.data.toList.take i:=by simp[ak8]
   have q2:(s.extract (i+1) s.size).data.toList=s.data.toList.drop (i+1):=by
    simp only[ak8,Array.toList_extract,List.extract_eq_drop_take];exact agG (by rw[amz];omega)
   rw[q1,q2];obtain⟨hlt,hv⟩:=List.getElem?_eq_some_iff.1 hg;rw[<-hv,List.getElem_cons_drop,am9]
  intro c hc;rw[el] at hc;rcases List.mem_append.1 hc with hc|hc
  .exact hn (a c hc)
  .rcases List.mem_cons.1 hc with rfl|hc
   .decide
   .exact b c (by simpa using hc)
 .cases h
def I1 {k:Int}{t:ζ}(h:xp k t=some true):SX k t.data.toList:=by
 unfold xp at h;by_cases k0:k=0
 .rw[By k0] at h;have e:=iH (abu h);subst k0;exact⟨by omega,by omega,λ_=>by rw[e];rfl,λq=>by omega,λq=>by omega,λq=>by omega,λq=>by omega,λq=>by omega⟩
 rw[AT k0] at h;by_cases k1:k=1
 .rw[By k1] at h;subst k1;refine⟨by omega,by omega,λq=>by omega,λ_=>?_,λq=>by omega,λq=>by omega,λq=>by omega,λq=>by omega⟩;have h:=abu h;rw[alv] at h;exact h.elim (λh=>.inl (by rw[iH h];rfl)) λh=>.inr (by rw[iH h];rfl)
 rw[AT k1] at h;by_cases k2:k=2
 .rw[By k2] at h;subst k2;exact⟨by omega,by omega,λq=>by omega,λq=>by omega,λ_=>KB (abu h),λq=>by omega,λq=>by omega,λq=>by omega⟩
 rw[AT k2] at h;by_cases k5:k=5
 .subst k5;exact⟨by omega,by omega,λq=>by omega,λq=>by omega,λq=>by omega,λq=>by omega,λq=>by omega,λq=>by omega⟩
 rw[AT k5] at h;by_cases k6:k=6
 .subst k6;exact⟨by omega,by omega,λq=>by omega,λq=>by omega,λq=>by omega,λq=>by omega,λq=>by omega,λq=>by omega⟩
 rw[AT k6] at h;by_cases k3:k=3
 .rw[By k3] at h;subst k3;exact⟨by omega,by omega,λq=>by omega,λq=>by omega,λq=>by omega,λ_=>aa6 (abu h),λq=>by omega,λq=>by omega⟩
 rw[AT k3] at h;by_cases k4:k=4
 .rw[By k4] at h;subst k4;exact⟨by omega,by omega,λq=>by omega,λq=>by omega,λq=>by omega,λq=>by omega,λ_=>ac6 (abu h),λq=>by omega⟩
 rw[AT k4] at h;by_cases k7:k=7
 .rw[By k7] at h;subst k7;obtain⟨y,hy,e⟩:=ZD (abu h);refine⟨by omega,by omega,λq=>by omega,λq=>by omega,λq=>by omega,λq=>by omega,λq=>by omega,λ_ b hb=>?_⟩;rw[e] at hb;exact (List.mem_append.1 hb).elim (λh=>.inl (hy.1 b h)) λh=>.inr (List.mem_singleton.1 h)
 rw[AT k7] at h;by_cases k8:k=8
 .rw[By k8] at h;subst k8;exact⟨by omega,by omega,λq=>by omega,λq=>by omega,λq=>by omega,λq=>by omega,λq=>by omega,λ_ b hb=>.inl ((adn (abu h)).1 b hb)⟩
 rw[AT k8] at h;cases h
def MF {x:al}(h:ju x=some true)(hk:x.kind<9):xp x.kind x.text=some true:=by
 unfold ju at h;rw[AT (by omega),AT (by omega),AT (by omega)] at h;split at h
 .exact h
 .cases h
theorem qB (x:al):oa x=lfB (λt=>t.flatMap td) (λt=>t.flatMap w5) x.kind x.text.data.toList:=rfl
def MG {p:UInt8->Bool}{l:List UInt8}(h:∀b∈l,p b=true)(hn:l≠[])(hp:([44,61,93,125,62,41,34,33,91,123,60]:List UInt8).all (λc=>!p c)=true) :
  NE l/\(∀b∈l,wT b=false)/\∀b t,l=b::t->b≠34/\b≠33/\b≠91/\b≠123/\b≠60:=by
 have q:∀c∈([44,61,93,125,62,41,34,33,91,123,60]:List UInt8),∀b∈l,b≠c:=λc hc b hb e=>by
  subst e;have:=List.all_eq_true.1 hp b hc;rw[h b hb] at this;cases this
 have st:∀b∈l,wT b=false:=λb hb=>by
  unfold wT;simp[q 44 (by decide) b hb,q 61 (by decide) b hb,q 93 (by decide) b hb,q 125 (by decide) b hb,q 62 (by decide) b hb,q 41 (by decide) b hb]
 refine⟨?_,st,λb t e=>?_⟩
 .cases l with
  |nil=>exact absurd rfl hn
  |cons b t=>exact⟨b,t,rfl,st b IS⟩
 .have hb:b∈l:=by rw[e];exact IS
  exact⟨q 34 (by decide) b hb,q 33 (by decide) b hb,q 91 (by decide) b hb,q 123 (by decide) b hb,q 60 (by decide) b hb⟩
def aj6 (t:List UInt8):∀b∈t.flatMap w5,Al.contains b=true:=by
 intro b hb;obtain⟨c,_,hc⟩:=List.mem_flatMap.1 hb;have hlt:=c.toNat_lt;have m:∀i,i<16->Al.contains (Al.getD i 0)=true:=by decide
 unfold w5 at hc;rcases List.mem_cons.1 hc with rfl|hc
 .exact m _ (by omega)
 .obtain rfl:=List.mem_singleton.1 hc;exact m _ (by omega)
def alK {x:al}(h:ju x=some true)(hk:x.kind<9):LF x:=by
 obtain⟨k0,k9,h0,h1,h2,h3,h4,h7⟩:=I1 (MF h hk);have q:x.kind=0\/x.kind=1\/x.kind=2\/x.kind=3\/x.kind=4\/x.kind=5\/x.kind=6\/x.kind=7\/x.kind=8:=by omega
 unfold LF;rcases q with q|q|q|q|q|q|q|q|q
 .right;rw[qB,q,show lfB (λt=>t.flatMap td) (λt=>t.flatMap w5) 0 x.text.data.toList=[110,117,108,108] from rfl];exact MG (p:=λb=>([110,117,108]:List UInt8).contains b) (by decide) (by decide) (by decide)
 .right;rw[qB,q];show NE x.text.data.toList/\(∀b∈x.text.data.toList,wT b=false)/\∀b t,x.text.data.toList=b::t->b≠34/\b≠33/\b≠91/\b≠123/\b≠60;rcases h1 q with e|e<;>rw[e]
  .exact MG (p:=λb=>([116,114,117,101]:List UInt8).contains b) (by decide) (by decide) (by decide)
  .exact MG (p:=λb=>([102,97,108,115,101]:List UInt8).contains b) (by decide) (by decide) (by decide)
 .right;rw[qB,q];exact MG (h2 q).1 (h2 q).2 (by decide)
 .right;rw[qB,q];exact MG (h3 q).1 (amR (h3 q).2) (by decide)
 .right;rw[qB,q];exact MG (h4 q).1 ((h4 q).2.elim amR amR) (by decide)
 .exact .inl q
 .right;rw[qB,q];refine MG (p:=λb=>Al.contains b||b==35) (λb hb=>?_) (anM 35 _) (by decide);rcases List.mem_cons.1 (show b∈35::x.text.data.toList.flatMap w5 from hb) with rfl|hb
  .decide
  .rw[aj6 _ b hb];rfl
 .right;rw[qB,q];refine MG (p:=λb=>Fo b||b==90||b==64||b==37) (λb hb=>?_) (anM 64 _) (by decide);rcases List.mem_cons.1 (show b∈64::x.text.data.toList from hb) with rfl|hb
  .decide
  .rcases h7 (.inl q) b hb with e|rfl
   .simp[e]
   .decide
 .right;rw[qB,q];refine MG (p:=λb=>Fo b||b==90||b==64||b==37) (λb hb=>?_) (anM 37 _) (by decide);rcases List.mem_cons.1 (show b∈37::x.text.data.toList from hb) with rfl|hb
  .decide
  .rcases h7 (.inr q) b hb with e|rfl
   .simp[e]
   .decide
def aa7 {x y:al}(hQ:∀s t,FA s=FA t->s=t)(hX:∀s t:List UInt8,s.flatMap w5=t.flatMap w5->s=t)(hx:ju x=some true)(hy:ju y=some true)(kx:x.kind<9)(ky:y.kind<9)(e:oa x=oa y):x.kind=y.kind/\x.text.data.toList=y.text.data.toList:=by
 rw[qB,qB] at e;exact aiQ hQ hX (I1 (MF hx kx)) (I1 (MF hy ky)) e
end
section
variable {N:List al}{H:Int->Nat}{K:Int->Prop}
def alL {s t:ζ}(h:s.data.toList=t.data.toList):s=t:=al8 (Array.toList_inj.1 h)
def alM (hf:∀x∈N,ju x=some true)(ir:∀i,K i->IR N.length i)(dn:∀i x,K i->gt N i=some x->∀v,v∈x.keys\/v∈x.items->K v/\H v<H i):KX N K H where
 ir:=ir
 dn:=dn
 fm:=hf
 kl:=λx hx h10=>by
  have h:=hf x hx;unfold ju at h;rw[AT (by omega),By h10] at h;simp only[abo,aaq,abb] at h;exact h.2
 sc:=λx hx h=>alK (hf x hx) h
 tg:=λx hx h11 b hb=>by
  have h:=hf x hx;unfold ju at h;rw[AT (by omega),AT (by omega),By h11] at h;simp only[abo,aaq] at h;exact ZC h.1.1.1 b hb
end
section
variable {N M:List al}{H H2:Int->Nat}{K K2:Int->Prop}
def aj7 (k:KX N K H)(k2:KX M K2 H2)(lf:∀x∈N,∀y∈M,x.kind<9->y.kind<9->oa x=oa y->x.kind=y.kind/\x.text=y.text)
  (od:∀x∈N,x.kind≠10->x.ord=false) (od2:∀x∈M,x.kind≠10->x.ord=false) (tx:∀x∈N,9<=x.kind->x.kind≠11->x.text.data.toList=[]) (tx2:∀x∈M,9<=x.kind->x.kind≠11->x.text.data.toList=[]):INJ N M K K2 H H2:=by
 intro f g i j hi hj h1 h2 e;obtain⟨x,y,hx,hy,c,c0,c12,c3⟩:=aa5 k k2 hi hj h1 h2 e;have mx:=aq hx;have my:=aq hy;obtain⟨p1,p2,p3,p4⟩:=pW (k.fm x mx);obtain⟨q1,q2,q3,q4⟩:=pW (k2.fm y my);have teq:∀{s t:ζ},s.data.toList=t.data.toList->s=t:=λh=>al8 (Array.toList_inj.1 h);have cx:∀z:al,(nI z=0↔z.kind=11)/\(z.kind<=11->(nI z=3↔z.kind=9\/z.kind=10))/\(nI z=1\/nI z=2->z.kind<9):=λz=>by
  unfold nI;refine⟨?_,λh=>?_,λh=>?_⟩
  .split<;>(try split)<;>(try split)<;>omega
  .split<;>(try split)<;>(try split)<;>omega
  .split at h<;>(try split at h)<;>(try split at h)<;>omega
 have o1:bM N i=iS (iT N) x:=by unfold bM;rw[hx]
 have o2:bM M j=iS (iT M) y:=by unfold bM;rw[hy]
 by_cases k11:x.kind=11
 .have z0:=(cx x).1.2 k11;have y11:=(cx y).1.1 (by rw[<-c];exact z0);obtain⟨t,t0⟩:=c0 z0;have l1:=p4 k11;have l2:=q4 y11;refine⟨x,y,hx,hy,by omega,teq t,by rw[od x mx (by omega),od2 y my (by omega)],by omega,λp a a' r r'=>⟨λq=>by omega,?_⟩⟩;rw[o1,om (λq=>by omega),l1] at r;rw[o2,om (λq=>by omega),l2] at r';have z1:=(iB 1).2 a (IN r);have z2:=(iB 1).2 a' (IN r');rw[show a=0 by omega,show a'=0 by omega];exact t0
 by_cases k9:x.kind<9
 .have z:nI x=1\/nI x=2:=by
   unfold nI;split
   .exact absurd (by assumption) k11
   .split
    .exact .inl rfl
    .exact .inr rfl
  have y9:=(cx y).2.2 (by rw[<-c];exact z);obtain⟨r1,r2⟩:=lf x mx y my k9 y9 (c12 z);refine⟨x,y,hx,hy,r1,r2,by rw[od x mx (by omega),od2 y my (by omega)],by rw[p3 k9,q3 y9],λp a a' r r'=>?_⟩;have:=dP (IN (o1▸r));rw[p3 k9] at this;simp at this;omega
 .have z:nI x=3:=((cx x).2.1 p2).2 (by omega);have yk:=((cx y).2.1 q2).1 (by rw[<-c];exact z);obtain⟨d1,d2,d3,d4⟩:=c3 z;have hk:x.kind=y.kind:=by
   by_cases x10:x.kind=10
   .rw[x10,d1.1 x10]
   .have:¬y.kind=10:=λq=>x10 (d1.2 q);omega
  refine⟨x,y,hx,hy,hk,teq (by rw[tx x mx (by omega) k11,tx2 y my (by omega) (by omega)]),?_,?_,d4⟩
  .by_cases x10:x.kind=10
   .exact d2 x10
   .rw[od x mx x10,od2 y my (by omega)]
  .rw[fu hx,fu hy] at d3;exact d3
end
section
variable {α β:Type}{h h' h0:aj}{L R:List bN}{Q:β->aj->Prop}
def stV (p:Int×ζ):δ:=[vi p.1,.string p.2]
def KC (p:PT):δ:=p.flatMap stV
theorem TF (p:PT):(KC p).length=p.length*2:=by
 induction p with
 |nil=>rfl
 |cons a p ih=>grind [stV,KC,List.length_append,List.length_cons]
def aeu (p q:PT):KC (p++q)=KC p++KC q:=al5
def PA (a:Sl)(p:PT)(o:bN):Prop:=(p=[]/\a=pY/\o=.sl pY 2 aE [] 0)\/∃F g,o=.XK F 2 aE g/\(a,KC p)∈F/\∀x∈F,x.2.length<=(KC p).length
def PA.nil:PA pY [] (.sl pY 2 aE [] 0):=.inl ⟨rfl,rfl,rfl⟩
theorem agc {o o':bN}(z:Z h0 h (o'::L))(hk:o'.ok h->o.ok h)(hg:o.iL=o'.iL\/o.iL=0):Z h0 h (o::L):=by
 obtain⟨h1,h2⟩:=List.pairwise_cons.1 z.wU;refine⟨z.Ls,z.fr,λx hx=>?_,List.pairwise_cons.2 ⟨λx hx he=>?_,h2⟩⟩
 .rcases List.mem_cons.1 hx with rfl|hx
  .obtain⟨a,b⟩:=z.own o' IS
   grind
  .exact z.own x (BY _ hx)
 grind
theorem Qb.one {s:Sl}{sz:Nat}{e:μ}{cs:δ}{g:Nat}(o:uQ h s sz e cs g)(hn:s.len≠0)(hc:s.cap=0):Qb h [(s,cs)] sz e g:=by
 obtain⟨h1,h2⟩:=o;rcases h2 with⟨rfl,_⟩|⟨a,b,_,bl,base,c,d,_⟩
 .exact absurd rfl hn
 .exact⟨a,b,base,λx hx=>by grind⟩
theorem PA.app {a:Sl}{p:PT}{o:bN}(z:Z h0 h (o::L))(hp:PA a p o)(st:Int×ζ)(hb:p.length+1<=cQ){ads:List θ}
  (ha:∀b,some b∈ads->∃cs g base e,h.get b.block=some (.cells cs g base e)/\(g=o.iL->g=0)) {f:Sl->M β}
  (q:∀s' h' o',PA s' (p++[st]) o'->Z h0 h' (o'::L)->(∀h2 L2,Z h0 h2 (o'::L2)->Z h0 h2 (o::L2))->Wp (f s') h' Q):Wp (sh (Ago.uw ads (Ago.app false a 2 aE 1 (stV st))) f) h Q:=by
 rw[ag];have chg:∀{h':aj},Fr (·=o.iL) h h'->∀b,some b∈ads->h'.get b.block=h.get b.block:=λfr b hb=>by
  obtain⟨cs,g,base,e,h1,h2⟩:=ha b hb;rw[h1];exact fr.cells _ _ _ _ _ h1 h2
 rcases hp with⟨rfl,rfl,rfl⟩|⟨F,g,rfl,hm,hmax⟩
 .refine CH (uQ.app (z.get 0 rfl:uQ h pY 2 aE [] 0) z.wf (by decide) rfl (by show 0+1<=cQ;unfold cQ;omega) λs' h' g' hl hc o hg fr=>?_);refine⟨chg fr,?_⟩;have hg:=hg.resolve_left λx=>x.2 rfl;have f0:Fr (λ_=>False) h h':=⟨fr.wf,fr.next,λj c g2 b e2 hj _=>fr.cells j c g2 b e2 hj λe3=>e3,λg2 h5 _=>fr.ot g2 h5 λe3=>e3,fr.used,fr.none,λj x hj _=>fr.maps j x hj (by omega)⟩
  have hl1:s'.len=1:=hl;have z2:Z h0 h' (.XK [(s',[]++stV st)] 2 aE g'::L):=z.drop.add f0 (o:=.XK [(s',[]++stV st)] 2 aE g') (Qb.one o (by omega) hc) (.inr (by simp only[bN.iL];omega));refine q s' h' _ (.inr ⟨_,_,rfl,?_,?_⟩) z2 λh2 L2 z3=>agc z3 (λ_=>uQ.nil) (.inr rfl)
  .rw[abr,abr];exact List.mem_singleton.2 rfl
  .intro x hx;rw[afQ] at hx;subst hx;exact aao _
 .have o:Qb h F 2 aE g:=z.get 0 rfl;have hal:(KC p).length=a.len*2:=by obtain⟨_,_,base,hF⟩:=o;exact (hF _ hm).1
  rw[TF] at hal;refine CH (Qb.app o z.wf hm hmax (by decide) rfl (by omega) λs' h' hl o' fr=>?_);refine⟨chg fr,?_⟩;have z2:Z h0 h' (.XK ((s',KC p++stV st)::F) 2 aE g::L):=z.vN (i:=0) (o:=.XK F 2 aE g) (o':=.XK ((s',KC p++stV st)::F) 2 aE g) rfl (by have:=o.1;show g≠0;omega) fr o' (.inl rfl);have e1:KC (p++[st])=KC p++stV st:=by rw[aeu];show _++(stV st++[])=_;rw[aeD]
  refine q s' h' _ (.inr ⟨_,_,rfl,by rw[e1];exact IS,?_⟩) z2 λh2 L2 z3=>agc z3 (λk=>?_) (.inl rfl)
  .grind
  .obtain⟨k1,k2,base,k3⟩:=k;exact⟨k1,k2,base,λx hx=>k3 x (BY _ hx)⟩
def aa8 {s:Sl}{b:Addr}{sz:Nat}{e:μ}(hs:s.a=some b){Q:Sl->aj->Prop}(q:Q s h):Wp (Ago.app false s sz e 0 []) h Q:=
 ⟨s,h,by unfold Ago.app vo;simp[hs],q⟩
theorem PA.copy {a:Sl}{p:PT}{o:bN}(z:Z h0 h (o::L))(hp:PA a p o)(hb:p.length<=cQ){f:Sl->M β}
  (q:∀s' h' g',Z h0 h' (.sl s' 2 aE (KC p) g'::o::L)->Wp (f s') h' Q):Wp (sh (iR none aE []) λx=>sh (Ago.MM a 2) λy=>sh (Ago.app false { a:=some (ak x),len:=0,cap:=1 } 2 aE a.len y) f) h Q:=by
 rw[ag,CG];refine⟨rfl,?_⟩;have z1:=z.add (Fr.new (e:=aE) (cs:=[]) z.wf) (o:=.sl ⟨some ⟨h.next,0,none⟩,0,0+1⟩ 2 aE [] (h.next+1))
  ⟨by simp,.inr ⟨by omega,by simp[aj.new,aj.di],.inr rfl,h.next,0,rfl,lH,by rw[aj.new,xB];simp⟩⟩ (.inr (af7 _))
 generalize h.next=b at z1⊢
 rw[ag];refine agx (.inr ?_);by_cases hn:p=[]
 .subst hn;have h1:a.len=0/\aX (h.new aE []) a.a (a.len*2)=some []:=by
   rcases hp with⟨_,rfl,_⟩|⟨F,g,rfl,hm,_⟩
   .exact⟨rfl,rfl⟩
   .have o:Qb (h.new aE []) F 2 aE g:=z1.get 1 rfl;obtain⟨_,_,base,hF⟩:=o;obtain⟨e1,e2,bl,e3,e4⟩:=hF _ hm;have:a.len=0:=by grind [KC,List.length_nil]
    grind [aX,KC]
  refine⟨[],h1.2,?_⟩;rw[h1.1,ag];refine aa8 rfl ?_;exact q _ _ _ z1
 .rcases hp with⟨e,_⟩|⟨F,g,rfl,hm,hmax⟩
  .exact absurd e hn
  .have o:Qb (h.new aE []) F 2 aE g:=z1.get 1 rfl;obtain⟨_,_,base,hF⟩:=o;obtain⟨e1,e2,bl,e3,e4⟩:=hF _ hm;simp only at e1 e2 e3 e4;have hl:a.len=p.length:=by rw[TF] at e1;omega
   refine⟨KC p,?_,?_⟩
   .simp[aX,e3,e4,<-e1]
   .refine Z.Q6 z1 0 rfl (by grind) (by rw[e1]) (by rw[hl];show 0+_<=_;omega) λs' h' g' _ z2 _=>?_;exact q s' h' g' z2
end
section
variable {α β:Type}{h h' h0:aj}{L R:List bN}{N N2:List al}{Q:β->aj->Prop}
structure SC where
 m:Nat
 x1:Nat
 x3:Nat
 a0:Nat
 a1:Nat
 s1:Sl
 r1:Int
 s2:Sl
 r2:Int
abbrev SC.fn (c:SC):ο:=Value.func (Fn.func pG) #[] #[Value.pointer (some (ak c.x1)),Value.pointer (some (ak c.a0)),Value.pointer (some (ak c.a1)),Value.pointer (some (ak c.x3))]
def SML (c:SC)(fn:ο->Option ο)(k:Nat):List bN:=[.map c.m cG fn k,.ar c.x1 [Value.map (some c.m)] oS,.ar c.x3 [c.fn] eV]
def prV (a b:Int):ο:=.agg #[vi a,vi b]
def WE (fn:ο->Option ο)(met:List IP):Prop:=∀a b:Int,fn (prV a b)=if (a,b)∈met then some (.bool true) else none
theorem aba (a b c d:Int):Cg (prV a b) (prV c d)=true↔(a,b)=(c,d):=by
 constructor
 .grind [Qa,prV]
 .intro e;cases e;unfold prV;simp[Cg,Ao,DC,Pz]
theorem WE.vN {fn:ο->Option ο}{met:List IP}(m:WE fn met)(a b:Int):WE (zT fn (prV a b) (.bool true)) ((a,b)::met):=λc d=>by
 unfold zT;by_cases e:(c,d)=(a,b)
 .rw[By ((aba _ _ _ _).2 e),By (by rw[e];exact IS)]
 .rw[AT (λx=>e ((aba _ _ _ _).1 x)),m c d]
  grind
def xP (c:SC)(h0:aj)(res:Option PT)(p:PT)(o:bN)(X:List bN)(m':List IP)(r:Sl)(t:Bool)(h':aj):Prop:=∃fn k,WE fn m'/\match res with
 |none=>t=false/\r=pY/\Z h0 h' (o::(SML c fn k++X))
 |some q=>t=true/\∃g,Z h0 h' (.sl r 2 aE (KC (p++q)) g::o::(SML c fn k++X))
def xP.sub {c:SC}{res:Option PT}{p:PT}{o:bN}{X X':List bN}{m':List IP}{r:Sl}{t:Bool}(h:xP c h0 res p o X m' r t h')(hs:X'.Sublist X):xP c h0 res p o X' m' r t h':=by
 obtain⟨fn,k,m,w⟩:=h;refine⟨fn,k,m,?_⟩;cases res with
 |none=>exact⟨w.1,w.2.1,w.2.2.sub (List.Sublist.cons_cons _ (ak6 (aiX _) hs))⟩
 |some q=>
  obtain⟨w1,g,w2⟩:=w;exact⟨w1,g,w2.sub (List.Sublist.cons_cons _ (List.Sublist.cons_cons _ (ak6 (aiX _) hs)))⟩
def fuS (f:Nat):Nat:=fuQ+300+f*100
def alN (h0:aj)(c:SC)(N N2:List al)(f:Nat):Prop:=∀(n:Nat) (h:aj) (q:IP) (met m':List IP) (res:Option PT) (a:Sl) (p:PT) (o:bN) (fn:ο->Option ο) (k:Nat) (L:List bN),fuS f<=n->srF N c.r1 N2 c.r2 f met q=some (m',res)->WE fn met->PA a p o->p.length+f<=5000->Z h0 h (o::(SML c fn k++L)) ->
 Wp ((aW.at n).mI q a (ak c.x1) (ak c.a0) (ak c.a1) (ak c.x3)) h λr h'=>xP c h0 res p o L m' r.1 r.2 h'
def nbB {o:bN}(z:Z h0 h (o::L)){b:Addr}{vs:δ}{g:Nat}(c:Cl h b vs g)(hg:g<=h0.next):∃cs g base e,h.get b.block=some (.cells cs g base e)/\(g=o.iL->g=0):=by
 obtain⟨_,cs,base,e,h2,_⟩:=c;refine⟨cs,g,base,e,h2,λe1=>?_⟩;rcases (z.own o IS).2 with q|q<;>omega
def alO {o:bN}(z:Z h0 h (o::L)){b:Nat}{cs:δ}{e:μ}(hm:bN.ar b cs e∈L):∃cs g base e,h.get b=some (.cells cs g base e)/\(g=o.iL->g=0):=by
 have l:LB h b cs e:=(z.own _ (BY _ hm)).1;refine⟨cs,b+1,0,e,l.get,λe1=>?_⟩;have:=(List.pairwise_cons.1 z.wU).1 _ hm (by show o.iL=b+1;omega);omega
theorem alP {c:SC}{f:Nat}(V:alN h0 c N N2 f)(G2:lJ h0 c.s2 N2)(l1:LB h0 c.a1 [aC c.s2,vi c.r2] ah){q:IP}{x y:al}{T:List ζ}(hT:T=[]\/T.length=x.items.length)(hy:gt N2 q.2=some y)(hxy:x.items.length=y.items.length)(hb:x.items.length<=80){is:Sl}(ix:IL h0 is x.items){pb:Nat}{nm:Sl}{a:Sl}{p:PT}{o:bN}(hp:PA a p o)(hpf:p.length+f<5000){gN:Nat} :
  ∀(n i:Nat) (h:aj) (met m':List IP) (res:Option PT) (fn:ο->Option ο) (k:Nat),fuS f+(x.items.length-i)+1<=n->i<=x.items.length->srL (srF N c.r1 N2 c.r2 f) T i (x.items.drop i) (y.items.drop i) met=some (m',res)->WE fn met ->
   Z h0 h (o::(SML c fn k++(.sl nm 1 eD (T.map .string) gN::.ar pb [vi q.1,vi q.2] cG::L))) ->
   Wp ((aW.at n).jr a (ak c.a1) (ak c.x3) (ak pb) nm is (x.items.length:Int) (i:Int)) h λr h'=>match r with
    |.inl _=>xP c h0 res p o L m' pY false h'
    |.inr v=>xP c h0 res p o L m' v.1 v.2 h':=by
 intro n
 induction n with
 |zero=>intro i h met m' res fn k h1;omega
 |succ n ih=>
  intro i h met m' res fn k h1 h2 hv hM z;show Wp (qg (aW.at n) n a (ak c.a1) (ak c.x3) (ak pb) nm is (x.items.length:Int) (i:Int)) h _;unfold qg;by_cases hi:i<x.items.length
  .rw[By (by simpa using hi)];obtain⟨u,hu⟩:=kB (l:=x.items) (v:=(i:Int)) (by omega) (by omega);obtain⟨v,hv'⟩:=kB (l:=y.items) (v:=(i:Int)) (by omega) (by omega);rw[BF hu,BF hv'] at hv;unfold srL at hv;refine (ix.fr z.fr).ix (by omega) (aB hu).2 λ_ _ c1=>c1.tn (l:=li) rfl rfl ?_;refine z.new λsb h2' z _=>?_;have J:∀h3,Z h0 h3 (.ar sb (stV (stp T i)) aE::o::(SML c fn k++(.sl nm 1 eD (T.map .string) gN::.ar pb [vi q.1,vi q.2] cG::L))) ->
     Wp (iw (aW.at n) n a (ak c.a1) (ak c.x3) (ak pb) nm (i:Int) u (ak sb) is (x.items.length:Int) (i:Int)) h3 λr h'=>match r with
    |.inl _=>xP c h0 res p o L m' pY false h'
    |.inr v=>xP c h0 res p o L m' v.1 v.2 h':=by
    intro h3 z;unfold iw;refine z.ld 4 (o:=0) (l:=.raw) (x:=c.fn) ?_;have cA:∀{h},Z h0 h L->True:=λ_=>trivial;refine (LB.cl (l1.fr z.fr λx=>x)).ld (o:=0) (l:=.sl) (x:=c.s2) rfl rfl ?_;refine z.ld 6 (o:=1) (l:=li) (x:=q.2) ?_;refine G2.RX z (aB hy).1 (aB hy).2 λay ks' is' nd'=>?_;obtain⟨gy,cy⟩:=nd'.cl;refine (nd'.fr z.fr).D6 ?_;obtain⟨gi,ri⟩:=nd'.items;have hgi:gi<=h0.next:=by
     have hne:is'.len≠0:=(by have:=nd'.items.len;omega);obtain⟨_,_,_,cs,base,e,h2,_⟩:=ri.2.resolve_left hne;exact z.Ls.iL _ _ _ _ _ h2
    refine (vj.fr ri z.fr λx=>x.elim).XH (enc:=vi) (by omega) (aB hv').2 λai ci=>ci.tn (l:=li) rfl rfl ?_;refine z.fI 0 (x:=(stp T i:eC [li,.str])) ?_;have zd:=z.drop;refine PA.app zd hp (stp T i) (by unfold cQ;omega) (λb hb=>?_) λs' h4 o' hp' z4 back=>?_
    .simp only[ak3,abo,al3,anG] at hb;rcases hb with rfl|rfl|rfl|rfl|rfl
     .exact alO zd (abx _ (by unfold SML;exact BY _ (BY _ IS)))
     .exact nbB zd (LB.cl (l1.fr z.fr λx=>x)) (by have:=LB.lt l1 z.Ls;show c.a1+1<=h0.next;omega)
     .exact alO zd (abq _ (BY _ IS))
     .have cy':=cy.fr z.fr λx=>x.elim;refine nbB zd (b:=ay) cy' ?_;obtain⟨_,cs,base,e,h2,_⟩:=cy;exact z.Ls.iL _ _ _ _ _ h2
     .exact nbB zd ci hgi
    .rw[ag];unfold pz;rw[By (by rfl),ag];refine kC (c:=((ak c.x1,ak c.a0,ak c.a1,ak c.x3):Addr×Addr×Addr×Addr)) rfl ?_;cases e1:srF N c.r1 N2 c.r2 f met (u,v) with
     |none=>rw[e1] at hv;cases hv
     |some w=>
     obtain⟨m1,r1⟩:=w;rw[e1] at hv;refine (V n h4 (u,v) met m1 r1 s' (p++[stp T i]) o' fn k _ (by omega) e1 hM hp' (by grind) z4).mono λr h5 hr=>?_;obtain⟨fn2,k2,hM2,hr⟩:=hr;cases r1 with
     |some pq=>
      simp only at hv hr;cases hv;obtain⟨ht,g,z5⟩:=hr;rw[By (by simpa using ht)];refine af.2 ?_;have z6:=z5.perm (List.Perm.swap _ _ _);have z7:=(back h5 _ z6).perm (List.Perm.swap _ _ _);rw[abp] at z7;exact xP.sub (X:=.sl nm 1 eD (T.map .string) gN::.ar pb [vi q.1,vi q.2] cG::L) ⟨fn2,k2,hM2,rfl,g,z7⟩ (List.Sublist.cons _ (List.Sublist.cons _ (aiX _)))
     |none=>
      simp only at hv hr;obtain⟨ht,_,z5⟩:=hr;rw[AT (by rw[ht];simp),w3 (B:=80) (by omega) (by omega)];exact ih (i+1) h5 m1 m' res fn2 k2 (by omega) (by omega) hv hM2 (back h5 _ z5)
   refine z.st 0 (cs':=[vi (i:Int),.string (ofBytes [])]) λh3 z=>?_;have nl:nm.len=T.length:=by
    have o:uQ h3 nm 1 eD (T.map .string) gN:=z.get 5 rfl;have:=o.1;simp at this;omega
   by_cases hTn:T=[]
   .rw[AT (by rw[nl,hTn];simp)];refine J h3 ?_;have:stp T i=((i:Int),ofBytes []):=(by rw[hTn];rfl);rw[this];exact z
   .have hTl:=hT.resolve_left hTn;rw[By (by rw[nl,hTl];simp;omega)];obtain⟨t,ht⟩:=gG (l:=T) (i:=i) (by omega);refine aj2 z (IN (i:=5) rfl) ht λat' g ct=>ct.tn (l:=.str) rfl rfl ?_;refine z.st 0 (cs':=[vi 0,.string t]) λh4 z=>?_;refine J h4 ?_;have:stp T i=(0,t):=(by unfold stp;rw[ht]);rw[this];exact z
  .rw[AT (by simpa using hi)];rw[abn (by omega)] at hv;unfold srL at hv;cases hv;refine af.2 ?_;exact xP.sub (X:=.sl nm 1 eD (T.map .string) gN::.ar pb [vi q.1,vi q.2] cG::L) ⟨fn,k,hM,rfl,rfl,z⟩ (List.Sublist.cons _ (List.Sublist.cons _ (aiX _)))
end
section
variable {α β:Type}{h h' h0:aj}{L R:List bN}{N N2:List al}{Q:β->aj->Prop}
def abc (f:Nat):fuS (f+1)=fuS f+100:=by unfold fuS;omega
def Rl (f:Nat):fuQ+300<=fuS f:=by unfold fuS;omega
def KsL (N:List al):Prop:=∀x∈N,x.keys.length=(if x.kind=10 then x.items.length else 0)
theorem aev {c:SC}(G1:lJ h0 c.s1 N)(G2:lJ h0 c.s2 N2)(l0:LB h0 c.a0 [aC c.s1,vi c.r1] ah)(l1:LB h0 c.a1 [aC c.s2,vi c.r2] ah)(f1:eZ N)(f2:eZ N2)(i1:jE N N.length)(i2:jE N2 N2.length)(k1:KsL N)(k2:KsL N2):∀f,alN h0 c N N2 f:=by
 intro f
 induction f with
 |zero=>intro n h q met m' res a p o fn k L _ hv;cases hv
 |succ f ih=>
  intro n h q met m' res a p o fn k L hn hv hM hp hpf z;obtain⟨qa,qb⟩:=q;rw[abc] at hn;have hS:=Rl f;obtain⟨n,rfl⟩:∃n',n=n'+1:=⟨n-1,by omega⟩;show Wp (tZ (aW.at n) n (qa,qb) a (ak c.x1) (ak c.a0) (ak c.a1) (ak c.x3)) h _;unfold tZ;refine z.new λx0 h1 z _=>?_;refine z.ld 3 (o:=0) (l:=.mp) (x:=some c.m) ?_;refine z.fI 0 (x:=((qa,qb):eC [li,li])) ?_;unfold srF at hv;refine z.jW 2 (k:=prV qa qb) rfl (λv e=>?_) (λe=>?_)
  .rw[hM qa qb] at e;split at e
   .rename_i hm;cases e;rw[By hm] at hv;cases hv;refine⟨true,rfl,?_⟩;rw[By rfl];exact af.2 ⟨fn,k,hM,rfl,rfl,z.drop⟩
   .cases e
  .rw[hM qa qb] at e;split at e
   .cases e
   .rename_i hm;rw[AT hm] at hv;rw[AT (by simp)];refine z.ld 3 (o:=0) (l:=.mp) (x:=some c.m) ?_;refine z.fI 0 (x:=((qa,qb):eC [li,li])) ?_;refine z.oM 2 (k:=prV qa qb) rfl λh2 k' z=>?_;have hM2:=hM.vN qa qb;have z:Z h0 h2 (.ar x0 [vi qa,vi qb] cG::o::(SML c (zT fn (prV qa qb) (.bool true)) k'++L)):=z;generalize zT fn (prV qa qb) (.bool true)=fn2 at z hM2;refine (LB.cl (l0.fr z.fr λx=>x)).fI (x:=((c.s1,c.r1):eC [.sl,li])) rfl ?_;refine (LB.cl (l1.fr z.fr λx=>x)).fI (x:=((c.s2,c.r2):eC [.sl,li])) rfl ?_;refine z.fI 0 (x:=((qa,qb):eC [li,li])) ?_;cases hx:gt N qa with
    |none=>rw[hx] at hv;cases hv
    |some x=>
    cases hy:gt N2 qb with
    |none=>rw[hx,hy] at hv;cases hv
    |some y=>
    rw[hx,hy] at hv;simp only at hv;rw[ag];refine (aaU z G1 G2 f1 f2 i1 i2 (k1 x (aq hx)) (k2 y (aq hy)) hx hy (n:=n) (by omega)).mono λr h3 hr=>?_;cases em:Kx N c.r1 N2 c.r2 x y with
    |none=>
     rw[em] at hr hv;obtain⟨ht,z⟩:=hr;cases hv;rw[By (by rw[ht];rfl)];refine PA.copy z.drop hp (by unfold cQ;omega) λs' h4 g' z4=>af.2 ?_;refine⟨fn2,k',hM2,rfl,g',?_⟩;rw[aeD];exact z4
    |some T=>
     rw[em] at hr hv;obtain⟨ht,g,z⟩:=hr;simp only at hv;obtain⟨hxy,eT⟩:=Tw em;rw[AT (by rw[ht];simp)];refine (LB.cl (l0.fr z.fr λx=>x)).ld (o:=0) (l:=.sl) (x:=c.s1) rfl rfl ?_;refine z.ld 1 (o:=0) (l:=li) (x:=qa) ?_;refine G1.RX z (aB hx).1 (aB hx).2 λax ks is nd=>?_;refine (nd.fr z.fr).D6 ?_;rw[nd.items.len,ag];have z5:Z h0 h3 (o::(SML c fn2 k'++(.sl r.1 1 eD (T.map .string) g::.ar x0 [vi qa,vi qb] cG::L))):=
      z.perm (show ([bN.sl r.1 1 eD (T.map .string) g,.ar x0 [vi qa,vi qb] cG]++((o::SML c fn2 k')++L)).Perm ((o::SML c fn2 k')++([bN.sl r.1 1 eD (T.map .string) g,.ar x0 [vi qa,vi qb] cG]++L)) from alp _ _ _)
     have hTl:T=[]\/T.length=x.items.length:=by
      have:=k1 x (aq hx)
      grind
     refine (alP (q:=(qa,qb)) (x:=x) (y:=y) (T:=T) ih G2 l1 hTl hy hxy (f1.map x (aq hx)).1 nd.items hp (by omega) n 0 h3 _ m' res fn2 k' (by have:=(f1.map x (aq hx)).1;omega) (aku _) hv hM2 z5).mono λw h4 hw=>?_;cases w with
     |inl _=>exact af.2 hw
     |inr v=>exact af.2 hw
def alQ {c0 c1:Nat}{s1 s2:Sl}{r1 r2:Int}(z:Z h0 h L)(G1:lJ h s1 N)(G2:lJ h s2 N2)(l0:LB h c0 [aC s1,vi r1] ah)(l1:LB h c1 [aC s2,vi r2] ah)(f1:eZ N)(f2:eZ N2)(i1:jE N N.length)(i2:jE N2 N2.length)(k1:KsL N)(k2:KsL N2)(e1:IR N.length r1)(e2:IR N2.length r2){n:Nat}(hn:fuS WC<=n) :
  Wp (qL n (ak c0) (ak c1)) h λr h'=>r.2.2=true/\Fr (λ_=>False) h h'/\match MA N r1 r1 N2 r2 r2 with
   |none=>r.2.1=false/\r.1=pY
   |some q=>r.2.1=true/\∃g,uQ h' r.1 2 aE (KC q) g/\(g=0\/h.next<g):=by
 unfold qL;have z:=Z.start z.wf;refine z.akM λm h1 z=>z.new λx1 h2 z _=>z.st 0 (cs':=[Value.map (some m)]) λh3 z=>z.new λx3 h4 z _=>?_
 let c:SC:=⟨m,x1,x3,c0,c1,s1,r1,s2,r2⟩
 refine z.st 0 (cs':=[c.fn]) λh5 z=>?_;have z:Z h h5 ([.ar x3 [c.fn] eV,.ar x1 [Value.map (some m)] oS,.map m cG (λ_=>none) 0]++[]):=z;refine z.ld 0 (o:=0) (l:=.raw) (x:=c.fn) ?_;refine (LB.cl (l0.fr z.fr λx=>x)).ld (o:=1) (l:=li) (x:=r1) rfl rfl ?_;refine (LB.cl (l1.fr z.fr λx=>x)).ld (o:=1) (l:=li) (x:=r2) rfl rfl ?_;have z:=Z.uR (pre:=[_,_,_]) z [2,1,0] (by simp only[aaH,adr];decide);have z:Z h h5 (SML c (λ_=>none) 0++[]):=z;have z6:=z.add (Fr.refl z.wf) (o:=.sl pY 2 aE [] 0) uQ.nil (.inl rfl);unfold ua;rw[By (by rfl),ag,ag];refine kC (c:=((ak c.x1,ak c.a0,ak c.a1,ak c.x3):Addr×Addr×Addr×Addr)) rfl ?_;obtain⟨m',er,_⟩:=Tx (r:=r1) (s:=r2) f1 f2 i1 i2 e1 e2;refine (aev (c:=c) G1 G2 l0 l1 f1 f2 i1 i2 k1 k2 WC n h5 (r1,r2) [] m' _ pY [] _ (λ_=>none) 0 [] hn er (λa b=>by rw[AT (by simp)]) PA.nil (by unfold WC;simp) z6).mono λr h6 hr=>af.2 ?_;obtain⟨fn,k,_,hr⟩:=hr;cases hq:MA N r1 r1 N2 r2 r2 with
 |none=>
  rw[hq] at hr;exact⟨rfl,hr.2.2.fr,hr.1,hr.2.1⟩
 |some q=>
  rw[hq] at hr;obtain⟨ht,g,z7⟩:=hr;have:=z7.own _ IS;exact⟨rfl,z7.fr,ht,g,this.1,this.2⟩
end
section
variable {α β:Type}{h h' h0:aj}{L R:List bN}{N N2:List al}{root:Int}{Q:β->aj->Prop}
def yA (d:Vd N root)(f:eZ N):eZ (oO N root):=⟨by rw[sR d];exact f.len,λy hy=>by
 have:=(adT d f.bd).2.2 y hy;exact⟨this.2,this.1⟩,λy hy=>by
 rcases BG d hy with rfl|⟨x,hx,_,h2,_⟩
 .show (ofBytes []).size<=_;decide
 .rw[h2];exact f.txt x hx⟩
def eZ.vd (f:eZ N)(h:Sh.gc N root=0):Vd N root:=by
 have hc:=f.gc root;rw[h] at hc;exact vT f.bd.2.2 f.bd.1 (by omega) f.k0 hc
def ir0 {n m:Nat}{r:Int}(e:m=n)(h:IR n r):IR m 0:=by
 have:=h.1;have:=h.2;exact⟨by omega,by omega⟩
noncomputable def frG (N:List al)(r:Int)(N2:List al)(s:Int):Option PT:=MA (oO N r) 0 0 (oO N2 s) 0 0
def SrR (N:List al)(r:Int)(N2:List al)(s:Int)(nx:Nat)(v:Sl×Bool×Bool)(h':aj):Prop:=
 (gc N r=0/\gc N2 s=0->v.2.2=true/\match frG N r N2 s with
  |none=>v.2.1=false/\v.1=pY
  |some q=>v.2.1=true/\∃g,uQ h' v.1 2 aE (KC q) g/\(g=0\/nx<g))/\(¬(gc N r=0/\gc N2 s=0)->v=(pY,false,false))
def WM:Nat:=fuS WC+fuN
theorem Pp {n:Nat}(h:WM<=n):fuS WC<=n/\fuN<=n/\KF+66000<n:=by
 have h1:WM=fuS WC+fuN:=rfl;have h2:=Rl WC;have h3:=(OY (aao fuQ)).2.2
 grind
theorem SrR.mono {r s:Int}{n1 n2:Nat}{v:Sl×Bool×Bool}(x:SrR N r N2 s n2 v h')(h:n1<=n2):SrR N r N2 s n1 v h':=by
 refine⟨λhh=>?_,x.2⟩;obtain⟨a,b⟩:=x.1 hh
 grind
theorem WG {s1 s2:Sl}{r1 r2:Int}(z:Z h0 h L)(G1:lJ h0 s1 N)(G2:lJ h0 s2 N2)(f1:eZ N)(f2:eZ N2){n:Nat}(hn:WM<=n) :
  Wp (pV n (s1,r1) (s2,r2)) h λv h'=>SrR N r1 N2 r2 h0.next v h'/\Fr (λ_=>False) h h':=by
 obtain⟨n1,n2,n3⟩:=Pp hn;have G1':=G1.fr z.fr;have G2':=G2.fr z.fr;have hle:=z.fr.next
 have z:=Z.start z.wf
 suffices hh:Wp (pV n (s1,r1) (s2,r2)) h λv h'=>SrR N r1 N2 r2 h.next v h'/\Fr (λ_=>False) h h' from hh.mono λv h' a=>⟨a.1.mono hle,a.2⟩
 unfold pV;refine z.new λx0 h1 z _=>z.new λx1 h2 z _=>?_;refine z.fI 1 (x:=((s1,r1):eC [.sl,li])) ?_;rw[ag];refine (Fy z G1' f1 f1.k0 (f1.gc r1) n2 n3).mono λy h3 hy=>?_;obtain⟨⟨o1,q1⟩,w1⟩:=y;by_cases c1:gc N r1=0
 .rw[By c1] at hy;obtain⟨e1,e2,m1⟩:=hy;simp only at e1 e2 m1;subst e1;subst e2;refine m1.on λX z back=>?_;refine z.new λx4 h4 z _=>z.st 0 (cs':=[aC o1,vi 0]) λh5 z=>?_;have z:Z h h5 (.ar x4 [aC o1,vi 0] ah::.ar x1 [aC s2,vi r2] ah::.ar x0 [aC s1,vi r1] ah::X):=z;refine z.fI 1 (x:=((s2,r2):eC [.sl,li])) ?_;rw[ag];refine (Fy z G2' f2 f2.k0 (f2.gc r2) n2 n3).mono λy h6 hy=>?_;obtain⟨⟨o2,q2⟩,w2⟩:=y;by_cases c2:gc N2 r2=0
  .rw[By c2] at hy;obtain⟨e1,e2,m2⟩:=hy;simp only at e1 e2 m2;subst e1;subst e2;refine m2.on λX2 z back2=>?_;refine z.new λx8 h7 z _=>z.st 0 (cs':=[aC o2,vi 0]) λh8 z=>?_;have z:Z h h8 (.ar x8 [aC o2,vi 0] ah::.ar x4 [aC o1,vi 0] ah::.ar x1 [aC s2,vi r2] ah::.ar x0 [aC s1,vi r1] ah::(X++X2)):=by simpa using z
   rw[AT (by simp),AT (by simp)];have R1:lJ h8 o1 (oO N r1):=(back h8 (.ar x8 [aC o2,vi 0] ah::.ar x4 [aC o1,vi 0] ah::.ar x1 [aC s2,vi r2] ah::.ar x0 [aC s1,vi r1] ah::X2) (z.perm (by
    show ([_,_,_,_]++(X++X2)).Perm (([_,_,_,_]++X2)++X)
    grind [List.append_assoc,List.Perm.append_left,List.perm_append_comm]))).read
   have R2:lJ h8 o2 (oO N2 r2):=(back2 h8 (.ar x8 [aC o2,vi 0] ah::.ar x4 [aC o1,vi 0] ah::.ar x1 [aC s2,vi r2] ah::.ar x0 [aC s1,vi r1] ah::X) (by simpa using z)).read;have d1:=f1.vd c1;have d2:=f2.vd c2;have i1:=ir0 (sR d1) d1.rt;have i2:=ir0 (sR d2) d2.rt;refine (alQ z R1 R2 (z.get 1 rfl:LB _ x4 [aC o1,vi 0] ah) (z.get 0 rfl:LB _ x8 [aC o2,vi 0] ah) (yA d1 f1) (yA d2 f2) (GY d1) (GY d2) (λy hy=>OS d1 hy) (λy hy=>OS d2 hy) i1 i2 n1).mono λv h9 hv=>?_;obtain⟨v1,v2,v3⟩:=hv;refine⟨⟨λ_=>⟨v1,?_⟩,λq=>absurd ⟨c1,c2⟩ q⟩,(z.pure v2).fr⟩;show match MA (oO N r1) 0 0 (oO N2 r2) 0 0 with
    |none=>v.2.1=false/\v.1=pY
    |some q=>v.2.1=true/\∃g,uQ h9 v.1 2 aE (KC q) g/\(g=0\/h.next<g)
   grind [MA,oO,id,z.fr.next]
  .rw[AT c2] at hy;obtain⟨e1,z⟩:=hy;simp only at e1;subst e1;refine z.new λx8 h7 z _=>z.st 0 (cs':=[aC o2,vi q2]) λh8 z=>?_;rw[AT (by simp),By (by simp)];exact af.2 ⟨⟨λq=>absurd q.2 c2,λ_=>rfl⟩,z.fr⟩
 .rw[AT c1] at hy;obtain⟨e1,z⟩:=hy;simp only at e1;subst e1;refine z.new λx4 h4 z _=>z.st 0 (cs':=[aC o1,vi q1]) λh5 z=>?_;have z:Z h h5 (.ar x4 [aC o1,vi q1] ah::.ar x1 [aC s2,vi r2] ah::.ar x0 [aC s1,vi r1] ah::[]):=z;refine z.fI 1 (x:=((s2,r2):eC [.sl,li])) ?_;rw[ag];refine (Fy z G2' f2 f2.k0 (f2.gc r2) n2 n3).mono λy h6 hy=>?_;obtain⟨⟨o2,q2⟩,w2⟩:=y;have hz:∃L,Z h h6 L:=by
   by_cases c2:gc N2 r2=0
   .rw[By c2] at hy;exact⟨_,hy.2.2.z⟩
   .rw[AT c2] at hy;exact⟨_,hy.2⟩
  obtain⟨L',z⟩:=hz;refine z.new λx8 h7 z _=>z.st 0 (cs':=[aC o2,vi q2]) λh8 z=>?_;rw[By (by simp)];exact af.2 ⟨⟨λq=>absurd q.1 c1,λ_=>rfl⟩,z.fr⟩
noncomputable def TG (N:List al)(r:Int)(N2:List al)(s:Int):Bool:=@decide (gc N r=0/\gc N2 s=0/\Eqv (oO N r) 0 0 (oO N2 s) 0 0) (Classical.propDecidable _)
theorem aew {r s:Int}(f1:eZ N)(f2:eZ N2)(c1:gc N r=0)(c2:gc N2 s=0):frG N r N2 s=none↔Eqv (oO N r) 0 0 (oO N2 s) 0 0:=by
 have d1:=f1.vd c1;have d2:=f2.vd c2;have i1:=ir0 (sR d1) d1.rt;have i2:=ir0 (sR d2) d2.rt;obtain⟨_,_,h⟩:=Tx (r:=0) (s:=0) (yA d1 f1) (yA d2 f2) (GY d1) (GY d2) i1 i2;exact h
theorem I2 {s1 s2:Sl}{r1 r2:Int}(z:Z h0 h L)(G1:lJ h0 s1 N)(G2:lJ h0 s2 N2)(f1:eZ N)(f2:eZ N2){n:Nat}(hn:WM<=n) :
  Wp (ji n (s1,r1) (s2,r2)) h λv h'=>v=TG N r1 N2 r2/\Fr (λ_=>False) h h':=by
 have G1:=G1.fr z.fr;have G2:=G2.fr z.fr;have z:=Z.start z.wf;unfold ji;refine z.new λx0 h1 z _=>z.new λx1 h2 z _=>?_;refine z.fI 1 (x:=((s1,r1):eC [.sl,li])) ?_;refine z.fI 0 (x:=((s2,r2):eC [.sl,li])) ?_;rw[ag];refine (WG z G1 G2 f1 f2 hn).mono λv h3 hv=>?_;obtain⟨⟨a,b⟩,fr⟩:=hv;have fr:=(z.pure fr).fr;by_cases hc:gc N r1=0/\gc N2 r2=0
 .obtain⟨a1,a2⟩:=a hc;rw[By a1];refine af.2 ⟨?_,fr⟩
  grind [aew,TG,frG,decide_eq_true,Classical.propDecidable,decide_eq_false]
 .have:=b hc;subst this;rw[AT (by simp)];refine af.2 ⟨?_,fr⟩
  grind [TG,decide_eq_false,Classical.propDecidable]
end
section
variable {N M:List al}{r s v:Int}{φ ψ:Int->Int}
def gT.head {u w:Int}(h:gT N u w):u=w\/∃p,Edge N u p/\gT N p w:=by
 induction h with
 |refl=>exact .inl rfl
 |step _ e ih=>
  rcases ih with rfl|⟨p,h1,h2⟩
  .exact .inr ⟨_,e,.refl⟩
  .exact .inr ⟨p,h1,h2.step e⟩
def TH:TG N r M s=true↔Sh.gc N r=0/\Sh.gc M s=0/\Eqv (oO N r) 0 0 (oO M s) 0 0:=by
 unfold TG;exact @decide_eq_true_iff _ (Classical.propDecidable _)
def eZ.ko (fw:eZ N)(h0:Sh.gc N r=0):∃H:Int->Nat,KOr N H/\∀u,H u<=N.length:=
 alG (fw.vdg h0) (fw.sm (fw.vdg h0)) λx hx=>((fw.gv.1 h0).tw x hx).imp λh f q=>h ⟨f,q⟩
def Vd.t11 (d:Vd N r):∀x∈N,x.kind=11->x.items.length=1:=λx hx=>(pW (d.fm x hx)).2.2.2
theorem aex (fw:eZ N)(h0:Sh.gc N r=0)(kv:KN N v):qz N r v=ofBytes (dI N 100 v):=by
 obtain⟨N',q,φ,_,I,rfl,g',fw',e,_⟩:=Wl fw h0 kv;obtain⟨H,K,hb⟩:=fw.ko h0;have d:=fw.vdg h0;rw[e,Mu K hb d.t11 I (fw'.vdg (fw'.gv.2 g')) 100 v .refl (kv.ir d.ix)]
theorem BD.kn' (I:BD N v M φ)(g:GV N r)(hv:IR N.length v)(all:∀u,IR N.length u->gT N v u){u:Int}(k:KN N u):KN M (φ u):=by
 induction k with
 |key hx hu=>
  rename_i x u;obtain⟨j,hj⟩:=List.mem_iff_getElem?.1 hx;have gx:gt N (j:Int)=some x:=by unfold gt;grind
  obtain⟨x',h1,E⟩:=I.nd _ x (all _ (mK gx)) gx;obtain⟨l,e1,e2⟩:=E.keys (g.zO hx) (rn (g.fm x hx));exact .key (aq h1) (by rw[e2];exact al4 (e1.mem_iff.2 hu))
 |step k e ih=>exact .step ih (I.GC g (all _ (k.ir g.ix)) e)
def abd (fw:eZ N)(h0:Sh.gc N r=0):∃φ:Int->Int,φ r=0/\Nrm N (oO N r) φ (qz (oO N r) 0):=by
 have d:=fw.vdg h0;have g:=fw.gv.1 h0;obtain⟨φ,I,z,hn⟩:=aab g d;have fA:=yA d fw;have gA:=I.gv g d d.rt;rw[z] at gA;have cA:=fA.gv.2 gA;obtain⟨H,K,hb⟩:=fw.ko h0;refine⟨φ,z,λu x hx=>?_,λk kv=>?_⟩
 .obtain⟨x',h1,E⟩:=I.nd u x (g.OM u (mK hx)) hx;obtain⟨y,h2,a,b⟩:=hn u x hx;rw[h1] at h2;cases h2;refine⟨x',h1,E.k,E.t,E.o,a,?_⟩;obtain⟨o,_,_,_,h4⟩:=E.e;split
  .rename_i k;exact b k
  .rename_i k;rw[h4,AT k]
 .have vA:=fA.vdg cA;rw[aex fA cA (I.kn' g d.rt g.OM kv),Mu K hb d.t11 I (z▸vA) 100 k (g.OM k (kv.ir d.ix)) (kv.ir d.ix)]
theorem alS (hI:jE N N.length)(hn:∀u v,Edge N u v->¬gT N v u){u w:Int}(e:Edge N u w):cR N w<cR N u:=by
 obtain⟨x,hx,hw⟩:=id e;have hu:=mK hx;have h1:(List.range N.length).countP (λi=>i==u.toNat)=1:=by
  have:=(akh (n:=N.length)).count (a:=u.toNat);rw[By (List.mem_range.2 (show u.toNat<N.length by have:=hu.1;have:=hu.2;omega))] at this;exact this
 unfold cR;have:=zC (p:=open Classical in λi:Nat=>decide (gT N w (i:Int))) (q:=λi=>i==u.toNat) (r:=open Classical in λi:Nat=>decide (gT N u (i:Int))) (List.range N.length) λi _=>by
  simp only[abb,beq_iff_eq];have q:i=u.toNat->(i:Int)=u:=λe=>by have:=hu.1;omega
  exact⟨λq=>(gT.one e).trans q,λp=>by rw[q p];exact .refl,λ⟨a,b⟩=>hn u w e (by rw[q b] at a;exact a)⟩
 omega
def Ey (fw:eZ N)(h0:Sh.gc N r=0)(ha:∀u v,Edge N u v->¬gT N v u):∃H:Int->Nat,(∀u,H u<=60)/\∀u v,Edge N u v->H v<H u:=
 ⟨cR N,λu=>by have:=af9 (N:=N) u;have:=fw.len;omega,λ_ _ e=>alS (fw.vdg h0).ix ha e⟩
theorem Rn (fw:eZ N)(h0:Sh.gc N r=0):(∃d,dep KF N r=some (d,gd N r))/\(gd N r=true↔∀u v,Edge N u v->¬gT N v u):=by
 have g:=fw.gv.1 h0;have hk:=fw.k0;obtain⟨d,a,e,_,ha⟩:=SW (k:=KF) g.ix g.rt fw.bd.2.2 g.le fw.bd.1 g.OM (by grind [gK,Nat.add_mul]);have:gd N r=a:=by unfold gd;rw[e];rfl
 exact⟨⟨d,by rw[this];exact e⟩,by rw[this];exact ha⟩
def Cyc (N:List al)(u:Int):Prop:=∃a b,gT N u a/\Edge N a b/\gT N b a
def Pq (d:Vd N r){u:Int}(h:Cyc N u):∃x,gt N u=some x/\∃v∈x.items,Cyc N v:=by
 obtain⟨H,_,hH⟩:=d.L9;have no:∀{w},KN N w->¬Cyc N w:=λ{w} kw ⟨a,b,h1,e,h2⟩=>by
  have ka:=(d.down hH kw h1).1;have kb:=ka.step e;have:=hH _ _ kb e;have:=(d.down hH kb h2).2;omega
 obtain⟨a,b,h1,e,h2⟩:=id h;have:∃w,Edge N u w/\Cyc N w:=by
  rcases h1.head with rfl|⟨p,e1,h3⟩
  .exact⟨b,e,u,b,h2,e,h2⟩
  .exact⟨p,e1,a,b,h3,e,h2⟩
 obtain⟨w,⟨x,hx,hw⟩,cw⟩:=this;exact⟨x,hx,w,hw.resolve_left λq=>no (.key (aq hx) q) cw,cw⟩
def abe (g:GV N r)(h:¬ ∀u v,Edge N u v->¬gT N v u):Cyc N r:=by
 simp only[Classical.not_forall,Classical.not_not] at h;obtain⟨u,v,e,h⟩:=h;obtain⟨x,hx,_⟩:=id e;exact⟨u,v,g.OM u (mK hx),e,h⟩
end
section
variable {N M:List al}{r s:Int}
def abf (d:Vd N r){H:Int->Nat}(hH:∀u v,Edge N u v->H v<H u):KX N (IR N.length) H:=
 alM d.fm (λ_ h=>h) λi x _ hx v hv=>⟨hv.elim ((d.ix x (aq hx)).1 v) ((d.ix x (aq hx)).2 v),hH i v ⟨x,hx,hv⟩⟩
def aey (d:Vd N r)(d':Vd M s){H H2:Int->Nat}(hH:∀u v,Edge N u v->H v<H u)(hH':∀u v,Edge M u v->H2 v<H2 u):INJ N M (IR N.length) (IR M.length) H H2:=
 aj7 (abf d hH) (abf d' hH') (λx hx y hy kx ky e=>by
  obtain⟨a,b⟩:=aa7 (λ_ _=>aa1) (λ_ _=>hex_inj) (d.fm x hx) (d'.fm y hy) kx ky e;exact⟨a,alL b⟩) (λx hx h=>(G6 (d.fm x hx)).1 h) (λx hx h=>(G6 (d'.fm x hx)).1 h) (λx hx h9 h11=>(G6 (d.fm x hx)).2 h9 h11) λx hx h9 h11=>(G6 (d'.fm x hx)).2 h9 h11
def abg (f1:eZ N)(f2:eZ M)(c1:Sh.gc N r=0)(c2:Sh.gc M s=0) :
  (¬(gd N r=true↔gd M s=true)->TG N r M s=false)/\(gd N r=true->gd M s=true->(TG N r M s=true↔dI N 100 r=dI M 100 s)):=by
 have d1:=f1.vdg c1;have d2:=f2.vdg c2;have g1:=f1.gv.1 c1;have g2:=f2.gv.1 c2;obtain⟨φ,z1,S1⟩:=abd f1 c1;obtain⟨ψ,z2,S2⟩:=abd f2 c2;have eg:TG N r M s=true↔EqK (qz (oO N r) 0) (oO N r) (φ r) (qz (oO M s) 0) (oO M s) (ψ s):=by
  rw[TH,z1,z2];exact⟨λh=>h.2.2,λh=>⟨c1,c2,h⟩⟩
 have i1:=(Rn f1 c1).2;have i2:=(Rn f2 c2).2;refine⟨λh=>?_,λh1 h2=>?_⟩
 .cases e:TG N r M s with
  |false=>rfl
  |true=>
   exfalso;have E:=eg.1 e;by_cases h1:gd N r=true
   .have h2:gd M s≠true:=λq=>h ⟨λ_=>q,λ_=>h1⟩;obtain⟨H,_,hH⟩:=Ey f1 c1 (i1.1 h1);exact aa0 S1 S2 d1.ix hH d1.rt (λu=>Pq d2) (abe g2 λq=>h2 (i2.2 q)) E
   .have h2:gd M s=true:=adz λq=>h ⟨λq'=>absurd q' h1,λq'=>absurd q' q⟩;obtain⟨H,_,hH⟩:=Ey f2 c2 (i2.1 h2);exact aa0 S2 S1 d2.ix hH d2.rt (λu=>Pq d1) (abe g1 λq=>h1 (i1.2 q)) E.symm
 .obtain⟨H,hb,hH⟩:=Ey f1 c1 (i1.1 h1);obtain⟨H2,hb2,hH2⟩:=Ey f2 c2 (i2.1 h2);have m1:∀x∈N,kJ x:=λx hx k=>d1.map hx k;have m2:∀x∈M,kJ x:=λx hx k=>d2.map hx k;rw[eg];refine⟨λE=>TA S1 S2 d1.ix d2.ix m1 m2 d1.t11 d2.t11 hH hH2 100 r s (aao _) d1.rt d2.rt E (by have:=hb r;omega) (by have:=hb2 s;omega),λe π=>?_⟩;exact aet (aey d1 d2 hH hH2) S1 S2 d1.ix d2.ix m1 m2 d1.t11 d2.t11 hH hH2 π 99 99 r s (by omega) (by omega) d1.rt d2.rt (by have:=hb r;omega) (by have:=hb2 s;omega) e
end
section
variable {α β:Type}{h h' h0:aj}{L:List bN}{N:List al}{RQ:Sl}{root:Int}{Q:β->aj->Prop}
abbrev GB (b:Nat)(RQ:Sl)(root:Int):bN:=.ar b [aC RQ,vi root] ah
theorem aj8 (G:lJ h0 RQ N){x0:Nat}(hN:N.length<=40) :
  ∀(n i:Nat) (p q:Int) (h:aj),N.length-i<n->i<=N.length->(∀(j:Nat) (x:al),j<i->N[j]?=some x->x.text.size<=100/\x.keys.length<=80/\x.items.length<=80)->Z h0 h (GB x0 RQ root::L) ->
   Wp (iA n (ak x0) p q (i:Int)) h λy h'=>(∀w,y=.inl w->∀(j:Nat) (x:al),N[j]?=some x->x.text.size<=100/\x.keys.length<=80/\x.items.length<=80)/\(∀b,y=.inr b->b=false)/\Z h0 h' (GB x0 RQ root::L):=by
 intro n
 induction n with
 |zero=>intro i p q h h1;omega
 |succ n ih=>
  intro i p q h h1 h2 hf z;rw[xF];unfold ow;refine z.ld 0 (o:=0) (l:=.sl) (x:=RQ) ?_;rw[G.len];by_cases hi:i<N.length
  .rw[By (by simp;omega)];obtain⟨x,hx⟩:=gG hi;refine z.ld 0 (o:=0) (l:=.sl) (x:=RQ) ?_;refine G.at z (by omega) (by simpa using hx) λa ks is nd ik ii=>nd.fI ?_;refine z.node λx2 h2' z=>?_;have fin:Wp (AI (Sum.inr false:(Int×Int)⊕Bool)) h2' λy h'=>(∀w,y=.inl w->∀(j:Nat) (x:al),N[j]?=some x->x.text.size<=100/\x.keys.length<=80/\x.items.length<=80)/\(∀b,y=.inr b->b=false)/\Z h0 h' (GB x0 RQ root::L):=by
    rw[af]
    grind [z.drop]
   refine z.ld 0 (o:=1) (l:=.str) (x:=x.text) ?_;by_cases c1:(100:Int)<x.text.size
   .rw[By (by simpa using c1)];exact fin
   rw[AT (by simpa using c1)];refine z.ld 0 (o:=3) (l:=.sl) (x:=ks) ?_;rw[ik.len];by_cases c2:(80:Int)<x.keys.length
   .rw[By (by simpa using c2)];exact fin
   rw[AT (by simpa using c2)];refine z.ld 0 (o:=4) (l:=.sl) (x:=is) ?_;rw[ii.len];by_cases c3:(80:Int)<x.items.length
   .rw[By (by simpa using c3)];exact fin
   rw[AT (by simpa using c3)];unfold lM;refine z.ld 0 (o:=3) (l:=.sl) (x:=ks) (z.ld 0 (o:=4) (l:=.sl) (x:=is) (z.ld 0 (o:=1) (l:=.str) (x:=x.text) ?_));rw[w3 (B:=40) (by omega) (by omega)];refine ih (i+1) _ _ h2' (by omega) (by omega) (λj y hj hy=>?_) z.drop
   grind
  .rw[AT (by simp;omega),af]
   grind
theorem Pr (G:lJ h0 RQ N)(z:Z h0 h L){n:Nat}(hn:50<n):Wp (jX n (RQ,root)) h λy h'=>(y=true->eZ N/\∀x∈N,x.text.size<=100)/\Z h0 h' L:=by
 unfold jX;refine z.new λx0 h1 z _=>?_;refine z.ld 0 (o:=0) (l:=.sl) (x:=RQ) ?_;rw[G.len];by_cases c1:(40:Int)<N.length
 .rw[By (by simpa using c1),af];exact⟨λh=>(by cases h),z.drop⟩
 rw[AT (by simpa using c1),ag];refine (aj8 G (by omega) n 0 0 0 h1 (by omega) (by omega) (λj x hj=>by omega) z).mono λy h2 hy=>?_;obtain⟨f1,f2,z⟩:=hy;cases y with
 |inl w=>
  have ft:∀x∈N,x.text.size<=100:=λx hx=>by obtain⟨j,hj⟩:=List.mem_iff_getElem?.1 hx;exact (f1 w rfl j x hj).1
  have fg:eZ N/\∀x∈N,x.text.size<=100:=⟨⟨by omega,λx hx=>by
   obtain⟨j,hj⟩:=List.mem_iff_getElem?.1 hx
   grind,λx hx=>by have:=ft x hx;omega⟩,ft⟩
  show Wp (if _ then _ else _) h2 _;split
  .rw[af];exact⟨λ_=>fg,z.drop⟩
  .rw[af];exact⟨λ_=>fg,z.drop⟩
 |inr b=>
  show Wp (AI b) h2 _;rw[af];exact⟨λh=>(by rw[f2 b rfl] at h;cases h),z.drop⟩
end
section
variable {α β:Type}{h h' h0:aj}{L:List bN}{N N2 A B:List al}{r s:Int}{s1 s2:Sl}
theorem aj9 {l m:ε}(a:IL h s1 l)(b:IL h s2 m)(hl:l.length=m.length)(hb:l.length<=80):∀(n i:Nat),l.length-i<n->i<=l.length ->
  Wp (gM n s1 s2 (l.length:Int) (i:Int)) h λr h'=>h'=h/\(r=.inl ()/\l.drop i=m.drop i\/r=.inr false):=by
 intro n
 induction n with
 |zero=>intro i h1;omega
 |succ n ih=>
  intro i h1 h2;rw[uZ];unfold kM;by_cases hi:i<l.length
  .rw[By (by simpa using hi)];obtain⟨t,ht⟩:=gG (l:=l) hi;obtain⟨u,hu⟩:=gG (l:=m) (i:=i) (by omega);refine a.ix (by omega) (by simpa using ht) λ_ _ c1=>b.ix (by omega) (by simpa using hu) λ_ _ c2=>c1.tn (l:=li) rfl rfl (c2.tn (l:=li) rfl rfl ?_);by_cases he:t=u
   .rw[AT (by simpa using he),w3 (B:=80) (by omega) (by omega),drop_cons ht,drop_cons hu];refine (ih (i+1) (by omega) (by omega)).mono λr h' hr=>?_
    simp_all
   .rw[By (by simpa using he)];exact af.2 ⟨rfl,.inr rfl⟩
  .rw[AT (by simpa using hi)];refine af.2 ⟨rfl,.inl ⟨rfl,?_⟩⟩;rw[abn (by omega),abn (by omega)]
def abh {l m:ε}(a:IL h s1 l)(b:IL h s2 m)(hb:l.length<=80){n:Nat}(hn:100<=n):Wp (iZ n s1 s2) h λr h'=>h'=h/\(r=true->l=m):=by
 unfold iZ;rw[a.len,b.len];by_cases hl:l.length=m.length
 .rw[AT (by simp;omega),ag];refine (aj9 a b hl hb n 0 (by omega) (by omega)).mono λr h' hr=>?_;obtain⟨rfl,⟨rfl,e⟩|rfl⟩:=hr
  .exact af.2 ⟨rfl,λ_=>e⟩
  .exact af.2 ⟨rfl,λe=>by cases e⟩
 .rw[By (by simp;omega)];exact af.2 ⟨rfl,λe=>by cases e⟩
def abj (z:Z h0 h L){x y:al}{ks is ks' is':Sl}(a:IL h0 ks x.keys)(b:IL h0 is x.items)(c:IL h0 ks' y.keys)(d:IL h0 is' y.items)(hk:x.keys.length<=80)(hi:x.items.length<=80){n:Nat}(hn:100<=n) :
  Wp (vC n (x.kind,x.text,x.ord,ks,is) (y.kind,y.text,y.ord,ks',is')) h λr h'=>(r=true->x=y)/\Z h0 h' L:=by
 unfold vC;refine z.new λx0 h1 z _=>z.new λx1 h2 z _=>?_;have no:Wp (AI false) h2 λr h'=>(r=true->x=y)/\Z h0 h' L:=af.2 ⟨λe=>(by cases e),z.drop.drop⟩;refine z.ld 1 (o:=0) (x:=x.kind) (z.ld 0 (o:=0) (x:=y.kind) ?_);by_cases c1:x.kind=y.kind
 .rw[By (by simpa using c1)];refine z.ld 1 (o:=1) (l:=.str) (x:=x.text) (z.ld 0 (o:=1) (l:=.str) (x:=y.text) ?_);by_cases c2:x.text=y.text
  .rw[By ((zE _ _).2 c2)];refine z.ld 1 (o:=2) (l:=.bool) (x:=x.ord) (z.ld 0 (o:=2) (l:=.bool) (x:=y.ord) ?_);by_cases c3:x.ord=y.ord
   .rw[By (by simpa using c3)];refine z.ld 1 (o:=3) (l:=.sl) (x:=ks) (z.ld 0 (o:=3) (l:=.sl) (x:=ks') ?_);rw[ag];refine (abh (a.fr z.fr) (c.fr z.fr) hk hn).mono λr h3 hr=>?_;obtain⟨rfl,e1⟩:=hr;cases r with
    |false=>rw[AT (by decide)];exact no
    |true=>
     rw[By rfl];refine z.ld 1 (o:=4) (l:=.sl) (x:=is) (z.ld 0 (o:=4) (l:=.sl) (x:=is') ?_);rw[ag];refine (abh (b.fr z.fr) (d.fr z.fr) hi hn).mono λr h4 hr=>?_;obtain⟨rfl,e2⟩:=hr;refine af.2 ⟨λe=>?_,z.drop.drop⟩;have e1:=e1 rfl;have e2:=e2 e;cases x;cases y
     simp_all
   .rw[AT (by simpa using c3)];exact no
  .rw[AT (λq=>c2 ((zE _ _).1 q))];exact no
 .rw[AT (by simpa using c1)];exact no
def aka (G1:lJ h0 s1 A)(G2:lJ h0 s2 B)(f1:eZ A)(hl:A.length=B.length):∀(n i:Nat) (h:aj),A.length-i+100<n->i<=A.length->Z h0 h L ->
  Wp (aL n s2 (Value.func (Fn.func rP) #[] #[]) s1 (A.length:Int) (i:Int)) h λr h'=>(r=.inl ()/\A.drop i=B.drop i\/r=.inr false)/\Z h0 h' L:=by
 intro n
 induction n with
 |zero=>intro i h h1;omega
 |succ n ih=>
  intro i h h1 h2 z;have hf:=f1.len;rw[iI];unfold bX;by_cases hi:i<A.length
  .rw[By (by simpa using hi)];obtain⟨x,hx⟩:=gG (l:=A) hi;obtain⟨y,hy⟩:=gG (l:=B) (i:=i) (by omega);refine G1.at z (by omega) (by simpa using hx) λa ks is nd ik ii=>nd.fI ?_;refine z.node λx2 h2' z=>?_;refine G2.at z (by omega) (by simpa using hy) λa' ks' is' nd' ik' ii'=>nd'.fI ?_;refine z.node λx6 h3 z=>?_;refine z.fI 1 (x:=((x.kind,x.text,x.ord,ks,is):eC [li,.str,.bool,.sl,.sl])) ?_;refine z.fI 0 (x:=((y.kind,y.text,y.ord,ks',is'):eC [li,.str,.bool,.sl,.sl])) ?_;rw[ag];unfold b6;rw[By (by rfl),ag];refine kC (c:=()) rfl ?_;have m:=f1.map x (IN hx);refine (abj z ik ii ik' ii' m.2 m.1 (n:=n) (by omega)).mono λr h4 hr=>?_;obtain⟨e,z⟩:=hr;cases r with
   |false=>
    rw[By (by rfl)];exact af.2 ⟨.inr rfl,z.drop.drop⟩
   |true=>
    rw[AT (by decide),w3 (B:=80) (by omega) (by omega),drop_cons hx,drop_cons hy,e rfl];refine (ih (i+1) h4 (by omega) (by omega) z.drop.drop).mono λr h' hr=>?_
    simp_all
  .rw[AT (by simpa using hi)];refine af.2 ⟨.inl ⟨rfl,?_⟩,z⟩;rw[abn (by omega),abn (by omega)]
def akb (G1:lJ h0 s1 A)(G2:lJ h0 s2 B)(f1:eZ A)(z:Z h0 h L){n:Nat}(hn:200<=n) :
  Wp (bj n s1 s2 (Value.func (Fn.func rP) #[] #[])) h λr h'=>(r=true->A=B)/\Z h0 h' L:=by
 unfold bj;rw[G1.len,G2.len];have hf:=f1.len;by_cases hl:A.length=B.length
 .rw[AT (by simp;omega),ag];refine (aka G1 G2 f1 hl n 0 h (by omega) (by omega) z).mono λr h' hr=>?_;obtain⟨⟨rfl,e⟩|rfl,z⟩:=hr
  .exact af.2 ⟨λ_=>e,z⟩
  .exact af.2 ⟨λe=>(by cases e),z⟩
 .rw[By (by simp;omega)];exact af.2 ⟨λe=>(by cases e),z⟩
def aez (z:Z h0 h L)(G1:lJ h0 s1 N)(G2:lJ h0 s2 N2)(f1:eZ N)(f2:eZ N2){n:Nat}(hn:WM<=n):Wp (wI n (s1,r) (s2,s)) h λv h'=>(v=true->TG N r N2 s=true)/\Z h0 h' L:=by
 obtain⟨n1,n2,n3⟩:=Pp hn;have nq:=(OY (aao fuQ)).2.1;unfold wI;refine z.new λx0 h1 z _=>z.new λx1 h2 z _=>?_;have no:∀{h':aj},Z h0 h' (.ar x1 [aC s2,vi s] ah::.ar x0 [aC s1,vi r] ah::L)->Wp (AI false) h' λv h'=>(v=true->TG N r N2 s=true)/\Z h0 h' L:=λz=>af.2 ⟨λe=>(by cases e),z.drop.drop⟩;refine z.ld 1 (o:=0) (l:=.sl) (x:=s1) (z.ld 0 (o:=0) (l:=.sl) (x:=s2) ?_);rw[G1.len,G2.len];by_cases hl:N.length=N2.length
 rotate_left
 .rw[By (by simp;omega)];exact no z
 rw[AT (by simp;omega)];refine z.fI 1 (ls:=[.sl,li]) (x:=(s1,r)) ?_;rw[ag];refine (sO z G1 f1.bd f1.ht (k:=KF) (n:=n) (by omega) (f1.gc r)).mono λy h3 hy=>?_;obtain⟨rfl,z⟩:=hy;by_cases c1:gc N r=0
 rotate_left
 .rw[By (by simpa using c1)];exact no z
 rw[AT (by simpa using c1)];refine z.fI 0 (ls:=[.sl,li]) (x:=(s2,s)) ?_;rw[ag];refine (sO z G2 f2.bd f2.ht (k:=KF) (n:=n) (by omega) (f2.gc s)).mono λy h4 hy=>?_;obtain⟨rfl,z⟩:=hy;by_cases c2:gc N2 s=0
 rotate_left
 .rw[By (by simpa using c2)];exact no z
 rw[AT (by simpa using c2)];unfold xM;have d1:=f1.vd c1;have d2:=f2.vd c2;refine z.eE (n:=8) [4,5] (by decide) (by simp) λkb h5 z=>?_;refine z.fI 3 (ls:=[.sl,li]) (x:=(s1,r)) (z.fI 2 (ls:=[.sl,li]) (x:=(s2,s)) ?_);refine Eh (P:=λq h'=>q.2=0/\Made h0 h' q.1 (oO N r) (.free (kb+4)::.free (kb+5)::.ar x1 [aC s2,vi s] ah::.ar x0 [aC s1,vi r] ah::L)) (λq hq=>?_) (Fx z G1 f1 d1 n2) λq h6 hq=>?_
 .simp only[ak3,abo,al3,anG] at hq;subst hq;exact⟨_,_,(z.get 2 rfl:LB _ x1 [aC s2,vi s] ah),λr h' hp=>(hp.2.z.get 2 rfl:LB _ x1 [aC s2,vi s] ah)⟩
 obtain⟨o1,q1⟩:=q;obtain⟨e1,m1⟩:=hq;simp only at e1 m1;subst e1;refine m1.on λX z back=>?_;rw[ag];refine (Fx z G2 f2 d2 n2).mono λq h7 hq=>?_;obtain⟨o2,q2⟩:=q;obtain⟨e2,m2⟩:=hq;simp only at e2 m2;subst e2;refine m2.on λX2 z back2=>?_;refine z.newAt 0 λh8 z=>z.newAt 1 λh9 z=>?_;refine z.st 0 (cs':=[aC o1,vi 0]) λh10 z=>z.st 1 (cs':=[aC o2,vi 0]) λh11 z=>?_;refine z.ld 0 (o:=0) (l:=.sl) (x:=o1) (z.ld 1 (o:=0) (l:=.sl) (x:=o2) ?_);have z:Z h0 h11 (.ar (kb+4) [aC o1,vi 0] ah::.ar (kb+5) [aC o2,vi 0] ah::.ar x1 [aC s2,vi s] ah::.ar x0 [aC s1,vi r] ah::(L++X++X2)):=z;have R1:lJ h11 o1 (oO N r):=(back h11 (.ar (kb+4) [aC o1,vi 0] ah::.ar (kb+5) [aC o2,vi 0] ah::.ar x1 [aC s2,vi s] ah::.ar x0 [aC s1,vi r] ah::(L++X2)) (z.perm (by
  show ([_,_,_,_]++(L++X++X2)).Perm (([_,_,_,_]++(L++X2))++X);rw[abp,abp [_,_,_,_]];refine akL _ ?_;rw[abp];exact akL _ ajh))).read
 have R2:lJ h11 o2 (oO N2 s):=(back2 h11 (.ar (kb+4) [aC o1,vi 0] ah::.ar (kb+5) [aC o2,vi 0] ah::.ar x1 [aC s2,vi s] ah::.ar x0 [aC s1,vi r] ah::(L++X)) (by simpa using z)).read;rw[ag];refine (akb R1 R2 (yA d1 f1) (Z.start z.wf) (n:=n) (by omega)).mono λv h12 hv=>?_;obtain⟨e,zz⟩:=hv;refine af.2 ⟨λq=>TH.2 ⟨c1,c2,by rw[e q];exact Eqv.refl⟩,?_⟩;have z:=z.pure zz.fr;exact z.drop.drop.drop.drop.sub (by rw[abp];exact al0 _ _)
end
section
variable {h h' h0:aj}{L:List bN}{N N2:List al}{s1 s2:Sl}{r s:Int}
def alU {n:Nat}(h:WM<=n):fuK<=n/\KF+4*80+65600<n/\KF+66000<n:=
 OY (abt (abt (alZ _ _) (Rl WC)) (Pp h).1)
def TK (z:Z h0 h L)(G:lJ h0 s1 N)(fw:eZ N)(c:gc N r=0){n:Nat}(hn:WM<=n):Wp (oj n (s1,r)) h λx h'=>x=Am N r 0 (gd N r)/\Z h0 h' L:=by
 obtain⟨m1,m2,m3⟩:=alU hn;obtain⟨⟨d,hd⟩,ha⟩:=Rn fw c;exact (Q9 z.wf (G.fr z.fr) fw (k:=KF) fw.k0 (by rw[<-c];exact fw.gc r) (λ_=>hd) (λ_ e=>Ey fw c (ha.1 e)) m1 m3).mono λx h' hx=>⟨hx.1,z.pure hx.2⟩
def abk (z:Z h0 h L)(G:lJ h0 s1 N)(G':lJ h0 s2 N2)(f1:eZ N)(f2:eZ N2){n:Nat}(hn:WM<=n):Wp (kA n (s1,r) (s2,s)) h λb h'=>(b=true↔gc N r=0/\gc N2 s=0)/\Z h0 h' L:=by
 have n3:=(Pp hn).2.2;have nq:=(OY (aao fuQ)).2.1;unfold kA;refine z.new λx0 h1 z _=>z.new λx1 h2 z _=>?_;refine z.fI 1 (ls:=[.sl,li]) (x:=(s1,r)) ?_;rw[ag];refine (sO z G f1.bd f1.ht (k:=KF) (n:=n) (by omega) (f1.gc r)).mono λy h3 hy=>?_;obtain⟨rfl,z⟩:=hy;by_cases c1:gc N r=0
 .rw[By (by simpa using c1)];refine z.fI 0 (ls:=[.sl,li]) (x:=(s2,s)) ?_;rw[ag];refine (sO z G' f2.bd f2.ht (k:=KF) (n:=n) (by omega) (f2.gc s)).mono λy h4 hy=>?_;obtain⟨rfl,z⟩:=hy;exact af.2 ⟨by simp[c1],z.drop.drop⟩
 .rw[AT (by simpa using c1)];exact af.2 ⟨by simp[c1],z.drop.drop⟩
end
section
variable {h h' h0:aj}{L:List bN}{N N2:List al}{s1 s2:Sl}{r s:Int}
def TM {x0 x1:Nat}(z:Z h0 h (.ar x1 [aC s2,vi s] ah::.ar x0 [aC s1,vi r] ah::L))(G:lJ h0 s1 N)(G':lJ h0 s2 N2)(f1:eZ N)(f2:eZ N2)(c1:gc N r=0)(c2:gc N2 s=0){n:Nat}(hn:WM<=n) :
  Wp (fO n (ak x0) (ak x1)) h λy _=>y=true:=by
 obtain⟨k1,k2⟩:=abg f1 f2 c1 c2;have J1:∀{h:aj} {a b:Int},Z h0 h (.ar x1 [aC s2,vi s] ah::.ar x0 [aC s1,vi r] ah::L)->(¬(a=0↔b=0)->TG N r N2 s=false)->Wp (fM n (ak x0) (ak x1) a b) h λy _=>y=true:=λ{h a b} z e=>by
  unfold fM;by_cases q:(a=0↔b=0)
  .rw[By (by simp[q])];exact af.2 rfl
  .rw[AT (by simp;exact q)];refine z.fI 1 (ls:=[.sl,li]) (x:=(s1,r)) (z.fI 0 (ls:=[.sl,li]) (x:=(s2,s)) ?_);rw[ag];refine (I2 z G G' f1 f2 hn).mono λy h1 hy=>af.2 ?_;rw[hy.1,e q];rfl
 unfold fO;refine z.fI 1 (ls:=[.sl,li]) (x:=(s1,r)) ?_;rw[ag];refine (TK z G f1 c1 hn).mono λy h1 hy=>?_;obtain⟨rfl,z⟩:=hy;refine z.fI 0 (ls:=[.sl,li]) (x:=(s2,s)) ?_;rw[ag];refine (TK z G' f2 c2 hn).mono λy h2 hy=>?_;obtain⟨rfl,z⟩:=hy;have ok:∀{N:List al} {r:Int},((Am N r 0 (gd N r)).2=0↔gd N r=true/\(dI N 100 r).length<=65536)/\((Am N r 0 (gd N r)).2=0->(Am N r 0 (gd N r)).1=ofBytes (dI N 100 r)):=λ{N r}=>by
  unfold Am;rw[AT (by simp)];cases gd N r with
  |false=>simp
  |true=>
   rw[AT (by simp)];split
   .simp;omega
   .simp;omega
 obtain⟨o1,t1⟩:=ok (N:=N) (r:=r);obtain⟨o2,t2⟩:=ok (N:=N2) (r:=s);have key:¬((Am N r 0 (gd N r)).2=0↔(Am N2 s 0 (gd N2 s)).2=0)->TG N r N2 s=false:=λq=>by
  rw[o1,o2] at q;by_cases g:(gd N r=true↔gd N2 s=true)
  .cases e:TG N r N2 s with
   |false=>rfl
   |true=>
    exfalso;by_cases g1:gd N r=true
    .have g2:=g.1 g1;have:=(k2 g1 g2).1 e;rw[this] at q;exact q ⟨λq=>⟨g2,q.2⟩,λq=>⟨g1,q.2⟩⟩
    .exact q ⟨λq=>absurd q.1 g1,λq=>absurd (g.2 q.1) g1⟩
  .exact k1 g
 by_cases e1:(Am N r 0 (gd N r)).2=0
 .rw[AT (by simpa using e1)];by_cases e2:(Am N2 s 0 (gd N2 s)).2=0
  .rw[AT (by simpa using e2)];refine z.fI 1 (ls:=[.sl,li]) (x:=(s1,r)) (z.fI 0 (ls:=[.sl,li]) (x:=(s2,s)) ?_);rw[ag];refine (I2 z G G' f1 f2 hn).mono λy h1 hy=>af.2 ?_;rw[hy.1,t1 e1,t2 e2];have:=k2 (o1.1 e1).1 (o2.1 e2).1;have e3:mM (ofBytes (dI N 100 r)) (ofBytes (dI N2 100 s))=true↔dI N 100 r=dI N2 100 s:=by
    rw[zE];exact⟨Tz,λe=>by rw[e]⟩
   rw[beq_iff_eq,ane,this,e3]
  .rw[By (by simpa using e2)];exact J1 z key
 .rw[By (by simpa using e1)];exact J1 z key
def WH (hw:WF h)(G:lJ h s1 N)(G':lJ h s2 N2){n:Nat}(hn:WM<=n):Wp (nH n (s1,r) (s2,s)) h λy _=>y=true:=by
 have n3:=(Pp hn).2.2;unfold nH Mz;refine (Z.start hw).new λx0 h1 z _=>z.new λx1 h2 z _=>?_;rw[ag,af,AT (by decide)];refine z.fI 1 (ls:=[.sl,li]) (x:=(s1,r)) ?_;rw[ag];refine (Pr G z (by omega)).mono λb h3 hb=>?_;obtain⟨hf,z⟩:=hb;cases b with
 |false=>rw[By (by rfl)];exact af.2 rfl
 |true=>
 obtain⟨f1,_⟩:=hf rfl;rw[AT (by decide)];refine z.fI 0 (ls:=[.sl,li]) (x:=(s2,s)) ?_;rw[ag];refine (Pr G' z (by omega)).mono λb h4 hb=>?_;obtain⟨hf,z⟩:=hb;cases b with
 |false=>rw[By (by rfl)];exact af.2 rfl
 |true=>
 obtain⟨f2,_⟩:=hf rfl;rw[AT (by decide)];refine z.fI 1 (ls:=[.sl,li]) (x:=(s1,r)) (z.fI 0 (ls:=[.sl,li]) (x:=(s2,s)) ?_);rw[ag];refine (abk z G G' f1 f2 hn).mono λb h5 hb=>?_;obtain⟨hv,z⟩:=hb;cases b with
 |false=>rw[By (by rfl)];exact af.2 rfl
 |true=>
 obtain⟨c1,c2⟩:=hv.1 rfl;rw[AT (by decide)];refine z.fI 1 (ls:=[.sl,li]) (x:=(s1,r)) (z.fI 0 (ls:=[.sl,li]) (x:=(s2,s)) ?_);rw[ag];refine (aez z G G' f1 f2 hn).mono λb h6 hb=>?_;obtain⟨hs,z⟩:=hb;cases b with
 |false=>rw[AT (by decide)];exact TM z G G' f1 f2 c1 c2 hn
 |true=>
  rw[By rfl];refine z.fI 1 (ls:=[.sl,li]) (x:=(s1,r)) (z.fI 0 (ls:=[.sl,li]) (x:=(s2,s)) ?_);rw[ag];refine (I2 z G G' f1 f2 hn).mono λy h7 hy=>?_;obtain⟨rfl,fr⟩:=hy;rw[hs rfl,AT (by decide)];exact TM (z.pure fr) G G' f1 f2 c1 c2 hn
end
end Go.Sh
