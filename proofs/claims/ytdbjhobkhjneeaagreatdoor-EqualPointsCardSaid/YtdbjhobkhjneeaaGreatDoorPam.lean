
import Derived.Test.YtdbjhobkhjneeaaGreatDoorPal
import Derived.Test.YtdbjhobkhjneeaaGreatDoorSm0
set_option linter.all false
namespace Go.Sh
open Go Go.Ago Go.Proofs
section
variable {α β:Type}{h h' h0:aj}{L R:List bJ}{N N2:List al}{root:Int}{B:Nat}{Q:β->aj->Prop}
theorem xy (a b:ζ):mQ a b=true↔a=b:=⟨iI,λe=>by subst e;rw[qI];simp⟩
noncomputable def GN (N:List al)(r:Int)(N2:List al)(s:Int)(x y:al):Option (List ζ):=
 open Classical in
 if x.kind≠y.kind\/x.text≠y.text\/x.ord≠y.ord\/x.items.length≠y.items.length then none
 else if x.keys.map (iR N r)=y.keys.map (iR N2 s) then some (x.keys.map (iR N r)) else none
def akf (z:Z h0 h L){s:Sl}{T:List ζ}{g:Nat}(hm:bJ.sl s 1 ep (T.map .string) g∈L){i:Nat}{t:ζ}(ht:T[i]?=some t){f:Addr->M β}(q:∀a g,Cl h a [.string t] g->Wp (f a) h Q):Wp (sh (mc s (i:Int) 1) f) h Q:=by
 have o:uU h s 1 ep (T.map .string) g:=(z.own _ hm).1;exact rY.X7 (enc:=Value.string) o.Jf (by omega) (by simpa using ht) λa c=>q a g c
theorem abe (z:Z h0 h L){k l:Sl}{T U:List ζ}{g g':Nat}(hk:bJ.sl k 1 ep (T.map .string) g∈L)(hl:bJ.sl l 1 ep (U.map .string) g'∈L)(hlen:T.length=U.length)(hb:T.length<=80):∀(n i:Nat),T.length-i<n->i<=T.length ->
  Wp (pC n k l (T.length:Int) (i:Int)) h λr h'=>h'=h/\((r=.inl ()/\T.drop i=U.drop i)\/(r=.inr (pH,false)/\T.drop i≠U.drop i)):=by
 intro n
 induction n with
 |zero=>intro i h1;omega
 |succ n ih=>
  intro i h1 h2;rw[Ce];unfold uf;by_cases hi:i<T.length
  .rw[By (by simpa using hi)];obtain⟨t,ht⟩:=gS (l:=T) hi;obtain⟨u,hu⟩:=gS (l:=U) (i:=i) (by omega);refine akf z hk ht λa ga ca=>akf z hl hu λb gb cb=>?_;refine ca.tC (l:=.str) rfl rfl (cb.tC (l:=.str) rfl rfl ?_);rw[drop_cons ht,drop_cons hu];by_cases he:t=u
   .rw[AT (by simpa using (xy t u).2 he),wX (B:=80) (by omega) (by omega)];refine (ih (i+1) (by omega) (by omega)).mono λr h' hr=>?_
    simp_all
   .have hne:mQ t u=false:=by
     grind [mQ,absurd,xy]
    rw[By (by rw[hne];rfl)];exact af.2 ⟨rfl,.inr ⟨rfl,λe=>he (am0 e).1⟩⟩
  .rw[AT (by simpa using hi)];refine af.2 ⟨rfl,.inl ⟨rfl,?_⟩⟩
   grind
def abf {s1 s2:Sl}{r1 r2 a b:Int}{x y:al}(z:Z h0 h L)(G1:kP h0 s1 N)(G2:kP h0 s2 N2)(f1:de N)(f2:de N2)(i1:lF N N.length)(i2:lF N2 N2.length)
  (m1:x.keys.length=(if x.kind=10 then x.items.length else 0)) (m2:y.keys.length=(if y.kind=10 then y.items.length else 0)) (hx:gt N a=some x) (hy:gt N2 b=some y) {n:Nat} (hn:fuQ+200<=n) :
  Wp (xt n (s1,r1) (s2,r2) (a,b)) h λr h'=>match GN N r1 N2 r2 x y with
   |none=>r.2=false/\Z h0 h' L
   |some T=>r.2=true/\∃g,Z h0 h' (.sl r.1 1 ep (T.map .string) g::L):=by
 unfold xt;refine z.new λx0 h1 z _=>z.new λx1 h2 z _=>z.new λx2 h3 z _=>?_;refine z.eA (n:=16) [12,13] (by decide) (by simp) λkb h4 z=>?_;refine z.ld 4 (o:=0) (l:=.sl) (x:=s1) ?_;refine z.ld 2 (o:=0) (x:=a) ?_;refine G1.Ss z (aB hx).1 (aB hx).2 λp ks is nd=>?_;refine (nd.fr z.fr).fH ?_;refine z.ld 3 (o:=0) (l:=.sl) (x:=s2) ?_;refine z.ld 2 (o:=1) (x:=b) ?_;refine G2.Ss z (aB hy).1 (aB hy).2 λp' ks' is' nd'=>?_;refine (nd'.fr z.fr).fH ?_;refine z.newAt 0 λh5 z=>z.newAt 1 λh6 z=>?_;have z:Z h0 h6 (.au (kb+12) [vi 0,Value.string (ofBytes []),Value.bool false,aI,aI] ar::.au (kb+13) [vi 0,Value.string (ofBytes []),Value.bool false,aI,aI] ar::.au x2 [vi a,vi b] cD::.au x1 [aC s2,vi r2] ah::.au x0 [aC s1,vi r1] ah::L):=z;refine z.stC 0 (cs':=[vi x.kind,.string x.text,.bool x.ord,aC ks,aC is]) (λq hq=>?_) λh7 z=>?_
 .simp only[al8,abH,amh,aoj] at hq;rcases hq with rfl|rfl|rfl
  .exact z.nbO 0 3 rfl rfl (by decide)
  .exact z.nbO 0 2 rfl rfl (by decide)
  .obtain⟨g,c⟩:=nd'.cl;exact z.nb0 0 c rfl
 refine z.st 1 (cs':=[vi y.kind,.string y.text,.bool y.ord,aC ks',aC is']) λh8 z=>?_;have z:Z h0 h8 (.au (kb+12) [vi x.kind,.string x.text,.bool x.ord,aC ks,aC is] ar::.au (kb+13) [vi y.kind,.string y.text,.bool y.ord,aC ks',aC is'] ar::.au x2 [vi a,vi b] cD::.au x1 [aC s2,vi r2] ah::.au x0 [aC s1,vi r1] ah::L):=z;have no:∀{h},Z h0 h (.au (kb+12) [vi x.kind,.string x.text,.bool x.ord,aC ks,aC is] ar::.au (kb+13) [vi y.kind,.string y.text,.bool y.ord,aC ks',aC is'] ar::.au x2 [vi a,vi b] cD::.au x1 [aC s2,vi r2] ah::.au x0 [aC s1,vi r1] ah::L)->GN N r1 N2 r2 x y=none->Wp (AI (pH,false):M (Sl×Bool)) h λr h'=>match GN N r1 N2 r2 x y with
   |none=>r.2=false/\Z h0 h' L
   |some T=>r.2=true/\∃g,Z h0 h' (.sl r.1 1 ep (T.map .string) g::L):=λz e=>by
  rw[e];exact af.2 ⟨rfl,z.drop.drop.drop.drop.drop⟩
 have b1:=(f1.map x (aq hx)).1;refine z.ld 0 (o:=0) (x:=x.kind) (z.ld 1 (o:=0) (x:=y.kind) ?_);by_cases c1:x.kind=y.kind
 .rw[AT (by simpa using c1)];refine z.ld 0 (o:=1) (l:=.str) (x:=x.text) (z.ld 1 (o:=1) (l:=.str) (x:=y.text) ?_);by_cases c2:x.text=y.text
  .rw[AT (by simpa using (xy _ _).2 c2)];refine z.ld 0 (o:=2) (l:=.bool) (x:=x.ord) (z.ld 1 (o:=2) (l:=.bool) (x:=y.ord) ?_);by_cases c3:x.ord=y.ord
   .rw[AT (by rw[c3];cases y.ord<;>decide)];refine z.ld 0 (o:=4) (l:=.sl) (x:=is) (z.ld 1 (o:=4) (l:=.sl) (x:=is') ?_);rw[nd.items.len,nd'.items.len];by_cases c4:x.items.length=y.items.length
    .rw[AT (by simp[c4])];unfold wN;refine z.fH 4 (x:=((s1,r1):cF [.sl,li])) ?_;refine z.fH 0 (x:=((x.kind,x.text,x.ord,ks,is):cF [li,.str,.bool,.sl,.sl])) ?_;refine z.fH 3 (x:=((s2,r2):cF [.sl,li])) ?_;refine z.fH 1 (x:=((y.kind,y.text,y.ord,ks',is'):cF [li,.str,.bool,.sl,.sl])) ?_;refine IB (P:=λr h'=>∃g,Z h0 h' (.sl r 1 ep (x.keys.map λv=>Value.string (iR N r1 v)) g::.au (kb+12) [vi x.kind,.string x.text,.bool x.ord,aC ks,aC is] ar::.au (kb+13) [vi y.kind,.string y.text,.bool y.ord,aC ks',aC is'] ar::.au x2 [vi a,vi b] cD::.au x1 [aC s2,vi r2] ah::.au x0 [aC s1,vi r1] ah::L)) (λq hq=>?_) (TE z G1 f1 (aq hx) i1 nd.keys (by omega)) λk h9 hk=>?_
     .simp only[al8,abH,amh,aoj] at hq;rcases hq with rfl|rfl
      .exact⟨_,_,(z.get 3 rfl:LB _ x1 [aC s2,vi r2] ah),λr h' hp=>by obtain⟨g,zp⟩:=hp;exact (zp.get 4 rfl:LB _ x1 [aC s2,vi r2] ah)⟩
      .exact⟨_,_,(z.get 1 rfl:LB _ (kb+13) [vi y.kind,.string y.text,.bool y.ord,aC ks',aC is'] ar),λr h' hp=>by obtain⟨g,zp⟩:=hp;exact (zp.get 2 rfl:LB _ (kb+13) [vi y.kind,.string y.text,.bool y.ord,aC ks',aC is'] ar)⟩
     obtain⟨g,z9⟩:=hk;rw[ag];refine (TE z9 G2 f2 (aq hy) i2 nd'.keys (by omega)).mono λl h10 hl=>?_;obtain⟨g',z10⟩:=hl;have hkl:k.len=x.keys.length:=by
      have o:uU h10 k 1 ep (x.keys.map λv=>Value.string (iR N r1 v)) g:=z10.get 1 rfl;have:=o.1;simp at this;omega
     have hkk:x.keys.length=y.keys.length:=(by rw[m1,m2,c1,c4]);have e1:(x.keys.map λv=>Value.string (iR N r1 v))=(x.keys.map (iR N r1)).map Value.string:=(by rw[akr];rfl);have e2:(y.keys.map λv=>Value.string (iR N2 r2 v))=(y.keys.map (iR N2 r2)).map Value.string:=(by rw[akr];rfl);rw[e1,e2] at z10;rw[hkl,ag];have b2:=(f1.map x (aq hx)).2;have lp:=abe (T:=x.keys.map (iR N r1)) (U:=y.keys.map (iR N2 r2)) z10 (k:=k) (l:=l) (BY _ IS) IS (by simp[hkk]) (by simpa using b2) n 0 (by simp;omega) (by omega);rw[aeI] at lp;refine lp.mono λr h11 hr=>?_;obtain⟨rfl,hr⟩:=hr;rw[ajb,ajb] at hr;have hn0:¬(x.kind≠y.kind\/x.text≠y.text\/x.ord≠y.ord\/x.items.length≠y.items.length):=(by simp[c1,c2,c3,c4]);rcases hr with⟨rfl,e⟩|⟨rfl,e⟩
     .have em:GN N r1 N2 r2 x y=some (x.keys.map (iR N r1)):=(by unfold GN;rw[AT hn0,By e]);rw[em];refine af.2 ⟨rfl,g,z10.drop.sub (List.Sublist.cons_cons _ ?_)⟩;exact List.Sublist.cons _ (List.Sublist.cons _ (List.Sublist.cons _ (List.Sublist.cons _ (List.Sublist.cons _ (ai3 _)))))
     .have em:GN N r1 N2 r2 x y=none:=(by unfold GN;rw[AT hn0,AT e]);rw[em];exact af.2 ⟨rfl,z10.drop.drop.drop.drop.drop.drop.drop⟩
    .rw[By (by simp;omega)];exact no z (by unfold GN;rw[By (by simp[c4])])
   .rw[By (by cases hxo:x.ord<;>cases hyo:y.ord<;>simp_all)];exact no z (by unfold GN;rw[By (by simp[c3])])
  .have hne:mQ x.text y.text=false:=by
    cases hq:mQ x.text y.text with
    |false=>rfl
    |true=>exact absurd ((xy _ _).1 hq) c2
   rw[By (by rw[hne];rfl)];exact no z (by unfold GN;rw[By (by simp[c2])])
 .rw[By (by simpa using c1)];exact no z (by unfold GN;rw[By (by simp[c1])])
end
section
variable {N N2:List al}{r s:Int}
abbrev IP:=Int×Int
abbrev PT:=List (Int×ζ)
def KI (T:List ζ)(i:Nat):Int×ζ:=match T[i]? with
 |some t=>(0,t)
 |none=>((i:Int),ofBytes [])
def W4 (F:List IP->IP->Option (List IP×Option PT))(T:List ζ):Nat->ε->ε->List IP->Option (List IP×Option PT)
 |i,x::xs,y::ys,met=>match F met (x,y) with
  |none=>none
  |some (m',some p)=>some (m',some (KI T i::p))
  |some (m',none)=>W4 F T (i+1) xs ys m'
 |_,[],_,met=>some (met,none)
 |_,_::_,[],met=>some (met,none)
noncomputable def W5 (N:List al)(r:Int)(N2:List al)(s:Int):Nat->List IP->IP->Option (List IP×Option PT)
 |0,_,_=>none
 |f+1,met,q=>if q∈met then some (met,none) else match gt N q.1,gt N2 q.2 with
  |some x,some y=>match GN N r N2 s x y with
   |none=>some (q::met,some [])
   |some T=>W4 (W5 N r N2 s f) T 0 x.items y.items (q::met)
  |_,_=>none
def Py (n m:Nat):List IP:=(List.range n).flatMap λ(i:Nat)=>(List.range m).map λ(j:Nat)=>(((i:Int),(j:Int)):IP)
theorem abg {n m:Nat}{q:IP}(h1:IR n q.1)(h2:IR m q.2):q∈Py n m:=by
 obtain⟨a,b⟩:=q;refine List.mem_flatMap.2 ⟨a.toNat,List.mem_range.2 (by have:=h1.1;have:=h1.2;simp only at *;omega),List.mem_map.2 ⟨b.toNat,List.mem_range.2 (by have:=h2.1;have:=h2.2;simp only at *;omega),?_⟩⟩;have:=h1.1;have:=h2.1
 grind
def abh (n m:Nat):(Py n m).length=n*m:=by
 unfold Py;rw[List.length_flatMap];simp only[aeI,List.length_range];rw[List.map_const',List.sum_replicate_nat,List.length_range]
def un (P met:List IP):Nat:=P.countP λq=>decide (q∉met)
theorem T4 {P met m':List IP}(h:∀u∈met,u∈m'):un P m'<=un P met:=by
 unfold un;exact List.countP_mono_left λq _ hq=>by
  grind
theorem T5:∀{P met:List IP} {q:IP},q∈P->q∉met->un P (q::met)+1<=un P met
 |[],_,_,h,_=>by simp at h
 |p::P,met,q,h,hn=>by
  have base:∀P,un P (q::met)<=un P met:=λP=>T4 λu hu=>BY _ hu;unfold un at base⊢;rw[anq,anq];by_cases e:p=q
  .grind
  .have ih:=T5 (P:=P) (List.mem_of_ne_of_mem (λx=>e x.symm) h) hn;unfold un at ih
   grind
def wk (N:List al):Int->η->Option Int
 |a,[]=>some a
 |a,i::π=>match gt N a with
  |none=>none
  |some x=>match x.items[i]? with
   |none=>none
   |some u=>wk N u π
def KJ (N:List al)(r:Int)(N2:List al)(s:Int)(q:IP)(m:List IP):Prop:=
 ∃x y T,gt N q.1=some x/\gt N2 q.2=some y/\GN N r N2 s x y=some T/\∀(i:Nat) (u v:Int),x.items[i]?=some u->y.items[i]?=some v->(u,v)∈m
def KJ.mono {q:IP}{m m':List IP}(g:KJ N r N2 s q m)(h:∀u∈m,u∈m'):KJ N r N2 s q m':=by
 obtain⟨x,y,T,h1,h2,h3,h4⟩:=g;exact⟨x,y,T,h1,h2,h3,λi u v a b=>h _ (h4 i u v a b)⟩
def Bad (N:List al)(r:Int)(N2:List al)(s:Int)(q:IP)(π:η):Prop:=
 ∃a b x y,wk N q.1 π=some a/\wk N2 q.2 π=some b/\gt N a=some x/\gt N2 b=some y/\GN N r N2 s x y=none
def alV (N:List al)(r:Int)(N2:List al)(s:Int)(met:List IP)(q:IP)(m':List IP)(res:Option PT):Prop:=
 (∀u∈met,u∈m')/\(∀u∈m',IR N.length u.1/\IR N2.length u.2\/u∈met)/\match res with
  |none=>q∈m'/\∀u∈m',u∈met\/KJ N r N2 s u m'
  |some _=>∃π,Bad N r N2 s q π
theorem T6 {x y:al}{T:List ζ}(h:GN N r N2 s x y=some T):x.items.length=y.items.length/\T=x.keys.map (iR N r):=by
 unfold GN at h
 grind
theorem Pz {f:Nat}{P:List IP}(F:List IP->IP->Option (List IP×Option PT))(hF:∀met q,un P met<f->IR N.length q.1->IR N2.length q.2->∃m' res,F met q=some (m',res)/\alV N r N2 s met q m' res){T:List ζ} :
  ∀(xs ys:ε) (i:Nat) (met:List IP),un P met<f->(∀v∈xs,IR N.length v)->(∀v∈ys,IR N2.length v)->∃m' res,W4 F T i xs ys met=some (m',res)/\(∀u∈met,u∈m')/\(∀u∈m',IR N.length u.1/\IR N2.length u.2\/u∈met)/\match res with
   |none=>(∀(i:Nat) u v,xs[i]?=some u->ys[i]?=some v->(u,v)∈m')/\∀u∈m',u∈met\/KJ N r N2 s u m'
   |some _=>∃(i:Nat) (u v:Int) (π:η),xs[i]?=some u/\ys[i]?=some v/\Bad N r N2 s (u,v) π
 |[],ys,i,met,_,_,_=>⟨met,none,by unfold W4;rfl,λu h=>h,λu h=>.inr h,λi u v h=>by simp at h,λu h=>.inl h⟩
 |x::xs,[],i,met,_,_,_=>⟨met,none,by unfold W4;rfl,λu h=>h,λu h=>.inr h,λi u v _ h=>by simp at h,λu h=>.inl h⟩
 |x::xs,y::ys,i,met,hu,hx,hy=>by
  obtain⟨m1,r1,e1,s1,w1,t1⟩:=hF met (x,y) hu (hx x IS) (hy y IS);unfold W4;rw[e1];cases r1 with
  |some p=>
   obtain⟨π,b⟩:=t1;exact⟨m1,some (KI T i::p),rfl,s1,w1,0,x,y,π,rfl,rfl,b⟩
  |none=>
   obtain⟨t1,g1⟩:=t1;obtain⟨m2,r2,e2,s2,w2,t2⟩:=Pz F hF (T:=T) xs ys (i+1) m1 (ams (T4 s1) hu) (λv hv=>hx v (BY _ hv)) (λv hv=>hy v (BY _ hv));refine⟨m2,r2,e2,λu h=>s2 u (s1 u h),λu h=>?_,?_⟩
   .grind
   .cases r2 with
    |some p=>
     obtain⟨k,u,v,π,h1,h2,h3⟩:=t2;exact⟨k+1,u,v,π,by simpa using h1,by simpa using h2,h3⟩
    |none=>
     obtain⟨a,b⟩:=t2;refine⟨λk u v h1 h2=>?_,λu h=>?_⟩
     .grind
     .rcases b u h with q|q
      .rcases g1 u q with q2|q2
       .exact .inl q2
       .exact .inr (q2.mono s2)
      .exact .inr q
theorem PB (i1:lF N N.length)(i2:lF N2 N2.length):∀(f:Nat) (met:List IP) (q:IP),un (Py N.length N2.length) met<f->IR N.length q.1->IR N2.length q.2->∃m' res,W5 N r N2 s f met q=some (m',res)/\alV N r N2 s met q m' res
 |0,_,_,h,_,_=>by omega
 |f+1,met,q,h,h1,h2=>by
  unfold W5;by_cases hm:q∈met
  .rw[By hm];exact⟨met,none,rfl,λu h=>h,λu h=>.inr h,hm,λu h=>.inl h⟩
  .rw[AT hm];obtain⟨x,hx⟩:=cI (l:=N) rfl h1;obtain⟨y,hy⟩:=cI (l:=N2) rfl h2;rw[hx,hy];simp only;have hc:=T5 (abg h1 h2) hm;cases em:GN N r N2 s x y with
   |none=>
    refine⟨q::met,some [],rfl,λu h=>BY _ h,λu h=>?_,[],q.1,q.2,x,y,rfl,rfl,hx,hy,em⟩
    grind
   |some T=>
    simp only;obtain⟨m2,r2,e2,s2,w2,t2⟩:=Pz (f:=f) (P:=Py N.length N2.length) (W5 N r N2 s f) (λmet q a b c=>PB i1 i2 f met q a b c) (T:=T) x.items y.items 0 (q::met) (by omega) (i1 x (aq hx)).2 (i2 y (aq hy)).2;refine⟨m2,r2,e2,λu h=>s2 u (BY _ h),λu h=>?_,?_⟩
    .grind
    .cases r2 with
     |some p=>
      obtain⟨k,u,v,π,a1,a2,a,b,x',y',b1,b2,b3,b4,b5⟩:=t2;refine⟨k::π,a,b,x',y',?_,?_,b3,b4,b5⟩
      .grind [wk]
      grind [wk]
     |none=>
      obtain⟨a,b⟩:=t2;refine⟨s2 _ IS,λu h=>?_⟩;rcases b u h with q' | q'
      .rcases List.mem_cons.1 q' with rfl|h
       .exact .inr ⟨x,y,T,hx,hy,em,a⟩
       .exact .inl h
      .exact .inr q'
noncomputable def lbX (N:List al)(r:Int)(x:al):Int×ζ×Bool×Nat×List ζ:=(x.kind,x.text,x.ord,x.items.length,x.keys.map (iR N r))
noncomputable def lb (N:List al)(r:Int)(a:Int)(π:η):Option (Int×ζ×Bool×Nat×List ζ):=match wk N a π with
 |none=>none
 |some v=>(gt N v).map (lbX N r)
def Eqv (N:List al)(r a:Int)(N2:List al)(s b:Int):Prop:=∀π,lb N r a π=lb N2 s b π
theorem Eqv.symm {a b:Int}(h:Eqv N r a N2 s b):Eqv N2 s b N r a:=λπ=>(h π).symm
theorem MP {x y:al}:(GN N r N2 s x y).isSome↔lbX N r x=lbX N2 s y:=by
 unfold GN lbX
 grind
theorem abj {m:List IP}(hm:∀u∈m,KJ N r N2 s u m):∀(π:η) (q:IP),q∈m->lb N r q.1 π=lb N2 s q.2 π
 |[],q,hq=>by
  obtain⟨x,y,T,h1,h2,h3,h4⟩:=hm q hq
  grind [lb,wk,MP]
 |i::π,q,hq=>by
  obtain⟨x,y,T,h1,h2,h3,h4⟩:=hm q hq;have hl:=(T6 h3).1;unfold lb wk;rw[h1,h2];simp only;by_cases hi:i<x.items.length
  .have e1:x.items[i]?=some x.items[i]:=abt hi;have e2:y.items[i]?=some (y.items[i]'(by omega)):=abt (by omega);rw[e1,e2];simp only;exact abj hm π (x.items[i],y.items[i]'(by omega)) (h4 i _ _ e1 e2)
  grind
def T7:Nat:=1602
def akh (f1:de N)(f2:de N2)(met:List IP):un (Py N.length N2.length) met<T7:=by
 have h1:un (Py N.length N2.length) met<=(Py N.length N2.length).length:=aoe;rw[abh] at h1;have:=f1.len;have:=f2.len;have h2:N.length*N2.length<=40*40:=amJ (by omega) (by omega);unfold T7;omega
noncomputable def JQ (N:List al)(r a:Int)(N2:List al)(s b:Int):Option PT:=match W5 N r N2 s T7 [] (a,b) with
 |some (_,res)=>res
 |none=>none
theorem MQ (f1:de N)(f2:de N2)(i1:lF N N.length)(i2:lF N2 N2.length){a b:Int}(ha:IR N.length a)(hb:IR N2.length b):∃m',W5 N r N2 s T7 [] (a,b)=some (m',JQ N r a N2 s b)/\(JQ N r a N2 s b=none↔Eqv N r a N2 s b):=by
 obtain⟨m',res,e,o1,o2,o3⟩:=PB (r:=r) (s:=s) i1 i2 T7 [] (a,b) (akh f1 f2 _) ha hb;have er:JQ N r a N2 s b=res:=by unfold JQ;rw[e]
 refine⟨m',by rw[er];exact e,?_⟩;rw[er];cases res with
 |none=>
  refine⟨λ_ π=>abj (m:=m') (λu hu=>?_) π (a,b) o3.1,λ_=>rfl⟩;rcases o3.2 u hu with h|h
  .cases h
  .exact h
 |some p=>
  refine⟨λh=>(nomatch h),λh=>?_⟩;obtain⟨π,a',b',x,y,h1,h2,h3,h4,h5⟩:=o3;have:=h π
  grind [lb,Option.some.injEq,MP]
end
section
variable {N M A B:List al}{φ ψ:Int->Int}{κ κ':Int->ζ}{H H2:Int->Nat}{F G:Int->List UInt8}{x y:al}
def lbK (κ:Int->ζ)(x:al):Int×ζ×Bool×Nat×List ζ:=(x.kind,x.text,x.ord,x.items.length,x.keys.map κ)
def lbP (κ:Int->ζ)(A:List al)(a:Int)(π:η):Option (Int×ζ×Bool×Nat×List ζ):=match wk A a π with
 |none=>none
 |some v=>(gt A v).map (lbK κ)
def EqK (κ:Int->ζ)(A:List al)(a:Int)(κ':Int->ζ)(B:List al)(b:Int):Prop:=∀π,lbP κ A a π=lbP κ' B b π
structure Nrm (N A:List al) (φ:Int->Int) (κ:Int->ζ):Prop where
 nd:∀u x,gt N u=some x->∃x',gt A (φ u)=some x'/\x'.kind=x.kind/\x'.text=x.text/\x'.ord=x.ord/\x'.items=(cn N u).map (λa=>φ (nth x.items a))/\x'.keys=if x.kind=10 then (cn N u).map (λa=>φ (nth x.keys a)) else []
 ky:∀k,KN N k->κ (φ k)=ofBytes (eZ N 100 k)
def T8 {l m:List UInt8}(h:ofBytes l=ofBytes m):l=m:=by
 have:=akL (λs:ζ=>s.data.toList) h;simpa[ofBytes] using this
end
section
variable {N M A B:List al}{φ ψ:Int->Int}{κ κ':Int->ζ}{H H2:Int->Nat}{x y:al}
def INJ (N M:List al)(K K2:Int->Prop)(H H2:Int->Nat):Prop:=∀f g i j,K i->K2 j->H i<f+1->H2 j<g+1->eZ N (f+1) i=eZ M (g+1) j ->
 ∃x y,gt N i=some x/\gt M j=some y/\x.kind=y.kind/\x.text=y.text/\x.ord=y.ord/\x.items.length=y.items.length /\
  ∀(p:Nat) a a',(cn N i)[p]?=some a->(cn M j)[p]?=some a'->(x.kind=10->eZ N f (nth x.keys a)=eZ M g (nth y.keys a'))/\eZ N f (nth x.items a)=eZ M g (nth y.items a')
end
section
variable {N M A B:List al}{φ ψ:Int->Int}{κ κ':Int->ζ}{H:Int->Nat}{C:Int->Prop}
theorem EqK.symm {a b:Int}(h:EqK κ A a κ' B b):EqK κ' B b κ A a:=λπ=>(h π).symm
end
section
def wV (b:UInt8):Bool:=b==44||b==61||b==93||b==125||b==62||b==41
def Stop (r:List UInt8):Prop:=∀b t,r=b::t->wV b=true
def PY (s t:List UInt8):Prop:=∀r r',Stop r->Stop r'->s++r=t++r'->s=t/\r=r'
theorem PY.symm {s t:List UInt8}(h:PY s t):PY t s:=λr r' h1 h2 e=>by
 obtain⟨a,b⟩:=h r' r h2 h1 e.symm;exact⟨a.symm,b.symm⟩
def Stop.nil:Stop []:=λb t e=>by cases e
theorem Stop.cons {b:UInt8}{t:List UInt8}(h:wV b=true):Stop (b::t):=λb' t' e=>by
 cases e;exact h
def PY.safe:∀{s t:List UInt8},(∀b∈s,wV b=false)->(∀b∈t,wV b=false)->PY s t
 |[],[],_,_=>λr r' _ _ e=>⟨rfl,e⟩
 |[],b::t,_,h2=>λr r' h3 _ e=>by
  have:=h3 b (t++r') e;rw[h2 b IS] at this;cases this
 |a::s,[],h1,_=>λr r' _ h4 e=>by
  have:=h4 a (s++r) e.symm;rw[h1 a IS] at this;cases this
 |a::s,b::t,h1,h2=>λr r' h3 h4 e=>by
  simp only[abE,adS] at e;obtain⟨q1,q2⟩:=PY.safe (λx hx=>h1 x (BY _ hx)) (λx hx=>h2 x (BY _ hx)) r r' h3 h4 e.2;exact⟨by rw[e.1,q1],q2⟩
def MR:∀(s t r r':List UInt8),s.flatMap tn++34::r=t.flatMap tn++34::r'->s=t/\r=r'
 |[],[],r,r',e=>⟨rfl,by simpa using e⟩
 |[],b::t,r,r',e=>by
  rw[adr] at e;unfold tn at e;split at e
  .simp at e
  .rename_i hb;simp only[anY,abJ,abE,adS] at e;exact absurd (.inl e.1.symm) hb
 |a::s,[],r,r',e=>by
  rw[adr] at e;unfold tn at e;split at e
  .simp at e
  .rename_i hb;simp only[anY,abJ,abE,adS] at e;exact absurd (.inl e.1) hb
 |a::s,b::t,r,r',e=>by
  have ih:=MR s t r r';rw[adr,adr] at e;generalize hu:s.flatMap tn=u at e ih;generalize hv:t.flatMap tn=v at e ih;unfold tn at e;split at e<;>split at e
  .simp only[abE,abJ,adS,akF] at e;obtain⟨q1,q2⟩:=ih e.2;exact⟨by rw[e.1,q1],q2⟩
  .rename_i h1 h2;simp only[abE,abJ,adS] at e;exact absurd (.inr e.1.symm) h2
  .rename_i h1 h2;simp only[abE,abJ,adS] at e;exact absurd (.inr e.1) h1
  .simp only[abE,abJ,adS] at e;obtain⟨q1,q2⟩:=ih e.2;exact⟨by rw[e.1,q1],q2⟩
def PY.quo {s t:List UInt8}:PY (FF s) (FF t):=λr r' _ _ e=>by
 unfold FF at e;simp only[abE,abM,adS,akF,abJ] at e;obtain⟨q1,q2⟩:=MR s t r r' e;exact⟨by rw[q1],q2⟩
def abk {s t:List UInt8}(h:FF s=FF t):s=t:=by
 unfold FF at h;simp only[abE,adS,akF] at h;exact (MR s t [] [] h).1
end
section
def NE (s:List UInt8):Prop:=∃b t,s=b::t/\wV b=false
variable {F G:Int->List UInt8}{x y:al}{c:UInt8}
def KK (hc:wV c=true)(o:ε)(r:List UInt8):Stop (tq F x false o++c::r):=by
 cases o with
 |nil=>exact Stop.cons hc
 |cons k o=>
  unfold tq;rw[AT (by decide)];simp only[abE,abJ,abM];exact Stop.cons (by decide)
def abl {b:Bool}{k:Int}{o:ε}{r r':List UInt8}(hc:wV c=true)(hc2:c≠44)(h1:NE (F (nth x.items k)))(h2:x.kind=10->NE (F (nth x.keys k)))
  (e:c::r=tq F x b (k::o)++r'):False:=by
 unfold tq at e;cases b with
 |false=>
  rw[AT (by decide)] at e;simp only[abE,abJ,abM,adS] at e;exact hc2 e.1
 |true=>
  rw[By rfl] at e;by_cases hx:x.kind=10
  .rw[By hx] at e;obtain⟨d,t,q1,q2⟩:=h2 hx;rw[q1] at e;simp only[abE,abJ,abM,adS] at e;rw[<-e.1,hc] at q2;cases q2
  .rw[AT hx] at e;obtain⟨d,t,q1,q2⟩:=h1;rw[q1] at e;simp only[abE,abJ,abM,adS] at e;rw[<-e.1,hc] at q2;cases q2
def PC (hk:x.kind=10↔y.kind=10)(hc:wV c=true)(hc2:c≠44):∀(o o':ε) (b:Bool) (r r':List UInt8),
  (∀k∈o,∀k'∈o',(x.kind=10->PY (F (nth x.keys k)) (G (nth y.keys k')))/\PY (F (nth x.items k)) (G (nth y.items k'))) ->
  (∀k∈o,NE (F (nth x.items k))/\(x.kind=10->NE (F (nth x.keys k))))->(∀k∈o',NE (G (nth y.items k))/\(y.kind=10->NE (G (nth y.keys k)))) ->
  tq F x b o++c::r=tq G y b o'++c::r' ->
  o.length=o'.length/\(∀(i:Nat) k k',o[i]?=some k->o'[i]?=some k'->(x.kind=10->F (nth x.keys k)=G (nth y.keys k'))/\F (nth x.items k)=G (nth y.items k'))/\r=r'
 |[],[],b,r,r',_,_,_,e=>by
  refine⟨rfl,λi k k' h=>by simp at h,?_⟩;simpa[tq] using e
 |[],k::o',b,r,r',_,_,h3,e=>by
  obtain⟨q1,q2⟩:=h3 k IS;exact (abl hc hc2 q1 q2 (by simpa[tq] using e)).elim
 |k::o,[],b,r,r',_,h2,_,e=>by
  obtain⟨q1,q2⟩:=h2 k IS;exact (abl hc hc2 q1 q2 (by simpa[tq] using e.symm)).elim
 |k::o,k'::o',b,r,r',h1,h2,h3,e=>by
  have ih:=PC hk hc hc2 o o' false r r' (λa ha a' ha'=>h1 a (BY _ ha) a' (BY _ ha'))
   (λa ha=>h2 a (BY _ ha)) (λa ha=>h3 a (BY _ ha))
  obtain⟨p1,p2⟩:=h1 k IS k' IS;have s1:=KK (F:=F) (x:=x) hc o r;have s2:=KK (F:=G) (x:=y) hc o' r';unfold tq at e;simp only[abM] at e
  replace e:=an1 e
  have fin:(x.kind=10->F (nth x.keys k)=G (nth y.keys k'))->F (nth x.items k)++(tq F x false o++c::r)=G (nth y.items k')++(tq G y false o'++c::r') ->
    (k::o).length=(k'::o').length/\(∀(i:Nat) a a',(k::o)[i]?=some a->(k'::o')[i]?=some a'->(x.kind=10->F (nth x.keys a)=G (nth y.keys a'))/\F (nth x.items a)=G (nth y.items a'))/\r=r':=by
   intro hkey e;obtain⟨q1,q2⟩:=p2 _ _ s1 s2 e;obtain⟨i1,i2,i3⟩:=ih q2;refine⟨by simp[i1],λi a a' ha ha'=>?_,i3⟩;cases i with
   |zero=>
    simp only[List.getElem?_cons_zero,abH] at ha ha';subst ha;subst ha';exact⟨hkey,q1⟩
   |succ i=>
    simp only[aml] at ha ha';exact i2 i a a' ha ha'
  by_cases hx:x.kind=10
  .rw[By hx,By (hk.1 hx)] at e;simp only[abM,abE,abJ] at e;obtain⟨q1,q2⟩:=p1 hx _ _ (Stop.cons (by decide)) (Stop.cons (by decide)) e;simp only[adS,akF] at q2;exact fin (λ_=>q1) q2
  .rw[AT hx,AT (λh=>hx (hk.2 h))] at e;simp only[abJ] at e;exact fin (λh=>absurd h hx) e
def alX:∀i<16,∀j<16,Ao.getD i 0=Ao.getD j 0->i=j:=by decide
def hex_inj:∀{s t:List UInt8},s.flatMap xc=t.flatMap xc->s=t
 |[],[],_=>rfl
 |[],b::t,e=>by simp[xc] at e
 |a::s,[],e=>by simp[xc] at e
 |a::s,b::t,e=>by
  rw[adr,adr] at e;have hd:∀u v:List UInt8,xc a++u=xc b++v->Ao.getD (a.toNat/16) 0=Ao.getD (b.toNat/16) 0/\Ao.getD (a.toNat%16) 0=Ao.getD (b.toNat%16) 0/\u=v:=λu v e=>by
   unfold xc at e;simp only[abE,abJ,adS] at e;exact e
  obtain⟨q1,q2,q3⟩:=hd _ _ e;have la:=a.toNat_lt;have lb:=b.toNat_lt;have e1:=alX _ (by omega) _ (by omega) q1;have e2:=alX _ (by omega) _ (by omega) q2;have:a=b:=UInt8.toNat_inj.1 (by omega);rw[this,hex_inj q3]
end
section
variable {N N2:List al}{H H2:Int->Nat}{K K2:Int->Prop}
def LF (x:al):Prop:=x.kind=5\/(NE (om x)/\(∀b∈om x,wV b=false)/\∀b t,om x=b::t->b≠34/\b≠33/\b≠91/\b≠123/\b≠60)
structure KX (N:List al) (K:Int->Prop) (H:Int->Nat):Prop where
 ir:∀i,K i->IR N.length i
 dn:∀i x,K i->gt N i=some x->∀v,v∈x.keys\/v∈x.items->K v/\H v<H i
 fm:∀x∈N,jr x=some true
 kl:∀x∈N,x.kind=10->x.keys.length=x.items.length
 sc:∀x∈N,x.kind<9->LF x
 tg:∀x∈N,x.kind=11->∀b∈x.text.data.toList,b≠40
def FK {x:al}(h:x.kind=5):om x=FF x.text.data.toList:=by
 unfold om;rw[AT (by omega),By h]
def abm (x:al):wV (br x).1=false/\wV (br x).2=true/\(br x).2≠44:=by
 unfold br;split
 .split<;>decide
 .decide
def zI (k:KX N K H):∀(f:Nat) (i:Int),K i->H i<f->NE (eZ N f i):=by
 intro f i hi hf;obtain⟨f,rfl⟩:∃g,f=g+1:=⟨f-1,by omega⟩;obtain⟨x,hx⟩:=cI (l:=N) rfl (k.ir i hi);unfold eZ;rw[hx];simp only;unfold DC;split
 .exact⟨33,_,rfl,by decide⟩
 .split
  .rename_i h9;rcases k.sc x (aq hx) h9 with h5|h
   .rw[FK h5];exact⟨34,_,rfl,by decide⟩
   .exact h.1
  .exact⟨(br x).1,_,rfl,(abm x).1⟩
def T9:∀(s t r r':List UInt8),(∀b∈s,b≠40)->(∀b∈t,b≠40)->s++40::r=t++40::r'->s=t/\r=r'
 |[],[],r,r',_,_,e=>⟨rfl,by simpa using e⟩
 |[],b::t,r,r',_,h2,e=>by
  simp only[abJ,abE,adS] at e;exact absurd e.1.symm (h2 b IS)
 |a::s,[],r,r',h1,_,e=>by
  simp only[abJ,abE,adS] at e;exact absurd e.1 (h1 a IS)
 |a::s,b::t,r,r',h1,h2,e=>by
  simp only[abE,adS] at e;obtain⟨q1,q2⟩:=T9 s t r r' (λx hx=>h1 x (BY _ hx)) (λx hx=>h2 x (BY _ hx)) e.2;exact⟨by rw[e.1,q1],q2⟩
def sZ {i:Int}{x:al}(hx:gt N i=some x)(k:KX N K H){a:Int}(ha:a∈cn N i):nth x.items a∈x.items/\(x.kind=10->nth x.keys a∈x.keys):=by
 unfold cn at ha;rw[hx] at ha;obtain⟨h0,h1⟩:=eQ ha;exact⟨bW h0 h1,λh=>bW h0 (by rw[k.kl x (aq hx) h];exact h1)⟩
def nO (x:al):Nat:=if x.kind=11 then 0 else if x.kind=5 then 1 else if x.kind<9 then 2 else 3
def PD (k:KX N K H){x:al}(hx:x∈N)(F:Int->List UInt8)(o:ε):∃b t,DC F x o=b::t/\(nO x=0->b=33)/\(nO x=1->b=34)/\(nO x=2->b≠34/\b≠33/\b≠91/\b≠123/\b≠60)/\(nO x=3->b=(br x).1):=by
 unfold DC nO;by_cases h11:x.kind=11
 .rw[By h11,By h11];exact⟨33,_,rfl,λ_=>rfl,λh=>(by cases h),λh=>(by cases h),λh=>(by cases h)⟩
 rw[AT h11,AT h11];by_cases h5:x.kind=5
 .rw[By h5,By (show x.kind<9 by omega),FK h5];exact⟨34,_,rfl,λh=>(by cases h),λ_=>rfl,λh=>(by cases h),λh=>(by cases h)⟩
 rw[AT h5];by_cases h9:x.kind<9
 .rw[By h9,By h9];rcases k.sc x hx h9 with h|h
  .exact absurd h h5
  .obtain⟨b,t,q,_⟩:=h.1;exact⟨b,t,q,λh=>(by cases h),λh=>(by cases h),λ_=>h.2.2 b t q,λh=>(by cases h)⟩
 .rw[AT h9,AT h9];exact⟨(br x).1,_,rfl,λh=>(by cases h),λh=>(by cases h),λh=>(by cases h),λ_=>rfl⟩
def agp (x:al):(br x).1=91\/(br x).1=123\/(br x).1=60:=by
 unfold br;split
 .split<;>simp
 .simp
def aki {x y:al}(h:(br x).1=(br y).1):(br x).2=(br y).2/\(x.kind=10↔y.kind=10)/\(x.kind=10->x.ord=y.ord):=by
 unfold br at h⊢;by_cases hx:x.kind=10<;>by_cases hy:y.kind=10<;>cases ox:x.ord<;>cases oy:y.ord<;>simp_all
def akj (k:KX N K H)(k2:KX N2 K2 H2){x y:al}(hx:x∈N)(hy:y∈N2){F G:Int->List UInt8}{o o':ε}{r r':List UInt8}(e:DC F x o++r=DC G y o'++r'):nO x=nO y/\(nO x=3->(br x).1=(br y).1):=by
 obtain⟨b,t,q,a0,a1,a2,a3⟩:=PD k hx F o;obtain⟨b',t',q',c0,c1,c2,c3⟩:=PD k2 hy G o';rw[q,q'] at e;simp only[abE,adS] at e;obtain⟨rfl,_⟩:=e;have l:nO x<4:=by unfold nO;split<;>(try split)<;>(try split)<;>omega
 have l2:nO y<4:=by unfold nO;split<;>(try split)<;>(try split)<;>omega
 have b1:=agp x;have b2:=agp y;generalize nO x=u at *
 generalize nO y=v at *
 refine⟨?_,λh3=>?_⟩
 .match u,v with
  |0,0|1,1|2,2|3,3=>rfl
  |0,1=>exact absurd ((a0 rfl).symm.trans (c1 rfl)) (by decide)
  |1,0=>exact absurd ((a1 rfl).symm.trans (c0 rfl)) (by decide)
  |0,2=>exact absurd (a0 rfl) (c2 rfl).2.1
  |2,0=>exact absurd (c0 rfl) (a2 rfl).2.1
  |1,2=>exact absurd (a1 rfl) (c2 rfl).1
  |2,1=>exact absurd (c1 rfl) (a2 rfl).1
  |0,3=>have:=a0 rfl;rw[<-c3 rfl,this] at b2;revert b2;decide
  |3,0=>have:=c0 rfl;rw[<-a3 rfl,this] at b1;revert b1;decide
  |1,3=>have:=a1 rfl;rw[<-c3 rfl,this] at b2;revert b2;decide
  |3,1=>have:=c1 rfl;rw[<-a3 rfl,this] at b1;revert b1;decide
  |2,3=>have:=a2 rfl;rw[<-c3 rfl] at b2;rcases b2 with h|h|h<;>simp_all
  |3,2=>have:=c2 rfl;rw[<-a3 rfl] at b1;rcases b1 with h|h|h<;>simp_all
  |u+4,_=>omega
  |_,v+4=>omega
 .subst h3;have hv:v=3:=by
   match v with
   |3=>rfl
   |0=>have:=c0 rfl;rw[<-a3 rfl,this] at b1;revert b1;decide
   |1=>have:=c1 rfl;rw[<-a3 rfl,this] at b1;revert b1;decide
   |2=>have:=c2 rfl;rw[<-a3 rfl] at b1;rcases b1 with h|h|h<;>simp_all
   |v+4=>omega
  rw[<-a3 rfl,<-c3 hv]
end
section
variable {N N2:List al}{H H2:Int->Nat}{K K2:Int->Prop}
def abn (x:al):(nO x=0->x.kind=11)/\(nO x=1->x.kind=5)/\(nO x=2->x.kind≠11/\x.kind≠5/\x.kind<9)/\(nO x=3->x.kind≠11/\¬x.kind<9):=by
 unfold nO;by_cases h11:x.kind=11
 .rw[By h11];exact⟨λ_=>h11,λh=>(by cases h),λh=>(by cases h),λh=>(by cases h)⟩
 rw[AT h11];by_cases h5:x.kind=5
 .rw[By h5];exact⟨λh=>(by cases h),λ_=>h5,λh=>(by cases h),λh=>(by cases h)⟩
 rw[AT h5];by_cases h9:x.kind<9
 .rw[By h9];exact⟨λh=>(by cases h),λh=>(by cases h),λ_=>⟨h11,h5,h9⟩,λh=>(by cases h)⟩
 .rw[AT h9];exact⟨λh=>(by cases h),λh=>(by cases h),λh=>(by cases h),λ_=>⟨h11,h9⟩⟩
def KS (F G:Int->List UInt8)(x y:al)(o o':ε):Prop:=
 nO x=nO y/\(nO x=0->x.text.data.toList=y.text.data.toList/\F (nth x.items 0)=G (nth y.items 0))/\(nO x=1\/nO x=2->om x=om y) /\
 (nO x=3->(x.kind=10↔y.kind=10)/\(x.kind=10->x.ord=y.ord)/\o.length=o'.length /\
  ∀(i:Nat) a a',o[i]?=some a->o'[i]?=some a'->(x.kind=10->F (nth x.keys a)=G (nth y.keys a'))/\F (nth x.items a)=G (nth y.items a'))
def PE (k:KX N K H)(k2:KX N2 K2 H2){x y:al}(hx:x∈N)(hy:y∈N2){F G:Int->List UInt8}{o o':ε}
  (hp:∀a∈o,∀a'∈o',(x.kind=10->y.kind=10->PY (F (nth x.keys a)) (G (nth y.keys a')))/\PY (F (nth x.items a)) (G (nth y.items a')))
  (hn:∀a∈o,NE (F (nth x.items a))/\(x.kind=10->NE (F (nth x.keys a)))) (hn2:∀a∈o',NE (G (nth y.items a))/\(y.kind=10->NE (G (nth y.keys a))))
  (ht:x.kind=11->y.kind=11->PY (F (nth x.items 0)) (G (nth y.items 0))) {r r':List UInt8} (s:Stop r) (s':Stop r') (e:DC F x o++r=DC G y o'++r') :
  r=r'/\KS F G x y o o':=by
 obtain⟨hc,hb⟩:=akj k k2 hx hy e;obtain⟨x0,x1,x2,x3⟩:=abn x;obtain⟨y0,y1,y2,y3⟩:=abn y;have l:nO x=0\/nO x=1\/nO x=2\/nO x=3:=by unfold nO;split<;>(try split)<;>(try split)<;>simp
 unfold DC at e;rcases l with l|l|l|l
 .have hx11:=x0 l;have hy11:=y0 (hc▸l);rw[By hx11,By hy11] at e;simp only[abE,abM,adS,akF,abJ] at e;obtain⟨q1,q2⟩:=T9 _ _ _ _ (k.tg x hx hx11) (k2.tg y hy hy11) e;obtain⟨q3,q4⟩:=ht hx11 hy11 _ _ (Stop.cons (by decide)) (Stop.cons (by decide)) q2;simp only[adS,akF] at q4;refine⟨q4,hc,λ_=>⟨q1,q3⟩,λh=>?_,λh=>?_⟩
  .rw[l] at h;rcases h with h|h<;>cases h
  .rw[l] at h;cases h
 .have hx5:=x1 l;have hy5:=y1 (hc▸l);rw[AT (by omega),By (by omega),AT (by omega),By (by omega),FK hx5,FK hy5] at e;obtain⟨q1,q2⟩:=PY.quo r r' s s' e;refine⟨q2,hc,λh=>?_,λ_=>by rw[FK hx5,FK hy5,q1],λh=>?_⟩
  .rw[l] at h;cases h
  .rw[l] at h;cases h
 .obtain⟨p1,p2,p3⟩:=x2 l;obtain⟨p4,p5,p6⟩:=y2 (hc▸l);rw[AT p1,By p3,AT p4,By p6] at e;have f1:=(k.sc x hx p3).resolve_left p2;have f2:=(k2.sc y hy p6).resolve_left p5;obtain⟨q1,q2⟩:=PY.safe f1.2.1 f2.2.1 r r' s s' e;refine⟨q2,hc,λh=>?_,λ_=>q1,λh=>?_⟩
  .rw[l] at h;cases h
  .rw[l] at h;cases h
 .obtain⟨p1,p2⟩:=x3 l;obtain⟨p3,p4⟩:=y3 (hc▸l);obtain⟨b1,b2,b3⟩:=aki (hb l);rw[AT p1,AT p2,AT p3,AT p4,<-hb l,<-b1] at e;simp only[abE,abM,adS,akF,abJ] at e;obtain⟨q1,q2,q3⟩:=PC b2 (abm x).2.1 (abm x).2.2 o o' true r r' (λa ha a' ha'=>⟨λh=>(hp a ha a' ha').1 h (b2.1 h),(hp a ha a' ha').2⟩) hn hn2 e;refine⟨q3,hc,λh=>?_,λh=>?_,λ_=>⟨b2,b3,q1,q2⟩⟩
  .rw[l] at h;cases h
  .rw[l] at h;rcases h with h|h<;>cases h
def W6 (k:KX N K H)(k2:KX N2 K2 H2):∀(f g:Nat) (i j:Int),K i->K2 j->H i<f+1->H2 j<g+1->∀(r r':List UInt8),Stop r->Stop r'->eZ N (f+1) i++r=eZ N2 (g+1) j++r' ->
  r=r'/\∃x y,gt N i=some x/\gt N2 j=some y/\KS (eZ N f) (eZ N2 g) x y (cn N i) (cn N2 j):=by
 intro f
 induction f with
 |zero=>
  intro g i j hi hj hf hg r r' s s' e;obtain⟨x,hx⟩:=cI (l:=N) rfl (k.ir i hi);obtain⟨y,hy⟩:=cI (l:=N2) rfl (k2.ir j hj);unfold eZ at e;rw[hx,hy] at e;simp only at e;have no:∀v,(v∈x.keys\/v∈x.items)->False:=λv hv=>by have:=(k.dn i x hi hx v hv).2;omega
  have noo:∀a∈cn N i,False:=λa ha=>no _ (.inr (sZ hx k ha).1);have n11:x.kind≠11:=λh=>by
   have:=(qd (k.fm x (aq hx))).2.2.2 h;exact no _ (.inr (bW (a:=0) (l:=x.items) (by omega) (by omega)))
  obtain⟨q1,q2⟩:=PE k k2 (aq hx) (aq hy) (λa ha=>(noo a ha).elim) (λa ha=>(noo a ha).elim)
   (λa ha=>⟨by
     obtain⟨m1,m2⟩:=k2.dn j y hj hy _ (.inr (sZ hy k2 ha).1);exact zI k2 _ _ m1 (by omega),λh10=>by
     obtain⟨m1,m2⟩:=k2.dn j y hj hy _ (.inl ((sZ hy k2 ha).2 h10));exact zI k2 _ _ m1 (by omega)⟩) (λh=>absurd h n11) s s' e
  exact⟨q1,x,y,hx,hy,q2⟩
 |succ f ih=>
  intro g i j hi hj hf hg r r' s s' e;obtain⟨x,hx⟩:=cI (l:=N) rfl (k.ir i hi);obtain⟨y,hy⟩:=cI (l:=N2) rfl (k2.ir j hj);rw[show eZ N (f+1+1) i=DC (eZ N (f+1)) x (cn N i) by rw[eZ,hx],show eZ N2 (g+1) j=DC (eZ N2 g) y (cn N2 j) by rw[eZ,hy]] at e;have dn:∀v,(v∈x.keys\/v∈x.items)->∀w,(w∈y.keys\/w∈y.items)->PY (eZ N (f+1) v) (eZ N2 g w):=λv hv w hw r r' s s' e=>by
   obtain⟨m1,m2⟩:=k.dn i x hi hx v hv;obtain⟨m3,m4⟩:=k2.dn j y hj hy w hw;obtain⟨g,rfl⟩:∃g',g=g'+1:=⟨g-1,by omega⟩;have:=(ih g v w m1 m3 (by omega) (by omega) r r' s s' e).1;subst this;exact⟨List.append_cancel_right e,rfl⟩
  obtain⟨q1,q2⟩:=PE k k2 (aq hx) (aq hy) (λa ha a' ha'=>⟨λh1 h2=>dn _ (.inl ((sZ hx k ha).2 h1)) _ (.inl ((sZ hy k2 ha').2 h2)),dn _ (.inr (sZ hx k ha).1) _ (.inr (sZ hy k2 ha').1)⟩)
   (λa ha=>⟨by
     obtain⟨m1,m2⟩:=k.dn i x hi hx _ (.inr (sZ hx k ha).1);exact zI k _ _ m1 (by omega),λh10=>by
     obtain⟨m1,m2⟩:=k.dn i x hi hx _ (.inl ((sZ hx k ha).2 h10));exact zI k _ _ m1 (by omega)⟩)
   (λa ha=>⟨by
     obtain⟨m1,m2⟩:=k2.dn j y hj hy _ (.inr (sZ hy k2 ha).1);exact zI k2 _ _ m1 (by omega),λh10=>by
     obtain⟨m1,m2⟩:=k2.dn j y hj hy _ (.inl ((sZ hy k2 ha).2 h10));exact zI k2 _ _ m1 (by omega)⟩)
   (λh1 h2=>by
    have l1:=(qd (k.fm x (aq hx))).2.2.2 h1;have l2:=(qd (k2.fm y (aq hy))).2.2.2 h2;exact dn _ (.inr (bW (by omega) (by omega))) _ (.inr (bW (by omega) (by omega)))) s s' e
  exact⟨q1,x,y,hx,hy,q2⟩
def abo (k:KX N K H)(k2:KX N2 K2 H2){f g:Nat}{i j:Int}(hi:K i)(hj:K2 j)(hf:H i<f+1)(hg:H2 j<g+1)(e:eZ N (f+1) i=eZ N2 (g+1) j) :
  ∃x y,gt N i=some x/\gt N2 j=some y/\KS (eZ N f) (eZ N2 g) x y (cn N i) (cn N2 j):=
 (W6 k k2 f g i j hi hj hf hg [] [] Stop.nil Stop.nil (by rw[e])).2
end
section
def Hd {x:al}(h:jr x=some true):(x.kind≠10->x.ord=false)/\(9<=x.kind->x.kind≠11->x.text.data.toList=[]):=by
 obtain⟨k0,k1,_,_⟩:=qd h;unfold jr at h;by_cases h9:x.kind=9
 .rw[By h9] at h;simp only[abH,abi,abD,amD] at h;exact⟨λ_=>h.1.2,λ_ _=>by rw[iI h.1.1];rfl⟩
 rw[AT h9] at h;by_cases h10:x.kind=10
 .rw[By h10] at h;simp only[abH,abi,abD] at h;exact⟨λq=>absurd h10 q,λ_ _=>by rw[iI h.1];rfl⟩
 rw[AT h10] at h;by_cases h11:x.kind=11
 .simp_all
 rw[AT h11] at h;refine⟨λ_=>?_,λh=>by omega⟩;split at h
 .simp_all
 .cases h
end
section
def Ua {b:UInt8}(h:nQ b=true):ru b=true:=by
 unfold nQ at h;simp only[abi,Nat.ble_eq] at h;unfold ru;simp[h.1,h.2]
def KM {s:ζ}(h:lj s=true):(∀b∈s.data.toList,ru b=true)/\s.data.toList≠[]:=by
 unfold lj at h;generalize s.data.toList=l at h⊢;simp only[abi,abD] at h;obtain⟨⟨h1,_,_⟩,h2⟩:=h;have h2:=List.all_eq_true.1 h2;cases l with
 |nil=>simp at h1
 |cons c r=>
  refine⟨λb hb=>?_,by simp⟩;split at h2
  .rename_i q;rcases List.mem_cons.1 hb with rfl|hb
   .have:b=45:=(by simpa using q.2);rw[this];decide
   .exact Ua (h2 b hb)
  .exact Ua (h2 b hb)
def abp {s:ζ}(h:zw s=true):(∀b∈s.data.toList,OM b=true)/\(101:UInt8)∈s.data.toList:=by
 have hn:∀{b:UInt8},ru b=true->OM b=true:=λh=>by unfold OM;rw[h];rfl
 unfold zw at h;split at h
 .cases h
 split at h
 .cases h
 split at h
 .cases h
 split at h
 .rename_i h0 h1 _ _ e he;obtain⟨i,hi⟩:∃i:Nat,Lib.indexByte s.data.toList 101=i:=⟨(Lib.indexByte s.data.toList 101).toNat,by omega⟩;rw[hi] at h1 he;have hg:=(Lib.indexByte_some hi).1;have hm:(101:UInt8)∈s.data.toList:=IN hg;refine⟨?_,hm⟩;have a:=(KM (by simpa using h1:lj (s.extract 0 i)=true)).1;have b:=ZN he;have el:s.data.toList=(s.extract 0 i).data.toList++101::(s.extract (i+1) s.size).data.toList:=by
   have hs:s.size=s.data.toList.length:=rfl;have q1:(s.extract 0 i).data.toList=s.data.toList.take i:=by simp[alC]
   have q2:(s.extract (i+1) s.size).data.toList=s.data.toList.drop (i+1):=by
    simp only[alC,Array.toList_extract,List.extract_eq_drop_take];exact ajC (by rw[amS];omega)
   rw[q1,q2];obtain⟨hlt,hv⟩:=List.getElem?_eq_some_iff.1 hg;rw[<-hv,List.getElem_cons_drop,ans]
  intro c hc;rw[el] at hc;rcases List.mem_append.1 hc with hc|hc
  .exact hn (a c hc)
  .rcases List.mem_cons.1 hc with rfl|hc
   .decide
   .exact b c (by simpa using hc)
 .cases h
def Ja {k:Int}{t:ζ}(h:xw k t=some true):SX k t.data.toList:=by
 unfold xw at h;by_cases k0:k=0
 .rw[By k0] at h;have e:=iI (abL h);subst k0;exact⟨by omega,by omega,λ_=>by rw[e];rfl,λq=>by omega,λq=>by omega,λq=>by omega,λq=>by omega,λq=>by omega⟩
 rw[AT k0] at h;by_cases k1:k=1
 .rw[By k1] at h;subst k1;refine⟨by omega,by omega,λq=>by omega,λ_=>?_,λq=>by omega,λq=>by omega,λq=>by omega,λq=>by omega⟩;have h:=abL h;rw[al5] at h;exact h.elim (λh=>.inl (by rw[iI h];rfl)) λh=>.inr (by rw[iI h];rfl)
 rw[AT k1] at h;by_cases k2:k=2
 .rw[By k2] at h;subst k2;exact⟨by omega,by omega,λq=>by omega,λq=>by omega,λ_=>KM (abL h),λq=>by omega,λq=>by omega,λq=>by omega⟩
 rw[AT k2] at h;by_cases k5:k=5
 .subst k5;exact⟨by omega,by omega,λq=>by omega,λq=>by omega,λq=>by omega,λq=>by omega,λq=>by omega,λq=>by omega⟩
 rw[AT k5] at h;by_cases k6:k=6
 .subst k6;exact⟨by omega,by omega,λq=>by omega,λq=>by omega,λq=>by omega,λq=>by omega,λq=>by omega,λq=>by omega⟩
 rw[AT k6] at h;by_cases k3:k=3
 .rw[By k3] at h;subst k3;exact⟨by omega,by omega,λq=>by omega,λq=>by omega,λq=>by omega,λ_=>abp (abL h),λq=>by omega,λq=>by omega⟩
 rw[AT k3] at h;by_cases k4:k=4
 .rw[By k4] at h;subst k4;exact⟨by omega,by omega,λq=>by omega,λq=>by omega,λq=>by omega,λq=>by omega,λ_=>adn (abL h),λq=>by omega⟩
 rw[AT k4] at h;by_cases k7:k=7
 .rw[By k7] at h;subst k7;obtain⟨y,hy,e⟩:=Z2 (abL h);refine⟨by omega,by omega,λq=>by omega,λq=>by omega,λq=>by omega,λq=>by omega,λq=>by omega,λ_ b hb=>?_⟩;rw[e] at hb;exact (List.mem_append.1 hb).elim (λh=>.inl (hy.1 b h)) λh=>.inr (List.mem_singleton.1 h)
 rw[AT k7] at h;by_cases k8:k=8
 .rw[By k8] at h;subst k8;exact⟨by omega,by omega,λq=>by omega,λq=>by omega,λq=>by omega,λq=>by omega,λq=>by omega,λ_ b hb=>.inl ((adE (abL h)).1 b hb)⟩
 rw[AT k8] at h;cases h
def MS {x:al}(h:jr x=some true)(hk:x.kind<9):xw x.kind x.text=some true:=by
 unfold jr at h;rw[AT (by omega),AT (by omega),AT (by omega)] at h;split at h
 .exact h
 .cases h
theorem qH (x:al):om x=lfB (λt=>t.flatMap tn) (λt=>t.flatMap xc) x.kind x.text.data.toList:=rfl
def MT {p:UInt8->Bool}{l:List UInt8}(h:∀b∈l,p b=true)(hn:l≠[])(hp:([44,61,93,125,62,41,34,33,91,123,60]:List UInt8).all (λc=>!p c)=true) :
  NE l/\(∀b∈l,wV b=false)/\∀b t,l=b::t->b≠34/\b≠33/\b≠91/\b≠123/\b≠60:=by
 have q:∀c∈([44,61,93,125,62,41,34,33,91,123,60]:List UInt8),∀b∈l,b≠c:=λc hc b hb e=>by
  subst e;have:=List.all_eq_true.1 hp b hc;rw[h b hb] at this;cases this
 have st:∀b∈l,wV b=false:=λb hb=>by
  unfold wV;simp[q 44 (by decide) b hb,q 61 (by decide) b hb,q 93 (by decide) b hb,q 125 (by decide) b hb,q 62 (by decide) b hb,q 41 (by decide) b hb]
 refine⟨?_,st,λb t e=>?_⟩
 .cases l with
  |nil=>exact absurd rfl hn
  |cons b t=>exact⟨b,t,rfl,st b IS⟩
 .have hb:b∈l:=by rw[e];exact IS
  exact⟨q 34 (by decide) b hb,q 33 (by decide) b hb,q 91 (by decide) b hb,q 123 (by decide) b hb,q 60 (by decide) b hb⟩
def akk (t:List UInt8):∀b∈t.flatMap xc,Ao.contains b=true:=by
 intro b hb;obtain⟨c,_,hc⟩:=List.mem_flatMap.1 hb;have hlt:=c.toNat_lt;have m:∀i,i<16->Ao.contains (Ao.getD i 0)=true:=by decide
 unfold xc at hc;rcases List.mem_cons.1 hc with rfl|hc
 .exact m _ (by omega)
 .obtain rfl:=List.mem_singleton.1 hc;exact m _ (by omega)
def alY {x:al}(h:jr x=some true)(hk:x.kind<9):LF x:=by
 obtain⟨k0,k9,h0,h1,h2,h3,h4,h7⟩:=Ja (MS h hk);have q:x.kind=0\/x.kind=1\/x.kind=2\/x.kind=3\/x.kind=4\/x.kind=5\/x.kind=6\/x.kind=7\/x.kind=8:=by omega
 unfold LF;rcases q with q|q|q|q|q|q|q|q|q
 .right;rw[qH,q,show lfB (λt=>t.flatMap tn) (λt=>t.flatMap xc) 0 x.text.data.toList=[110,117,108,108] from rfl];exact MT (p:=λb=>([110,117,108]:List UInt8).contains b) (by decide) (by decide) (by decide)
 .right;rw[qH,q];show NE x.text.data.toList/\(∀b∈x.text.data.toList,wV b=false)/\∀b t,x.text.data.toList=b::t->b≠34/\b≠33/\b≠91/\b≠123/\b≠60;rcases h1 q with e|e<;>rw[e]
  .exact MT (p:=λb=>([116,114,117,101]:List UInt8).contains b) (by decide) (by decide) (by decide)
  .exact MT (p:=λb=>([102,97,108,115,101]:List UInt8).contains b) (by decide) (by decide) (by decide)
 .right;rw[qH,q];exact MT (h2 q).1 (h2 q).2 (by decide)
 .right;rw[qH,q];exact MT (h3 q).1 (anc (h3 q).2) (by decide)
 .right;rw[qH,q];exact MT (h4 q).1 ((h4 q).2.elim anc anc) (by decide)
 .exact .inl q
 .right;rw[qH,q];refine MT (p:=λb=>Ao.contains b||b==35) (λb hb=>?_) (anZ 35 _) (by decide);rcases List.mem_cons.1 (show b∈35::x.text.data.toList.flatMap xc from hb) with rfl|hb
  .decide
  .rw[akk _ b hb];rfl
 .right;rw[qH,q];refine MT (p:=λb=>Fv b||b==90||b==64||b==37) (λb hb=>?_) (anZ 64 _) (by decide);rcases List.mem_cons.1 (show b∈64::x.text.data.toList from hb) with rfl|hb
  .decide
  .rcases h7 (.inl q) b hb with e|rfl
   .simp[e]
   .decide
 .right;rw[qH,q];refine MT (p:=λb=>Fv b||b==90||b==64||b==37) (λb hb=>?_) (anZ 37 _) (by decide);rcases List.mem_cons.1 (show b∈37::x.text.data.toList from hb) with rfl|hb
  .decide
  .rcases h7 (.inr q) b hb with e|rfl
   .simp[e]
   .decide
def abq {x y:al}(hQ:∀s t,FF s=FF t->s=t)(hX:∀s t:List UInt8,s.flatMap xc=t.flatMap xc->s=t)(hx:jr x=some true)(hy:jr y=some true)(kx:x.kind<9)(ky:y.kind<9)(e:om x=om y):x.kind=y.kind/\x.text.data.toList=y.text.data.toList:=by
 rw[qH,qH] at e;exact ai4 hQ hX (Ja (MS hx kx)) (Ja (MS hy ky)) e
end
section
variable {N:List al}{H:Int->Nat}{K:Int->Prop}
def alZ {s t:ζ}(h:s.data.toList=t.data.toList):s=t:=amo (Array.toList_inj.1 h)
def al0 (hf:∀x∈N,jr x=some true)(ir:∀i,K i->IR N.length i)(dn:∀i x,K i->gt N i=some x->∀v,v∈x.keys\/v∈x.items->K v/\H v<H i):KX N K H where
 ir:=ir
 dn:=dn
 fm:=hf
 kl:=λx hx h10=>by
  have h:=hf x hx;unfold jr at h;rw[AT (by omega),By h10] at h;simp only[abH,abi,abD] at h;exact h.2
 sc:=λx hx h=>alY (hf x hx) h
 tg:=λx hx h11 b hb=>by
  have h:=hf x hx;unfold jr at h;rw[AT (by omega),AT (by omega),By h11] at h;simp only[abH,abi] at h;exact Z1 h.1.1.1 b hb
end
section
variable {N M:List al}{H H2:Int->Nat}{K K2:Int->Prop}
def akl (k:KX N K H)(k2:KX M K2 H2)(lf:∀x∈N,∀y∈M,x.kind<9->y.kind<9->om x=om y->x.kind=y.kind/\x.text=y.text)
  (od:∀x∈N,x.kind≠10->x.ord=false) (od2:∀x∈M,x.kind≠10->x.ord=false) (tx:∀x∈N,9<=x.kind->x.kind≠11->x.text.data.toList=[]) (tx2:∀x∈M,9<=x.kind->x.kind≠11->x.text.data.toList=[]):INJ N M K K2 H H2:=by
 intro f g i j hi hj h1 h2 e;obtain⟨x,y,hx,hy,c,c0,c12,c3⟩:=abo k k2 hi hj h1 h2 e;have mx:=aq hx;have my:=aq hy;obtain⟨p1,p2,p3,p4⟩:=qd (k.fm x mx);obtain⟨q1,q2,q3,q4⟩:=qd (k2.fm y my);have teq:∀{s t:ζ},s.data.toList=t.data.toList->s=t:=λh=>amo (Array.toList_inj.1 h);have cx:∀z:al,(nO z=0↔z.kind=11)/\(z.kind<=11->(nO z=3↔z.kind=9\/z.kind=10))/\(nO z=1\/nO z=2->z.kind<9):=λz=>by
  unfold nO;refine⟨?_,λh=>?_,λh=>?_⟩
  .split<;>(try split)<;>(try split)<;>omega
  .split<;>(try split)<;>(try split)<;>omega
  .split at h<;>(try split at h)<;>(try split at h)<;>omega
 have o1:cn N i=j5 (kG N) x:=by unfold cn;rw[hx]
 have o2:cn M j=j5 (kG M) y:=by unfold cn;rw[hy]
 by_cases k11:x.kind=11
 .have z0:=(cx x).1.2 k11;have y11:=(cx y).1.1 (by rw[<-c];exact z0);obtain⟨t,t0⟩:=c0 z0;have l1:=p4 k11;have l2:=q4 y11;refine⟨x,y,hx,hy,by omega,teq t,by rw[od x mx (by omega),od2 y my (by omega)],by omega,λp a a' r r'=>⟨λq=>by omega,?_⟩⟩;rw[o1,rD (λq=>by omega),l1] at r;rw[o2,rD (λq=>by omega),l2] at r';have z1:=(iA 1).2 a (IN r);have z2:=(iA 1).2 a' (IN r');rw[show a=0 by omega,show a'=0 by omega];exact t0
 by_cases k9:x.kind<9
 .have z:nO x=1\/nO x=2:=by
   unfold nO;split
   .exact absurd (by assumption) k11
   .split
    .exact .inl rfl
    .exact .inr rfl
  have y9:=(cx y).2.2 (by rw[<-c];exact z);obtain⟨r1,r2⟩:=lf x mx y my k9 y9 (c12 z);refine⟨x,y,hx,hy,r1,r2,by rw[od x mx (by omega),od2 y my (by omega)],by rw[p3 k9,q3 y9],λp a a' r r'=>?_⟩;have:=eQ (IN (o1▸r));rw[p3 k9] at this;simp at this;omega
 .have z:nO x=3:=((cx x).2.1 p2).2 (by omega);have yk:=((cx y).2.1 q2).1 (by rw[<-c];exact z);obtain⟨d1,d2,d3,d4⟩:=c3 z;have hk:x.kind=y.kind:=by
   by_cases x10:x.kind=10
   .rw[x10,d1.1 x10]
   .have:¬y.kind=10:=λq=>x10 (d1.2 q);omega
  refine⟨x,y,hx,hy,hk,teq (by rw[tx x mx (by omega) k11,tx2 y my (by omega) (by omega)]),?_,?_,d4⟩
  .by_cases x10:x.kind=10
   .exact d2 x10
   .rw[od x mx x10,od2 y my (by omega)]
  .rw[kB hx,kB hy] at d3;exact d3
end
section
variable {N:List al}{K:Int->Prop}{H:Int->Nat}
def Jb {i:Int}{x:al}(hx:gt N i=some x)(h:¬(x.kind=10/\x.ord=false)):cn N i=iota x.items.length:=by
 unfold cn j5;rw[hx];exact AT h
def DH {i:Int}{x:al}(hx:gt N i=some x):cn N i=j5 (kG N) x:=by unfold cn;rw[hx]
def aeF {i:Int}{x:al}(hx:gt N i=some x){a:Nat}(ha:a<x.items.length):∃b:Nat,(cn N i)[b]?=some (a:Int):=
 List.getElem?_of_mem (by rw[DH hx];exact (uk _ _).mem_iff.2 (IN (mO ha)))
def MU (J:INJ N N K K H H)(dn:∀i x,K i->gt N i=some x->∀v,v∈x.keys\/v∈x.items->K v/\H v<H i)(mo:∀x∈N,oi x):∀f g i j,K i->K j->H i<f->H j<g->eZ N f i=eZ N g j->xW N f i j
 |0,_,_,_,_,_,h,_,_=>by omega
 |_+1,0,_,_,_,_,_,h,_=>by omega
 |f+1,g+1,i,j,ki,kj,h1,h2,e=>by
  obtain⟨x,y,hx,hy,hk,ht,ho,hl,pt⟩:=J f g i j ki kj h1 h2 e;have low:∀v w,(v∈x.keys\/v∈x.items)->(w∈y.keys\/w∈y.items)->eZ N f v=eZ N g w->xW N f v w:=λv w hv hw e=>by
   obtain⟨m1,m2⟩:=dn i x ki hx v hv;obtain⟨m3,m4⟩:=dn j y kj hy w hw;exact MU J dn mo f g v w m1 m3 (by omega) (by omega) e
  refine⟨x,y,hx,hy,hk,ht,ho,hl,?_⟩;split
  .rename_i c;intro a kx p hkx hp;obtain⟨t,q⟩:=aeF hx (aZ hp);have tl:t<(cn N j).length:=by rw[kB hy,<-hl,<-kB hx];exact aZ q
   obtain⟨b,q'⟩:∃b:Int,(cn N j)[t]?=some b:=⟨_,abt tl⟩;have r:=eQ (IN (DH hy▸q'));obtain⟨b,rfl⟩:∃n:Nat,b=n:=⟨b.toNat,by omega⟩;have bl:b<y.items.length:=by omega
   have kl:b<y.keys.length:=by rw[mo y (aq hy) (hk▸c.1)];exact bl
   have g1:y.keys[b]?=some y.keys[b]:=abt kl;have g2:y.items[b]?=some y.items[b]:=abt bl;obtain⟨r1,r2⟩:=pt t _ _ q q';refine⟨b,_,_,g1,g2,low _ _ (.inl (IN hkx)) (.inl (aky _)) ?_,low _ _ (.inr (IN hp)) (.inr (aky _)) ?_⟩
   .rw[<-gO hkx,<-gO g1];exact r1 c.1
   .rw[<-gO hp,<-gO g2];exact r2
  .rename_i c;intro a p q hp hq;have i1:(cn N i)[a]?=some (a:Int):=by rw[Jb hx c];exact mO (aZ hp)
   have i2:(cn N j)[a]?=some (a:Int):=by rw[Jb hy (by rw[<-hk,<-ho];exact c)];exact mO (aZ hq)
   obtain⟨r1,r2⟩:=pt a _ _ i1 i2;refine⟨low p q (.inr (IN hp)) (.inr (IN hq)) (by rw[<-gO hp,<-gO hq];exact r2),λh kx ky hkx hky=>?_⟩;exact low kx ky (.inl (IN hkx)) (.inl (IN hky)) (by rw[<-gO hkx,<-gO hky];exact r1 h)
end
section
variable {α β:Type}{h h' h0:aj}{L R:List bJ}{Q:β->aj->Prop}
def Xe (p:Int×ζ):δ:=[vi p.1,.string p.2]
def FL (p:PT):δ:=p.flatMap Xe
theorem He (p:PT):(FL p).length=p.length*2:=by
 induction p with
 |nil=>rfl
 |cons a p ih=>grind [Xe,FL,List.length_append,List.length_cons]
def aeG (p q:PT):FL (p++q)=FL p++FL q:=amj
def PA (a:Sl)(p:PT)(o:bJ):Prop:=(p=[]/\a=pH/\o=.sl pH 2 aE [] 0)\/∃F g,o=.Ya F 2 aE g/\(a,FL p)∈F/\∀x∈F,x.2.length<=(FL p).length
def PA.nil:PA pH [] (.sl pH 2 aE [] 0):=.inl ⟨rfl,rfl,rfl⟩
theorem agq {o o':bJ}(z:Z h0 h (o'::L))(hk:o'.ok h->o.ok h)(hg:o.iL=o'.iL\/o.iL=0):Z h0 h (o::L):=by
 obtain⟨h1,h2⟩:=List.pairwise_cons.1 z.wY;refine⟨z.LK,z.fr,λx hx=>?_,List.pairwise_cons.2 ⟨λx hx he=>?_,h2⟩⟩
 .rcases List.mem_cons.1 hx with rfl|hx
  .obtain⟨a,b⟩:=z.own o' IS
   grind
  .exact z.own x (BY _ hx)
 grind
theorem Qw.one {s:Sl}{sz:Nat}{e:μ}{cs:δ}{g:Nat}(o:uU h s sz e cs g)(hn:s.len≠0)(hc:s.cap=0):Qw h [(s,cs)] sz e g:=by
 obtain⟨h1,h2⟩:=o;rcases h2 with⟨rfl,_⟩|⟨a,b,_,bl,base,c,d,_⟩
 .exact absurd rfl hn
 .exact⟨a,b,base,λx hx=>by grind⟩
theorem PA.app {a:Sl}{p:PT}{o:bJ}(z:Z h0 h (o::L))(hp:PA a p o)(st:Int×ζ)(hb:p.length+1<=cP){ads:List θ}
  (ha:∀b,some b∈ads->∃cs g base e,h.get b.block=some (.cells cs g base e)/\(g=o.iL->g=0)) {f:Sl->M β}
  (q:∀s' h' o',PA s' (p++[st]) o'->Z h0 h' (o'::L)->(∀h2 L2,Z h0 h2 (o'::L2)->Z h0 h2 (o::L2))->Wp (f s') h' Q):Wp (sh (Ago.uC ads (Ago.app false a 2 aE 1 (Xe st))) f) h Q:=by
 rw[ag];have chg:∀{h':aj},Fr (·=o.iL) h h'->∀b,some b∈ads->h'.get b.block=h.get b.block:=λfr b hb=>by
  obtain⟨cs,g,base,e,h1,h2⟩:=ha b hb;rw[h1];exact fr.cells _ _ _ _ _ h1 h2
 rcases hp with⟨rfl,rfl,rfl⟩|⟨F,g,rfl,hm,hmax⟩
 .refine CN (uU.app (z.get 0 rfl:uU h pH 2 aE [] 0) z.wf (by decide) rfl (by show 0+1<=cP;unfold cP;omega) λs' h' g' hl hc o hg fr=>?_);refine⟨chg fr,?_⟩;have hg:=hg.resolve_left λx=>x.2 rfl;have f0:Fr (λ_=>False) h h':=⟨fr.wf,fr.next,λj c g2 b e2 hj _=>fr.cells j c g2 b e2 hj λe3=>e3,λg2 h5 _=>fr.oz g2 h5 λe3=>e3,fr.used,fr.none,λj x hj _=>fr.maps j x hj (by omega)⟩
  have hl1:s'.len=1:=hl;have z2:Z h0 h' (.Ya [(s',[]++Xe st)] 2 aE g'::L):=z.drop.add f0 (o:=.Ya [(s',[]++Xe st)] 2 aE g') (Qw.one o (by omega) hc) (.inr (by simp only[bJ.iL];omega));refine q s' h' _ (.inr ⟨_,_,rfl,?_,?_⟩) z2 λh2 L2 z3=>agq z3 (λ_=>uU.nil) (.inr rfl)
  .rw[abJ,abJ];exact List.mem_singleton.2 rfl
  .intro x hx;rw[agk] at hx;subst hx;exact aa2 _
 .have o:Qw h F 2 aE g:=z.get 0 rfl;have hal:(FL p).length=a.len*2:=by obtain⟨_,_,base,hF⟩:=o;exact (hF _ hm).1
  rw[He] at hal;refine CN (Qw.app o z.wf hm hmax (by decide) rfl (by omega) λs' h' hl o' fr=>?_);refine⟨chg fr,?_⟩;have z2:Z h0 h' (.Ya ((s',FL p++Xe st)::F) 2 aE g::L):=z.vR (i:=0) (o:=.Ya F 2 aE g) (o':=.Ya ((s',FL p++Xe st)::F) 2 aE g) rfl (by have:=o.1;show g≠0;omega) fr o' (.inl rfl);have e1:FL (p++[st])=FL p++Xe st:=by rw[aeG];show _++(Xe st++[])=_;rw[agj]
  refine q s' h' _ (.inr ⟨_,_,rfl,by rw[e1];exact IS,?_⟩) z2 λh2 L2 z3=>agq z3 (λk=>?_) (.inl rfl)
  .grind
  .obtain⟨k1,k2,base,k3⟩:=k;exact⟨k1,k2,base,λx hx=>k3 x (BY _ hx)⟩
def abr {s:Sl}{b:Addr}{sz:Nat}{e:μ}(hs:s.a=some b){Q:Sl->aj->Prop}(q:Q s h):Wp (Ago.app false s sz e 0 []) h Q:=
 ⟨s,h,by unfold Ago.app vr;simp[hs],q⟩
theorem PA.copy {a:Sl}{p:PT}{o:bJ}(z:Z h0 h (o::L))(hp:PA a p o)(hb:p.length<=cP){f:Sl->M β}
  (q:∀s' h' g',Z h0 h' (.sl s' 2 aE (FL p) g'::o::L)->Wp (f s') h' Q):Wp (sh (iB none aE []) λx=>sh (Ago.M5 a 2) λy=>sh (Ago.app false { a:=some (ak x),len:=0,cap:=1 } 2 aE a.len y) f) h Q:=by
 rw[ag,CL];refine⟨rfl,?_⟩;have z1:=z.add (Fr.new (e:=aE) (cs:=[]) z.wf) (o:=.sl ⟨some ⟨h.next,0,none⟩,0,0+1⟩ 2 aE [] (h.next+1))
  ⟨by simp,.inr ⟨by omega,by simp[aj.new,aj.dh],.inr rfl,h.next,0,rfl,lM,by rw[aj.new,xG];simp⟩⟩ (.inr (agS _))
 generalize h.next=b at z1⊢
 rw[ag];refine agL (.inr ?_);by_cases hn:p=[]
 .subst hn;have h1:a.len=0/\aW (h.new aE []) a.a (a.len*2)=some []:=by
   rcases hp with⟨_,rfl,_⟩|⟨F,g,rfl,hm,_⟩
   .exact⟨rfl,rfl⟩
   .have o:Qw (h.new aE []) F 2 aE g:=z1.get 1 rfl;obtain⟨_,_,base,hF⟩:=o;obtain⟨e1,e2,bl,e3,e4⟩:=hF _ hm;have:a.len=0:=by grind [FL,List.length_nil]
    grind [aW,FL]
  refine⟨[],h1.2,?_⟩;rw[h1.1,ag];refine abr rfl ?_;exact q _ _ _ z1
 .rcases hp with⟨e,_⟩|⟨F,g,rfl,hm,hmax⟩
  .exact absurd e hn
  .have o:Qw (h.new aE []) F 2 aE g:=z1.get 1 rfl;obtain⟨_,_,base,hF⟩:=o;obtain⟨e1,e2,bl,e3,e4⟩:=hF _ hm;simp only at e1 e2 e3 e4;have hl:a.len=p.length:=by rw[He] at e1;omega
   refine⟨FL p,?_,?_⟩
   .simp[aW,e3,e4,<-e1]
   .refine Z.Rv z1 0 rfl (by grind) (by rw[e1]) (by rw[hl];show 0+_<=_;omega) λs' h' g' _ z2 _=>?_;exact q s' h' g' z2
end
section
variable {α β:Type}{h h' h0:aj}{L R:List bJ}{N N2:List al}{Q:β->aj->Prop}
structure SC where
 m:Nat
 x1:Nat
 x3:Nat
 a0:Nat
 a1:Nat
 s1:Sl
 r1:Int
 s2:Sl
 r2:Int
abbrev SC.fn (c:SC):ο:=Value.func (Fn.func pN) #[] #[Value.pointer (some (ak c.x1)),Value.pointer (some (ak c.a0)),Value.pointer (some (ak c.a1)),Value.pointer (some (ak c.x3))]
def SML (c:SC)(fn:ο->Option ο)(k:Nat):List bJ:=[.map c.m cD fn k,.au c.x1 [Value.map (some c.m)] oV,.au c.x3 [c.fn] eV]
def prV (a b:Int):ο:=.agg #[vi a,vi b]
def W7 (fn:ο->Option ο)(met:List IP):Prop:=∀a b:Int,fn (prV a b)=if (a,b)∈met then some (.bool true) else none
theorem abu (a b c d:Int):Cm (prV a b) (prV c d)=true↔(a,b)=(c,d):=by
 constructor
 .grind [Qv,prV]
 .intro e;cases e;unfold prV;simp[Cm,Aq,DN,PZ]
theorem W7.vR {fn:ο->Option ο}{met:List IP}(m:W7 fn met)(a b:Int):W7 (zW fn (prV a b) (.bool true)) ((a,b)::met):=λc d=>by
 unfold zW;by_cases e:(c,d)=(a,b)
 .rw[By ((abu _ _ _ _).2 e),By (by rw[e];exact IS)]
 .rw[AT (λx=>e ((abu _ _ _ _).1 x)),m c d]
  grind
def xU (c:SC)(h0:aj)(res:Option PT)(p:PT)(o:bJ)(X:List bJ)(m':List IP)(r:Sl)(t:Bool)(h':aj):Prop:=∃fn k,W7 fn m'/\match res with
 |none=>t=false/\r=pH/\Z h0 h' (o::(SML c fn k++X))
 |some q=>t=true/\∃g,Z h0 h' (.sl r 2 aE (FL (p++q)) g::o::(SML c fn k++X))
def xU.sub {c:SC}{res:Option PT}{p:PT}{o:bJ}{X X':List bJ}{m':List IP}{r:Sl}{t:Bool}(h:xU c h0 res p o X m' r t h')(hs:X'.Sublist X):xU c h0 res p o X' m' r t h':=by
 obtain⟨fn,k,m,w⟩:=h;refine⟨fn,k,m,?_⟩;cases res with
 |none=>exact⟨w.1,w.2.1,w.2.2.sub (List.Sublist.cons_cons _ (alu (ai3 _) hs))⟩
 |some q=>
  obtain⟨w1,g,w2⟩:=w;exact⟨w1,g,w2.sub (List.Sublist.cons_cons _ (List.Sublist.cons_cons _ (alu (ai3 _) hs)))⟩
def fuS (f:Nat):Nat:=fuQ+300+f*100
def al1 (h0:aj)(c:SC)(N N2:List al)(f:Nat):Prop:=∀(n:Nat) (h:aj) (q:IP) (met m':List IP) (res:Option PT) (a:Sl) (p:PT) (o:bJ) (fn:ο->Option ο) (k:Nat) (L:List bJ),fuS f<=n->W5 N c.r1 N2 c.r2 f met q=some (m',res)->W7 fn met->PA a p o->p.length+f<=5000->Z h0 h (o::(SML c fn k++L)) ->
 Wp ((aV.at n).mM q a (ak c.x1) (ak c.a0) (ak c.a1) (ak c.x3)) h λr h'=>xU c h0 res p o L m' r.1 r.2 h'
def nbB {o:bJ}(z:Z h0 h (o::L)){b:Addr}{vs:δ}{g:Nat}(c:Cl h b vs g)(hg:g<=h0.next):∃cs g base e,h.get b.block=some (.cells cs g base e)/\(g=o.iL->g=0):=by
 obtain⟨_,cs,base,e,h2,_⟩:=c;refine⟨cs,g,base,e,h2,λe1=>?_⟩;rcases (z.own o IS).2 with q|q<;>omega
def al2 {o:bJ}(z:Z h0 h (o::L)){b:Nat}{cs:δ}{e:μ}(hm:bJ.au b cs e∈L):∃cs g base e,h.get b=some (.cells cs g base e)/\(g=o.iL->g=0):=by
 have l:LB h b cs e:=(z.own _ (BY _ hm)).1;refine⟨cs,b+1,0,e,l.get,λe1=>?_⟩;have:=(List.pairwise_cons.1 z.wY).1 _ hm (by show o.iL=b+1;omega);omega
theorem al3 {c:SC}{f:Nat}(V:al1 h0 c N N2 f)(G2:kP h0 c.s2 N2)(l1:LB h0 c.a1 [aC c.s2,vi c.r2] ah){q:IP}{x y:al}{T:List ζ}(hT:T=[]\/T.length=x.items.length)(hy:gt N2 q.2=some y)(hxy:x.items.length=y.items.length)(hb:x.items.length<=80){is:Sl}(ix:IL h0 is x.items){pb:Nat}{nm:Sl}{a:Sl}{p:PT}{o:bJ}(hp:PA a p o)(hpf:p.length+f<5000){gN:Nat} :
  ∀(n i:Nat) (h:aj) (met m':List IP) (res:Option PT) (fn:ο->Option ο) (k:Nat),fuS f+(x.items.length-i)+1<=n->i<=x.items.length->W4 (W5 N c.r1 N2 c.r2 f) T i (x.items.drop i) (y.items.drop i) met=some (m',res)->W7 fn met ->
   Z h0 h (o::(SML c fn k++(.sl nm 1 ep (T.map .string) gN::.au pb [vi q.1,vi q.2] cD::L))) ->
   Wp ((aV.at n).jq a (ak c.a1) (ak c.x3) (ak pb) nm is (x.items.length:Int) (i:Int)) h λr h'=>match r with
    |.inl _=>xU c h0 res p o L m' pH false h'
    |.inr v=>xU c h0 res p o L m' v.1 v.2 h':=by
 intro n
 induction n with
 |zero=>intro i h met m' res fn k h1;omega
 |succ n ih=>
  intro i h met m' res fn k h1 h2 hv hM z;show Wp (qn (aV.at n) n a (ak c.a1) (ak c.x3) (ak pb) nm is (x.items.length:Int) (i:Int)) h _;unfold qn;by_cases hi:i<x.items.length
  .rw[By (by simpa using hi)];obtain⟨u,hu⟩:=jD (l:=x.items) (v:=(i:Int)) (by omega) (by omega);obtain⟨v,hv'⟩:=jD (l:=y.items) (v:=(i:Int)) (by omega) (by omega);rw[BJ hu,BJ hv'] at hv;unfold W4 at hv;refine (ix.fr z.fr).ix (by omega) (aB hu).2 λ_ _ c1=>c1.tC (l:=li) rfl rfl ?_;refine z.new λsb h2' z _=>?_;have J:∀h3,Z h0 h3 (.au sb (Xe (KI T i)) aE::o::(SML c fn k++(.sl nm 1 ep (T.map .string) gN::.au pb [vi q.1,vi q.2] cD::L))) ->
     Wp (iq (aV.at n) n a (ak c.a1) (ak c.x3) (ak pb) nm (i:Int) u (ak sb) is (x.items.length:Int) (i:Int)) h3 λr h'=>match r with
    |.inl _=>xU c h0 res p o L m' pH false h'
    |.inr v=>xU c h0 res p o L m' v.1 v.2 h':=by
    intro h3 z;unfold iq;refine z.ld 4 (o:=0) (l:=.raw) (x:=c.fn) ?_;have cA:∀{h},Z h0 h L->True:=λ_=>trivial;refine (LB.cl (l1.fr z.fr λx=>x)).ld (o:=0) (l:=.sl) (x:=c.s2) rfl rfl ?_;refine z.ld 6 (o:=1) (l:=li) (x:=q.2) ?_;refine G2.Ss z (aB hy).1 (aB hy).2 λay ks' is' nd'=>?_;obtain⟨gy,cy⟩:=nd'.cl;refine (nd'.fr z.fr).Ed ?_;obtain⟨gi,ri⟩:=nd'.items;have hgi:gi<=h0.next:=by
     have hne:is'.len≠0:=(by have:=nd'.items.len;omega);obtain⟨_,_,_,cs,base,e,h2,_⟩:=ri.2.resolve_left hne;exact z.LK.iL _ _ _ _ _ h2
    refine (rY.fr ri z.fr λx=>x.elim).X7 (enc:=vi) (by omega) (aB hv').2 λai ci=>ci.tC (l:=li) rfl rfl ?_;refine z.fH 0 (x:=(KI T i:cF [li,.str])) ?_;have zd:=z.drop;refine PA.app zd hp (KI T i) (by unfold cP;omega) (λb hb=>?_) λs' h4 o' hp' z4 back=>?_
    .simp only[al8,abH,amh,aoj] at hb;rcases hb with rfl|rfl|rfl|rfl|rfl
     .exact al2 zd (adO _ (by unfold SML;exact BY _ (BY _ IS)))
     .exact nbB zd (LB.cl (l1.fr z.fr λx=>x)) (by have:=LB.lt l1 z.LK;show c.a1+1<=h0.next;omega)
     .exact al2 zd (abI _ (BY _ IS))
     .have cy':=cy.fr z.fr λx=>x.elim;refine nbB zd (b:=ay) cy' ?_;obtain⟨_,cs,base,e,h2,_⟩:=cy;exact z.LK.iL _ _ _ _ _ h2
     .exact nbB zd ci hgi
    .rw[ag];unfold pD;rw[By (by rfl),ag];refine lg (c:=((ak c.x1,ak c.a0,ak c.a1,ak c.x3):Addr×Addr×Addr×Addr)) rfl ?_;cases e1:W5 N c.r1 N2 c.r2 f met (u,v) with
     |none=>rw[e1] at hv;cases hv
     |some w=>
     obtain⟨m1,r1⟩:=w;rw[e1] at hv;refine (V n h4 (u,v) met m1 r1 s' (p++[KI T i]) o' fn k _ (by omega) e1 hM hp' (by grind) z4).mono λr h5 hr=>?_;obtain⟨fn2,k2,hM2,hr⟩:=hr;cases r1 with
     |some pq=>
      simp only at hv hr;cases hv;obtain⟨ht,g,z5⟩:=hr;rw[By (by simpa using ht)];refine af.2 ?_;have z6:=z5.perm (List.Perm.swap _ _ _);have z7:=(back h5 _ z6).perm (List.Perm.swap _ _ _);rw[abM] at z7;exact xU.sub (X:=.sl nm 1 ep (T.map .string) gN::.au pb [vi q.1,vi q.2] cD::L) ⟨fn2,k2,hM2,rfl,g,z7⟩ (List.Sublist.cons _ (List.Sublist.cons _ (ai3 _)))
     |none=>
      simp only at hv hr;obtain⟨ht,_,z5⟩:=hr;rw[AT (by rw[ht];simp),wX (B:=80) (by omega) (by omega)];exact ih (i+1) h5 m1 m' res fn2 k2 (by omega) (by omega) hv hM2 (back h5 _ z5)
   refine z.st 0 (cs':=[vi (i:Int),.string (ofBytes [])]) λh3 z=>?_;have nl:nm.len=T.length:=by
    have o:uU h3 nm 1 ep (T.map .string) gN:=z.get 5 rfl;have:=o.1;simp at this;omega
   by_cases hTn:T=[]
   .rw[AT (by rw[nl,hTn];simp)];refine J h3 ?_;have:KI T i=((i:Int),ofBytes []):=(by rw[hTn];rfl);rw[this];exact z
   .have hTl:=hT.resolve_left hTn;rw[By (by rw[nl,hTl];simp;omega)];obtain⟨t,ht⟩:=gS (l:=T) (i:=i) (by omega);refine akf z (IN (i:=5) rfl) ht λat' g ct=>ct.tC (l:=.str) rfl rfl ?_;refine z.st 0 (cs':=[vi 0,.string t]) λh4 z=>?_;refine J h4 ?_;have:KI T i=(0,t):=(by unfold KI;rw[ht]);rw[this];exact z
  .rw[AT (by simpa using hi)];rw[abG (by omega)] at hv;unfold W4 at hv;cases hv;refine af.2 ?_;exact xU.sub (X:=.sl nm 1 ep (T.map .string) gN::.au pb [vi q.1,vi q.2] cD::L) ⟨fn,k,hM,rfl,rfl,z⟩ (List.Sublist.cons _ (List.Sublist.cons _ (ai3 _)))
end
section
variable {α β:Type}{h h' h0:aj}{L R:List bJ}{N N2:List al}{Q:β->aj->Prop}
def abw (f:Nat):fuS (f+1)=fuS f+100:=by unfold fuS;omega
def RJ (f:Nat):fuQ+300<=fuS f:=by unfold fuS;omega
def KsL (N:List al):Prop:=∀x∈N,x.keys.length=(if x.kind=10 then x.items.length else 0)
theorem aeH {c:SC}(G1:kP h0 c.s1 N)(G2:kP h0 c.s2 N2)(l0:LB h0 c.a0 [aC c.s1,vi c.r1] ah)(l1:LB h0 c.a1 [aC c.s2,vi c.r2] ah)(f1:de N)(f2:de N2)(i1:lF N N.length)(i2:lF N2 N2.length)(k1:KsL N)(k2:KsL N2):∀f,al1 h0 c N N2 f:=by
 intro f
 induction f with
 |zero=>intro n h q met m' res a p o fn k L _ hv;cases hv
 |succ f ih=>
  intro n h q met m' res a p o fn k L hn hv hM hp hpf z;obtain⟨qa,qb⟩:=q;rw[abw] at hn;have hS:=RJ f;obtain⟨n,rfl⟩:∃n',n=n'+1:=⟨n-1,by omega⟩;show Wp (ug (aV.at n) n (qa,qb) a (ak c.x1) (ak c.a0) (ak c.a1) (ak c.x3)) h _;unfold ug;refine z.new λx0 h1 z _=>?_;refine z.ld 3 (o:=0) (l:=.mp) (x:=some c.m) ?_;refine z.fH 0 (x:=((qa,qb):cF [li,li])) ?_;unfold W5 at hv;refine z.jW 2 (k:=prV qa qb) rfl (λv e=>?_) (λe=>?_)
  .rw[hM qa qb] at e;split at e
   .rename_i hm;cases e;rw[By hm] at hv;cases hv;refine⟨true,rfl,?_⟩;rw[By rfl];exact af.2 ⟨fn,k,hM,rfl,rfl,z.drop⟩
   .cases e
  .rw[hM qa qb] at e;split at e
   .cases e
   .rename_i hm;rw[AT hm] at hv;rw[AT (by simp)];refine z.ld 3 (o:=0) (l:=.mp) (x:=some c.m) ?_;refine z.fH 0 (x:=((qa,qb):cF [li,li])) ?_;refine z.oQ 2 (k:=prV qa qb) rfl λh2 k' z=>?_;have hM2:=hM.vR qa qb;have z:Z h0 h2 (.au x0 [vi qa,vi qb] cD::o::(SML c (zW fn (prV qa qb) (.bool true)) k'++L)):=z;generalize zW fn (prV qa qb) (.bool true)=fn2 at z hM2;refine (LB.cl (l0.fr z.fr λx=>x)).fH (x:=((c.s1,c.r1):cF [.sl,li])) rfl ?_;refine (LB.cl (l1.fr z.fr λx=>x)).fH (x:=((c.s2,c.r2):cF [.sl,li])) rfl ?_;refine z.fH 0 (x:=((qa,qb):cF [li,li])) ?_;cases hx:gt N qa with
    |none=>rw[hx] at hv;cases hv
    |some x=>
    cases hy:gt N2 qb with
    |none=>rw[hx,hy] at hv;cases hv
    |some y=>
    rw[hx,hy] at hv;simp only at hv;rw[ag];refine (abf z G1 G2 f1 f2 i1 i2 (k1 x (aq hx)) (k2 y (aq hy)) hx hy (n:=n) (by omega)).mono λr h3 hr=>?_;cases em:GN N c.r1 N2 c.r2 x y with
    |none=>
     rw[em] at hr hv;obtain⟨ht,z⟩:=hr;cases hv;rw[By (by rw[ht];rfl)];refine PA.copy z.drop hp (by unfold cP;omega) λs' h4 g' z4=>af.2 ?_;refine⟨fn2,k',hM2,rfl,g',?_⟩;rw[agj];exact z4
    |some T=>
     rw[em] at hr hv;obtain⟨ht,g,z⟩:=hr;simp only at hv;obtain⟨hxy,eT⟩:=T6 em;rw[AT (by rw[ht];simp)];refine (LB.cl (l0.fr z.fr λx=>x)).ld (o:=0) (l:=.sl) (x:=c.s1) rfl rfl ?_;refine z.ld 1 (o:=0) (l:=li) (x:=qa) ?_;refine G1.Ss z (aB hx).1 (aB hx).2 λax ks is nd=>?_;refine (nd.fr z.fr).Ed ?_;rw[nd.items.len,ag];have z5:Z h0 h3 (o::(SML c fn2 k'++(.sl r.1 1 ep (T.map .string) g::.au x0 [vi qa,vi qb] cD::L))):=
      z.perm (show ([bJ.sl r.1 1 ep (T.map .string) g,.au x0 [vi qa,vi qb] cD]++((o::SML c fn2 k')++L)).Perm ((o::SML c fn2 k')++([bJ.sl r.1 1 ep (T.map .string) g,.au x0 [vi qa,vi qb] cD]++L)) from alW _ _ _)
     have hTl:T=[]\/T.length=x.items.length:=by
      have:=k1 x (aq hx)
      grind
     refine (al3 (q:=(qa,qb)) (x:=x) (y:=y) (T:=T) ih G2 l1 hTl hy hxy (f1.map x (aq hx)).1 nd.items hp (by omega) n 0 h3 _ m' res fn2 k' (by have:=(f1.map x (aq hx)).1;omega) (alm _) hv hM2 z5).mono λw h4 hw=>?_;cases w with
     |inl _=>exact af.2 hw
     |inr v=>exact af.2 hw
def al4 {c0 c1:Nat}{s1 s2:Sl}{r1 r2:Int}(z:Z h0 h L)(G1:kP h s1 N)(G2:kP h s2 N2)(l0:LB h c0 [aC s1,vi r1] ah)(l1:LB h c1 [aC s2,vi r2] ah)(f1:de N)(f2:de N2)(i1:lF N N.length)(i2:lF N2 N2.length)(k1:KsL N)(k2:KsL N2)(e1:IR N.length r1)(e2:IR N2.length r2){n:Nat}(hn:fuS T7<=n) :
  Wp (qR n (ak c0) (ak c1)) h λr h'=>r.2.2=true/\Fr (λ_=>False) h h'/\match JQ N r1 r1 N2 r2 r2 with
   |none=>r.2.1=false/\r.1=pH
   |some q=>r.2.1=true/\∃g,uU h' r.1 2 aE (FL q) g/\(g=0\/h.next<g):=by
 unfold qR;have z:=Z.start z.wf;refine z.akZ λm h1 z=>z.new λx1 h2 z _=>z.st 0 (cs':=[Value.map (some m)]) λh3 z=>z.new λx3 h4 z _=>?_
 let c:SC:=⟨m,x1,x3,c0,c1,s1,r1,s2,r2⟩
 refine z.st 0 (cs':=[c.fn]) λh5 z=>?_;have z:Z h h5 ([.au x3 [c.fn] eV,.au x1 [Value.map (some m)] oV,.map m cD (λ_=>none) 0]++[]):=z;refine z.ld 0 (o:=0) (l:=.raw) (x:=c.fn) ?_;refine (LB.cl (l0.fr z.fr λx=>x)).ld (o:=1) (l:=li) (x:=r1) rfl rfl ?_;refine (LB.cl (l1.fr z.fr λx=>x)).ld (o:=1) (l:=li) (x:=r2) rfl rfl ?_;have z:=Z.uV (pre:=[_,_,_]) z [2,1,0] (by simp only[abv,ad8];decide);have z:Z h h5 (SML c (λ_=>none) 0++[]):=z;have z6:=z.add (Fr.refl z.wf) (o:=.sl pH 2 aE [] 0) uU.nil (.inl rfl);unfold uh;rw[By (by rfl),ag,ag];refine lg (c:=((ak c.x1,ak c.a0,ak c.a1,ak c.x3):Addr×Addr×Addr×Addr)) rfl ?_;obtain⟨m',er,_⟩:=MQ (r:=r1) (s:=r2) f1 f2 i1 i2 e1 e2;refine (aeH (c:=c) G1 G2 l0 l1 f1 f2 i1 i2 k1 k2 T7 n h5 (r1,r2) [] m' _ pH [] _ (λ_=>none) 0 [] hn er (λa b=>by rw[AT (by simp)]) PA.nil (by unfold T7;simp) z6).mono λr h6 hr=>af.2 ?_;obtain⟨fn,k,_,hr⟩:=hr;cases hq:JQ N r1 r1 N2 r2 r2 with
 |none=>
  rw[hq] at hr;exact⟨rfl,hr.2.2.fr,hr.1,hr.2.1⟩
 |some q=>
  rw[hq] at hr;obtain⟨ht,g,z7⟩:=hr;have:=z7.own _ IS;exact⟨rfl,z7.fr,ht,g,this.1,this.2⟩
end
section
variable {α β:Type}{h h' h0:aj}{L R:List bJ}{N N2:List al}{root:Int}{Q:β->aj->Prop}
def wW (d:Vd N root)(f:de N):de (mP N root):=⟨by rw[pG d];exact f.len,λy hy=>by
 have:=(aea d f.bd).2.2 y hy;exact⟨this.2,this.1⟩,λy hy=>by
 rcases BK d hy with rfl|⟨x,hx,_,h2,_⟩
 .show (ofBytes []).size<=_;decide
 .rw[h2];exact f.txt x hx⟩
def de.vd (f:de N)(h:Sh.gc N root=0):Vd N root:=by
 have hc:=f.gc root;rw[h] at hc;exact vX f.bd.2.2 f.bd.1 (by omega) f.k0 hc
def ir0 {n m:Nat}{r:Int}(e:m=n)(h:IR n r):IR m 0:=by
 have:=h.1;have:=h.2;exact⟨by omega,by omega⟩
noncomputable def Xf (N:List al)(r:Int)(N2:List al)(s:Int):Option PT:=JQ (mP N r) 0 0 (mP N2 s) 0 0
def SrR (N:List al)(r:Int)(N2:List al)(s:Int)(nx:Nat)(v:Sl×Bool×Bool)(h':aj):Prop:=
 (gc N r=0/\gc N2 s=0->v.2.2=true/\match Xf N r N2 s with
  |none=>v.2.1=false/\v.1=pH
  |some q=>v.2.1=true/\∃g,uU h' v.1 2 aE (FL q) g/\(g=0\/nx<g))/\(¬(gc N r=0/\gc N2 s=0)->v=(pH,false,false))
def MV:Nat:=fuS T7+fuN
theorem Ub {n:Nat}(h:MV<=n):fuS T7<=n/\fuN<=n/\KF+66000<n:=by
 have h1:MV=fuS T7+fuN:=rfl;have h2:=RJ T7;have h3:=(TB (aa2 fuQ)).2.2
 grind
theorem SrR.mono {r s:Int}{n1 n2:Nat}{v:Sl×Bool×Bool}(x:SrR N r N2 s n2 v h')(h:n1<=n2):SrR N r N2 s n1 v h':=by
 refine⟨λhh=>?_,x.2⟩;obtain⟨a,b⟩:=x.1 hh
 grind
theorem KP {s1 s2:Sl}{r1 r2:Int}(z:Z h0 h L)(G1:kP h0 s1 N)(G2:kP h0 s2 N2)(f1:de N)(f2:de N2){n:Nat}(hn:MV<=n) :
  Wp (p9 n (s1,r1) (s2,r2)) h λv h'=>SrR N r1 N2 r2 h0.next v h'/\Fr (λ_=>False) h h':=by
 obtain⟨n1,n2,n3⟩:=Ub hn;have G1':=G1.fr z.fr;have G2':=G2.fr z.fr;have hle:=z.fr.next
 have z:=Z.start z.wf
 suffices hh:Wp (p9 n (s1,r1) (s2,r2)) h λv h'=>SrR N r1 N2 r2 h.next v h'/\Fr (λ_=>False) h h' from hh.mono λv h' a=>⟨a.1.mono hle,a.2⟩
 unfold p9;refine z.new λx0 h1 z _=>z.new λx1 h2 z _=>?_;refine z.fH 1 (x:=((s1,r1):cF [.sl,li])) ?_;rw[ag];refine (FE z G1' f1 f1.k0 (f1.gc r1) n2 n3).mono λy h3 hy=>?_;obtain⟨⟨o1,q1⟩,w1⟩:=y;by_cases c1:gc N r1=0
 .rw[By c1] at hy;obtain⟨e1,e2,m1⟩:=hy;simp only at e1 e2 m1;subst e1;subst e2;refine m1.on λX z back=>?_;refine z.new λx4 h4 z _=>z.st 0 (cs':=[aC o1,vi 0]) λh5 z=>?_;have z:Z h h5 (.au x4 [aC o1,vi 0] ah::.au x1 [aC s2,vi r2] ah::.au x0 [aC s1,vi r1] ah::X):=z;refine z.fH 1 (x:=((s2,r2):cF [.sl,li])) ?_;rw[ag];refine (FE z G2' f2 f2.k0 (f2.gc r2) n2 n3).mono λy h6 hy=>?_;obtain⟨⟨o2,q2⟩,w2⟩:=y;by_cases c2:gc N2 r2=0
  .rw[By c2] at hy;obtain⟨e1,e2,m2⟩:=hy;simp only at e1 e2 m2;subst e1;subst e2;refine m2.on λX2 z back2=>?_;refine z.new λx8 h7 z _=>z.st 0 (cs':=[aC o2,vi 0]) λh8 z=>?_;have z:Z h h8 (.au x8 [aC o2,vi 0] ah::.au x4 [aC o1,vi 0] ah::.au x1 [aC s2,vi r2] ah::.au x0 [aC s1,vi r1] ah::(X++X2)):=by simpa using z
   rw[AT (by simp),AT (by simp)];have R1:kP h8 o1 (mP N r1):=(back h8 (.au x8 [aC o2,vi 0] ah::.au x4 [aC o1,vi 0] ah::.au x1 [aC s2,vi r2] ah::.au x0 [aC s1,vi r1] ah::X2) (z.perm (by
    show ([_,_,_,_]++(X++X2)).Perm (([_,_,_,_]++X2)++X)
    grind [List.append_assoc,List.Perm.append_left,List.perm_append_comm]))).read
   have R2:kP h8 o2 (mP N2 r2):=(back2 h8 (.au x8 [aC o2,vi 0] ah::.au x4 [aC o1,vi 0] ah::.au x1 [aC s2,vi r2] ah::.au x0 [aC s1,vi r1] ah::X) (by simpa using z)).read;have d1:=f1.vd c1;have d2:=f2.vd c2;have i1:=ir0 (pG d1) d1.rt;have i2:=ir0 (pG d2) d2.rt;refine (al4 z R1 R2 (z.get 1 rfl:LB _ x4 [aC o1,vi 0] ah) (z.get 0 rfl:LB _ x8 [aC o2,vi 0] ah) (wW d1 f1) (wW d2 f2) (BM d1) (BM d2) (λy hy=>O8 d1 hy) (λy hy=>O8 d2 hy) i1 i2 n1).mono λv h9 hv=>?_;obtain⟨v1,v2,v3⟩:=hv;refine⟨⟨λ_=>⟨v1,?_⟩,λq=>absurd ⟨c1,c2⟩ q⟩,(z.pure v2).fr⟩;show match JQ (mP N r1) 0 0 (mP N2 r2) 0 0 with
    |none=>v.2.1=false/\v.1=pH
    |some q=>v.2.1=true/\∃g,uU h9 v.1 2 aE (FL q) g/\(g=0\/h.next<g)
   grind [JQ,mP,id,z.fr.next]
  .rw[AT c2] at hy;obtain⟨e1,z⟩:=hy;simp only at e1;subst e1;refine z.new λx8 h7 z _=>z.st 0 (cs':=[aC o2,vi q2]) λh8 z=>?_;rw[AT (by simp),By (by simp)];exact af.2 ⟨⟨λq=>absurd q.2 c2,λ_=>rfl⟩,z.fr⟩
 .rw[AT c1] at hy;obtain⟨e1,z⟩:=hy;simp only at e1;subst e1;refine z.new λx4 h4 z _=>z.st 0 (cs':=[aC o1,vi q1]) λh5 z=>?_;have z:Z h h5 (.au x4 [aC o1,vi q1] ah::.au x1 [aC s2,vi r2] ah::.au x0 [aC s1,vi r1] ah::[]):=z;refine z.fH 1 (x:=((s2,r2):cF [.sl,li])) ?_;rw[ag];refine (FE z G2' f2 f2.k0 (f2.gc r2) n2 n3).mono λy h6 hy=>?_;obtain⟨⟨o2,q2⟩,w2⟩:=y;have hz:∃L,Z h h6 L:=by
   by_cases c2:gc N2 r2=0
   .rw[By c2] at hy;exact⟨_,hy.2.2.z⟩
   .rw[AT c2] at hy;exact⟨_,hy.2⟩
  obtain⟨L',z⟩:=hz;refine z.new λx8 h7 z _=>z.st 0 (cs':=[aC o2,vi q2]) λh8 z=>?_;rw[By (by simp)];exact af.2 ⟨⟨λq=>absurd q.1 c1,λ_=>rfl⟩,z.fr⟩
noncomputable def eqG (N:List al)(r:Int)(N2:List al)(s:Int):Bool:=@decide (gc N r=0/\gc N2 s=0/\Eqv (mP N r) 0 0 (mP N2 s) 0 0) (Classical.propDecidable _)
theorem Uc {r s:Int}(f1:de N)(f2:de N2)(c1:gc N r=0)(c2:gc N2 s=0):Xf N r N2 s=none↔Eqv (mP N r) 0 0 (mP N2 s) 0 0:=by
 have d1:=f1.vd c1;have d2:=f2.vd c2;have i1:=ir0 (pG d1) d1.rt;have i2:=ir0 (pG d2) d2.rt;obtain⟨_,_,h⟩:=MQ (r:=0) (s:=0) (wW d1 f1) (wW d2 f2) (BM d1) (BM d2) i1 i2;exact h
theorem PF {s1 s2:Sl}{r1 r2:Int}(z:Z h0 h L)(G1:kP h0 s1 N)(G2:kP h0 s2 N2)(f1:de N)(f2:de N2){n:Nat}(hn:MV<=n) :
  Wp (jV n (s1,r1) (s2,r2)) h λv h'=>v=eqG N r1 N2 r2/\Fr (λ_=>False) h h':=by
 have G1:=G1.fr z.fr;have G2:=G2.fr z.fr;have z:=Z.start z.wf;unfold jV;refine z.new λx0 h1 z _=>z.new λx1 h2 z _=>?_;refine z.fH 1 (x:=((s1,r1):cF [.sl,li])) ?_;refine z.fH 0 (x:=((s2,r2):cF [.sl,li])) ?_;rw[ag];refine (KP z G1 G2 f1 f2 hn).mono λv h3 hv=>?_;obtain⟨⟨a,b⟩,fr⟩:=hv;have fr:=(z.pure fr).fr;by_cases hc:gc N r1=0/\gc N2 r2=0
 .obtain⟨a1,a2⟩:=a hc;rw[By a1];refine af.2 ⟨?_,fr⟩
  grind [Uc,eqG,Xf,decide_eq_true,Classical.propDecidable,decide_eq_false]
 .have:=b hc;subst this;rw[AT (by simp)];refine af.2 ⟨?_,fr⟩
  grind [eqG,decide_eq_false,Classical.propDecidable]
def FiR (N:List al)(r:Int)(N2:List al)(s:Int)(v:Sl×Bool)(h':aj):Prop:=
 (gc N r=0/\gc N2 s=0->match Xf N r N2 s with
  |none=>v.2=false/\v.1=pH
  |some q=>v.2=true/\∃g,rY h' v.1 2 (FL q) g)/\(¬(gc N r=0/\gc N2 s=0)->v=(pH,false))
def PG {s1 s2:Sl}{r1 r2:Int}(z:Z h0 h L)(G1:kP h0 s1 N)(G2:kP h0 s2 N2)(f1:de N)(f2:de N2){n:Nat}(hn:MV<=n) :
  Wp (pE n (s1,r1) (s2,r2)) h λv h'=>FiR N r1 N2 r2 v h'/\Fr (λ_=>False) h h':=by
 have G1:=G1.fr z.fr;have G2:=G2.fr z.fr;have z:=Z.start z.wf;unfold pE;refine z.new λx0 h1 z _=>z.new λx1 h2 z _=>?_;refine z.fH 1 (x:=((s1,r1):cF [.sl,li])) ?_;refine z.fH 0 (x:=((s2,r2):cF [.sl,li])) ?_;rw[ag];refine (KP z G1 G2 f1 f2 hn).mono λv h3 hv=>af.2 ?_;obtain⟨⟨a,b⟩,fr⟩:=hv;refine⟨⟨λhc=>?_,λhc=>?_⟩,(z.pure fr).fr⟩
 .obtain⟨a1,a2⟩:=a hc;cases hf:Xf N r1 N2 r2 with
  |none=>rw[hf] at a2;exact a2
  |some q=>
   rw[hf] at a2;obtain⟨b1,g,b2,_⟩:=a2;exact⟨b1,g,b2.Jf⟩
 .rw[b hc]
end
section
variable {N M:List al}{r s v:Int}{φ ψ:Int->Int}
def Ud:eqG N r M s=true↔Sh.gc N r=0/\Sh.gc M s=0/\Eqv (mP N r) 0 0 (mP M s) 0 0:=by
 unfold eqG;exact @decide_eq_true_iff _ (Classical.propDecidable _)
def de.ko (fw:de N)(h0:Sh.gc N r=0):∃H:Int->Nat,KOr N H/\∀u,H u<=N.length:=
 alT (fw.MY h0) (fw.sm (fw.MY h0)) λx hx=>((fw.gv.1 h0).tw x hx).imp λh f q=>h ⟨f,q⟩
def Vd.t11 (d:Vd N r):∀x∈N,x.kind=11->x.items.length=1:=λx hx=>(qd (d.fm x hx)).2.2.2
theorem EE (fw:de N)(h0:Sh.gc N r=0)(kv:KN N v):iR N r v=ofBytes (eZ N 100 v):=by
 obtain⟨N',q,φ,_,I,rfl,g',fw',e,_⟩:=Kw fw h0 kv;obtain⟨H,K,hb⟩:=fw.ko h0;have d:=fw.MY h0;rw[e,Hb K hb d.t11 I (fw'.MY (fw'.gv.2 g')) 100 v .refl (kv.ir d.ix)]
theorem Bo.kn' (I:Bo N v M φ)(g:GV N r)(hv:IR N.length v)(all:∀u,IR N.length u->iC N v u){u:Int}(k:KN N u):KN M (φ u):=by
 induction k with
 |key hx hu=>
  rename_i x u;obtain⟨j,hj⟩:=List.mem_iff_getElem?.1 hx;have gx:gt N (j:Int)=some x:=by unfold gt;grind
  obtain⟨x',h1,E⟩:=I.nd _ x (all _ (mX gx)) gx;obtain⟨l,e1,e2⟩:=E.keys (g.yC hx) (qc (g.fm x hx));exact .key (aq h1) (by rw[e2];exact ami (e1.mem_iff.2 hu))
 |step k e ih=>exact .step ih (I.GJ g (all _ (k.ir g.ix)) e)
def RL (fw:de N)(h0:Sh.gc N r=0):∃φ:Int->Int,φ r=0/\Nrm N (mP N r) φ (iR (mP N r) 0):=by
 have d:=fw.MY h0;have g:=fw.gv.1 h0;obtain⟨φ,I,z,hn⟩:=aaA g d;have fA:=wW d fw;have gA:=I.gv g d d.rt;rw[z] at gA;have cA:=fA.gv.2 gA;obtain⟨H,K,hb⟩:=fw.ko h0;refine⟨φ,z,λu x hx=>?_,λk kv=>?_⟩
 .obtain⟨x',h1,E⟩:=I.nd u x (g.PW u (mX hx)) hx;obtain⟨y,h2,a,b⟩:=hn u x hx;rw[h1] at h2;cases h2;refine⟨x',h1,E.k,E.t,E.o,a,?_⟩;obtain⟨o,_,_,_,h4⟩:=E.e;split
  .rename_i k;exact b k
  .rename_i k;rw[h4,AT k]
 .have vA:=fA.MY cA;rw[EE fA cA (I.kn' g d.rt g.PW kv),Hb K hb d.t11 I (z▸vA) 100 k (g.PW k (kv.ir d.ix)) (kv.ir d.ix)]
theorem al6 (hI:lF N N.length)(hn:∀u v,Edge N u v->¬iC N v u){u w:Int}(e:Edge N u w):cR N w<cR N u:=by
 obtain⟨x,hx,hw⟩:=id e;have hu:=mX hx;have h1:(List.range N.length).countP (λi=>i==u.toNat)=1:=by
  have:=(akA (n:=N.length)).count (a:=u.toNat);rw[By (List.mem_range.2 (show u.toNat<N.length by have:=hu.1;have:=hu.2;omega))] at this;exact this
 unfold cR;have:=zE (p:=open Classical in λi:Nat=>decide (iC N w (i:Int))) (q:=λi=>i==u.toNat) (r:=open Classical in λi:Nat=>decide (iC N u (i:Int))) (List.range N.length) λi _=>by
  simp only[abD,beq_iff_eq];have q:i=u.toNat->(i:Int)=u:=λe=>by have:=hu.1;omega
  exact⟨λq=>(iC.one e).trans q,λp=>by rw[q p];exact .refl,λ⟨a,b⟩=>hn u w e (by rw[q b] at a;exact a)⟩
 omega
def aeJ (fw:de N)(h0:Sh.gc N r=0)(ha:∀u v,Edge N u v->¬iC N v u):∃H:Int->Nat,(∀u,H u<=60)/\∀u v,Edge N u v->H v<H u:=
 ⟨cR N,λu=>by have:=agn (N:=N) u;have:=fw.len;omega,λ_ _ e=>al6 (fw.MY h0).ix ha e⟩
theorem akm (fw:de N)(h0:Sh.gc N r=0):(∃d,dep KF N r=some (d,gd N r))/\(gd N r=true↔∀u v,Edge N u v->¬iC N v u):=by
 have g:=fw.gv.1 h0;have hk:=fw.k0;obtain⟨d,a,e,_,ha⟩:=Tn (k:=KF) g.ix g.rt fw.bd.2.2 g.le fw.bd.1 g.PW (by grind [gK,Nat.add_mul]);have:gd N r=a:=by unfold gd;rw[e];rfl
 exact⟨⟨d,by rw[this];exact e⟩,by rw[this];exact ha⟩
end
section
variable {N N2:List al}{r s:Int}
def Sp2 (N:List al)(r:Int)(N2:List al)(s:Int):PT->IP->IP->Prop
 |[],q,q'=>q=q'
 |st::p,q,q'=>∃x y T,∃(i:Nat) (u v:Int),gt N q.1=some x/\gt N2 q.2=some y/\GN N r N2 s x y=some T/\x.items[i]?=some u/\y.items[i]?=some v/\st=KI T i/\Sp2 N r N2 s p (u,v) q'
def PH {F:List IP->IP->Option (List IP×Option PT)}{T:List ζ}{m':List IP}{p:PT}:∀(xs ys:ε) (i:Nat) (met:List IP),W4 F T i xs ys met=some (m',some p)->∃(j:Nat) (u v:Int) (p':PT) (met' m2:List IP),xs[j]?=some u/\ys[j]?=some v/\p=KI T (i+j)::p'/\F met' (u,v)=some (m2,some p')
 |[],_,_,_,h=>by unfold W4 at h;cases h
 |_::_,[],_,_,h=>by unfold W4 at h;cases h
 |x::xs,y::ys,i,met,h=>by
  unfold W4 at h;cases e:F met (x,y) with
  |none=>rw[e] at h;cases h
  |some w=>
   obtain⟨m1,r1⟩:=w;rw[e] at h;cases r1 with
   |some q=>cases h;exact⟨0,x,y,q,met,_,rfl,rfl,rfl,e⟩
   |none=>
    obtain⟨j,u,v,p',a,b,h1,h2,h3,h4⟩:=PH xs ys (i+1) m1 h;exact⟨j+1,u,v,p',a,b,by simpa using h1,by simpa using h2,by rw[h3];congr 2;omega,h4⟩
def PI:∀(f:Nat) (met m':List IP) (q:IP) (p:PT),W5 N r N2 s f met q=some (m',some p)->p.length<f/\∃q',Sp2 N r N2 s p q q'/\∃x y,gt N q'.1=some x/\gt N2 q'.2=some y/\GN N r N2 s x y=none
 |0,_,_,_,_,h=>by cases h
 |f+1,met,m',q,p,h=>by
  unfold W5 at h;split at h
  .cases h
  .split at h
   .rename_i x y hx hy;split at h
    .rename_i e;cases h;exact⟨Nat.succ_pos _,q,rfl,x,y,hx,hy,e⟩
    .rename_i T e;obtain⟨j,u,v,p',a,b,h1,h2,h3,h4⟩:=PH _ _ _ _ h;obtain⟨l1,q',s1,z⟩:=PI f a b (u,v) p' h4;rw[aeq] at h3;subst h3;exact⟨Nat.succ_lt_succ l1,q',⟨x,y,T,j,u,v,hx,hy,e,h1,h2,rfl,s1⟩,z⟩
   .cases h
end
section
variable {N M A B:List al}{r s a b:Int}{φ ψ:Int->Int}
structure KU (N:List al) (r:Int):Prop where
 one:∀x∈N,∀(i j:Nat) k l,x.keys[i]?=some k->x.keys[j]?=some l->iR N r k=iR N r l->i=j
 ne:∀k,KN N k->iR N r k≠ofBytes []
theorem agr (fw:de N)(h0:Sh.gc N r=0):KU N r:=by
 have d:=fw.MY h0;have g:=fw.gv.1 h0;obtain⟨H,hb,hH⟩:=d.Mn;have dn:∀i x,KN N i->gt N i=some x->∀v,v∈x.keys\/v∈x.items->KN N v/\H v<H i:=λi x k hx v hv=>⟨k.step ⟨x,hx,hv⟩,hH i v (k.step ⟨x,hx,hv⟩) ⟨x,hx,hv⟩⟩;have kx:KX N (KN N) H:=al0 d.fm (λi k=>k.ir d.ix) dn;have mo:∀x∈N,oi x:=λx hx k=>d.map hx k;have J:INJ N N (KN N) (KN N) H H:=akl kx kx (λx hx y hy kx ky e=>by
  obtain⟨a,b⟩:=abq (λ_ _=>abk) (λ_ _=>hex_inj) (d.fm x hx) (d.fm y hy) kx ky e;exact⟨a,alZ b⟩) (λx hx h=>(Hd (d.fm x hx)).1 h) (λx hx h=>(Hd (d.fm x hx)).1 h) (λx hx h9 h11=>(Hd (d.fm x hx)).2 h9 h11) λx hx h9 h11=>(Hd (d.fm x hx)).2 h9 h11
 have lt:∀u,H u<100:=λu=>by have:=hb u;have:=fw.len;omega
 refine⟨λx hx i j k l hk hl e=>?_,λk kk e=>?_⟩
 .have kk:KN N k:=.key hx (IN hk);have kl:KN N l:=.key hx (IN hl);rw[EE fw h0 kk,EE fw h0 kl] at e;have e:=T8 e;have s1:=MU J dn mo 100 100 k l kk kl (lt k) (lt l) e;have s2:=MU J dn mo 100 100 l k kl kk (lt l) (lt k) e.symm;have pw:=List.pairwise_iff_getElem.1 (g.tw x hx);obtain⟨l1,e1⟩:=List.getElem?_eq_some_iff.1 hk;obtain⟨l2,e2⟩:=List.getElem?_eq_some_iff.1 hl;rcases ang i j with h|h|h
  .have:=pw i j l1 l2 h;rw[e1,e2] at this;exact absurd ⟨100,s2⟩ this
  .exact h
  .have:=pw j i l2 l1 h;rw[e1,e2] at this;exact absurd ⟨100,s1⟩ this
 .rw[EE fw h0 kk] at e;obtain⟨b,t,h,_⟩:=zI kx 100 k kk (lt k);have:=T8 e;rw[h] at this;cases this
noncomputable def fnd (κ:Int->ζ)(t:ζ):ε->Nat->Int->Int
 |[],_,c=>c
 |k::l,j,c=>fnd κ t l (j+1) (open Classical in if κ k=t then (j:Int) else c)
def abx {κ:Int->ζ}{t:ζ}:∀(l:ε) (j:Nat) (c:Int),(∀k∈l,κ k≠t)->fnd κ t l j c=c
 |[],_,_,_=>rfl
 |k::l,j,c,h=>by rw[fnd,AT (h k (by simp)),abx l _ _ λk hk=>h k (by simp[hk])]
def aby {κ:Int->ζ}{t:ζ}:∀(l:ε) (j:Nat) (c:Int) (i:Nat),(∃k,l[i]?=some k/\κ k=t)->(∀(m:Nat) k,l[m]?=some k->κ k=t->m=i)->fnd κ t l j c=((j+i:Nat):Int)
 |[],_,_,_,⟨k,h,_⟩,_=>by simp at h
 |k::l,j,c,0,⟨k',h,e⟩,u=>by
  cases h;rw[fnd,By e,abx l _ _ λk2 hk e2=>by
   obtain⟨m,hm⟩:=List.mem_iff_getElem?.1 hk;have:=u (m+1) k2 (by simpa using hm) e2;omega]
  rfl
 |k::l,j,c,i+1,⟨k',h,e⟩,u=>by
  rw[fnd,aby l (j+1) _ i ⟨k',by simpa using h,e⟩ λm k2 hm e2=>by have:=u (m+1) k2 (by simpa using hm) e2;omega]
  congr 1;omega
noncomputable def yF (N:List al)(r:Int)(x:al)(st:Int×ζ):Int:=open Classical in if st.2=ofBytes [] then st.1 else fnd (iR N r) st.2 x.keys 0 (-1)
noncomputable def wkF (N:List al)(r:Int):Int->PT->Option Int
 |a,[]=>some a
 |a,st::p=>match gt N a with
  |none=>none
  |some x=>match gt x.items (yF N r x st) with
   |none=>none
   |some u=>wkF N r u p
def step_ok (fw:de N)(h0:Sh.gc N r=0)(U:KU N r)(S:Nrm N A φ (iR A a)){u v:Int}{x x':al}(hx:gt N u=some x)(hx':gt A (φ u)=some x'){i:Nat}(hv:x'.items[i]?=some v) :
  ∃w,v=φ w/\IR N.length w/\gt x.items (yF N r x (KI (x'.keys.map (iR A a)) i))=some w:=by
 have d:=fw.MY h0;have hm:=aq hx;obtain⟨y,gy,a1,a2,a3,a4,a5⟩:=S.nd u x hx;rw[hx'] at gy;cases gy;rw[a4,abF] at hv;cases q:(cn N u)[i]? with
 |none=>rw[q] at hv;cases hv
 |some c=>
  rw[q] at hv;cases hv;have rc:=eQ (IN (DH hx▸q));obtain⟨w,hw⟩:=jD (l:=x.items) rc.1 rc.2;have nw:nth x.items c=w:=by unfold nth;rw[hw];rfl
  refine⟨w,by show φ (nth x.items c)=φ w;rw[nw],(d.ix x hm).2 w (aq hw),?_⟩
  suffices yF N r x (KI (x'.keys.map (iR A a)) i)=c by rw[this];exact hw
  by_cases k:x.kind=10
  .have hl:=d.map hm k;obtain⟨kx,hk⟩:=jD (l:=x.keys) rc.1 (by rw[hl];exact rc.2);have nk:nth x.keys c=kx:=by unfold nth;rw[hk];rfl
   have kk:KN N kx:=.key hm (aq hk);have e1:KI (x'.keys.map (iR A a)) i=(0,iR N r kx):=by
    unfold KI;rw[a5,By k,akr,abF,q];show ((0:Int),iR A a (φ (nth x.keys c)))=_;rw[nk,S.ky kx kk,EE fw h0 kk]
   obtain⟨c,rfl⟩:∃n:Nat,c=n:=⟨c.toNat,by omega⟩;have gk:=(aB hk).2;rw[OF] at gk;rw[e1];unfold yF;rw[AT (U.ne kx kk),aby x.keys 0 (-1) c ⟨kx,gk,rfl⟩ λm k2 hm2 e=>U.one x hm m c k2 kx hm2 gk e];simp
  .have e1:KI (x'.keys.map (iR A a)) i=((i:Int),ofBytes []):=by rw[a5,AT k];rfl
   rw[e1];unfold yF;rw[By rfl];rw[Jb hx (λq=>k q.1)] at q;have il:=aZ q;rw[lG] at il;rw[mO il] at q;exact abL q
theorem Ue (f1:de N)(f2:de M)(c1:Sh.gc N r=0)(c2:Sh.gc M s=0)(S:Nrm N A φ (iR A a))(S':Nrm M B ψ (iR B b)):∀(p:PT) (u w:Int) (q:IP),IR N.length u->IR M.length w->Sp2 A a B b p (φ u,ψ w) q->∃u' w',q=(φ u',ψ w')/\IR N.length u'/\IR M.length w'/\wkF N r u p=some u'/\wkF M s w p=some w'
 |[],u,w,q,hu,hw,h=>⟨u,w,h.symm,hu,hw,rfl,rfl⟩
 |st::p,u,w,q,hu,hw,h=>by
  obtain⟨x',y',T,i,v1,v2,g1,g2,e,i1,i2,rfl,h⟩:=h;obtain⟨x,hx⟩:=cI (l:=N) rfl hu;obtain⟨y,hy⟩:=cI (l:=M) rfl hw;have e1:T=x'.keys.map (iR A a)/\T=y'.keys.map (iR B b):=by
   unfold GN at e
   grind
  obtain⟨w1,rfl,r1,t1⟩:=step_ok f1 c1 (agr f1 c1) S hx g1 i1;obtain⟨w2,rfl,r2,t2⟩:=step_ok f2 c2 (agr f2 c2) S' hy g2 i2;obtain⟨u',w',e2,q1,q2,q3,q4⟩:=Ue f1 f2 c1 c2 S S' p w1 w2 q r1 r2 h;refine⟨u',w',e2,q1,q2,?_,?_⟩
  .rw[wkF,hx];simp only;rw[e1.1,t1];exact q3
  .rw[wkF,hy];simp only;rw[e1.2,t2];exact q4
end
section
variable {N M A B N1 M1:List al}{r s u w r1 s1:Int}{φ ψ χ:Int->Int}
theorem PJ (g:GV N r)(fw:de N)(hu:IR N.length u):∃N' r',kept KF N u=some (N',r'):=by
 have hcf:cf (List.replicate N.length false)=N.length:=by unfold cf;simp
 have hk1:N.length*(80+2)+1<=KF:=by
  have:=fw.k0
  grind [gK,Nat.mul_le_mul_left,Nat.add_mul]
 obtain⟨ms,em,pm⟩:=(BH (n:=N.length) (W:=λ_ x=>iC N u x) g.ix fw.bd.2.2 (λt u w q e=>.step q e) KF).1 u (List.replicate N.length false) (by simp) hu (by rw[hcf];omega);have hml:ms.length=N.length:=by rw[pm.len];simp
 have hAl:(rL ms 0).length=N.length:=by rw[BG,hml]
 obtain⟨r',hr⟩:=cI (l:=rL ms 0) hAl hu;obtain⟨R,hR⟩:=Rz (A:=rL ms 0) (ms:=ms) (X:=N) hml (by rw[hAl];exact g.ix);exact⟨R,r',by unfold kept;rw[em];simp only;rw[hr,hR]⟩
def abz (I:Bo N u N1 χ)(g:GV N r)(hu:IR N.length u)(fw:de N):de N1:=
 have n1:∀x'∈N1,∃x∈N,vO χ x x':=λx' h=>let ⟨_,x,_,hx,_,E⟩:=I.node g hu h;⟨x,aq hx,E⟩
 ⟨abK I.len fw.len,λx' h=>by
  obtain⟨x,hx,E⟩:=n1 x' h;rw[E.il,E.kl (g.yC hx) (qc (g.fm x hx))];exact fw.map x hx,λx' h=>by
  obtain⟨x,hx,E⟩:=n1 x' h;rw[E.t];exact fw.txt x hx⟩
def KQ {β:Type}:∀{l m:List (β×β)},(l.flatMap λq=>[q.1,q.2])=(m.flatMap λq=>[q.1,q.2])->l=m
 |[],[],_=>rfl
 |[],_::_,h=>by simp at h
 |_::_,[],h=>by simp at h
 |(a,b)::l,(c,d)::m,h=>by
  simp only[adr,abE,abJ,adS] at h;rw[h.1,h.2.1,KQ h.2.2]
theorem Uf (fw:de N)(h0:Sh.gc N r=0)(S:Nrm N A φ (iR A 0))(hu:IR N.length u)(ek:kept KF N u=some (N1,r1)):de N1/\Sh.gc N1 r1=0/\∃x' x1',gt A (φ u)=some x'/\gt (mP N1 r1) 0=some x1'/\lbX (mP N1 r1) 0 x1'=lbX A 0 x':=by
 have d:=fw.MY h0;have g:=fw.gv.1 h0;obtain⟨χ,I,rfl,_⟩:=Pf g fw.bd.2.2 fw.k0 hu ek;have f1:=abz I g hu fw;have g1:=I.gv g d hu;have c1:=f1.gv.2 g1;have d1:=f1.MY c1;obtain⟨φ1,z1,S1⟩:=RL f1 c1;obtain⟨H,K,hb⟩:=fw.ko h0;obtain⟨x,hx⟩:=cI (l:=N) rfl hu;obtain⟨x1,hx1,E⟩:=I.nd u x .refl hx;obtain⟨x',gx,a1,a2,a3,a4,a5⟩:=S.nd u x hx;obtain⟨x1',gx1,b1,b2,b3,b4,b5⟩:=S1.nd _ x1 hx1;rw[z1] at gx1;refine⟨f1,c1,x',x1',gx,gx1,?_⟩;have hm:=aq hx;have hm1:=aq hx1;have ks:x1'.keys.map (iR (mP N1 (χ u)) 0)=x'.keys.map (iR A 0):=by
  rw[a5,b5,E.k];by_cases k:x.kind=10
  .have k1:x1.kind=10:=by rw[E.k,k]
   rw[By k,By k,akr,akr];have e:=Ps K hb I d1 .refl hx hx1 E;unfold rK at e;rw[zH k1,zH k,List.map_flatMap] at e;have e:EC x1 (cn N1 (χ u))=(EC x (cn N u)).map λq=>(χ q.1,χ q.2):=by
    rw[DH hx,DH hx1];refine KQ ?_;rw[e,anr];rfl
   have e:=akL (List.map λq=>eZ N1 100 q.1) e;unfold EC at e;simp only[akr] at e;have l1:(cn N1 (χ u)).map (iR (mP N1 (χ u)) 0∘λa=>φ1 (nth x1.keys a))=((cn N1 (χ u)).map λa=>eZ N1 100 (nth x1.keys a)).map ofBytes:=by
    rw[akr];refine alA λa ha=>?_;have ra:=eQ (DH hx1▸ha);exact S1.ky _ (.key hm1 (bW ra.1 (by rw[d1.map hm1 k1];exact ra.2)))
   have l2:(cn N u).map (iR A 0∘λa=>φ (nth x.keys a))=((cn N u).map λa=>eZ N1 100 (χ (nth x.keys a))).map ofBytes:=by
    rw[akr];refine alA λa ha=>?_;have ra:=eQ (DH hx▸ha);have m:=bW (l:=x.keys) ra.1 (by rw[d.map hm k];exact ra.2);show iR A 0 (φ (nth x.keys a))=ofBytes (eZ N1 100 (χ (nth x.keys a)));rw[S.ky _ (.key hm m),Hb K hb d.t11 I d1 100 _ (.one ⟨x,hx,.inl m⟩) ((d.ix x hm).1 _ m)]
   rw[l1,l2]
   congr 1
  .rw[AT k,AT k];rfl
 unfold lbX;rw[ks,a1,a2,a3,a4,b1,b2,b3,b4,E.k,E.t,E.o,aeI,aeI,kB hx,kB hx1,E.il]
def PK (f1:de N1)(f2:de M1)(c1:Sh.gc N1 r1=0)(c2:Sh.gc M1 s1=0){x y:al}(hx:gt (mP N1 r1) 0=some x)(hy:gt (mP M1 s1) 0=some y)(ne:lbX (mP N1 r1) 0 x≠lbX (mP M1 s1) 0 y):eqG N1 r1 M1 s1=false/\Xf N1 r1 M1 s1=some []:=by
 refine⟨?_,?_⟩
 .cases e:eqG N1 r1 M1 s1 with
  |false=>rfl
  |true=>
   have:=(Ud.1 e).2.2 [];unfold lb wk at this;simp only[hx,hy,aku,abH] at this;exact absurd this ne
 .have m:GN (mP N1 r1) 0 (mP M1 s1) 0 x y=none:=by
   cases e:GN (mP N1 r1) 0 (mP M1 s1) 0 x y with
   |none=>rfl
   |some T=>exact absurd (MP.1 (by rw[e];rfl)) ne
  unfold Xf JQ T7 W5;simp only[amh,aed,hx,hy,m]
theorem points (f1:de N)(f2:de M)(c1:Sh.gc N r=0)(c2:Sh.gc M s=0){p:PT}(e:Xf N r M s=some p):p.length<1602/\∃u w N1 r1 M1 s1,wkF N r r p=some u/\wkF M s s p=some w/\IR N.length u/\IR M.length w/\kept KF N u=some (N1,r1)/\kept KF M w=some (M1,s1)/\de N1/\de M1/\eqG N1 r1 M1 s1=false/\Xf N1 r1 M1 s1=some []/\Sh.gc N1 r1=0/\Sh.gc M1 s1=0:=by
 have d1:=f1.MY c1;have d2:=f2.MY c2;obtain⟨φ,z1,S1⟩:=RL f1 c1;obtain⟨ψ,z2,S2⟩:=RL f2 c2;obtain⟨m',er,_⟩:=MQ (r:=0) (s:=0) (wW d1 f1) (wW d2 f2) (BM d1) (BM d2) (ir0 (pG d1) d1.rt) (ir0 (pG d2) d2.rt);unfold Xf at e;rw[e] at er;obtain⟨pl,q,sp,x,y,hx,hy,hm⟩:=PI _ _ _ _ _ er;obtain⟨u,w,rfl,hu,hw,w1,w2⟩:=Ue f1 f2 c1 c2 S1 S2 p r s q d1.rt d2.rt (by rw[z1,z2];exact sp);obtain⟨N1,r1,k1⟩:=PJ (f1.gv.1 c1) f1 hu;obtain⟨M1,s1,k2⟩:=PJ (f2.gv.1 c2) f2 hw;obtain⟨g1,h1,x',x1,t1,t2,t3⟩:=Uf f1 c1 S1 hu k1;obtain⟨g2,h2,y',y1,t4,t5,t6⟩:=Uf f2 c2 S2 hw k2;simp only at hx hy;rw[t1] at hx;cases hx;rw[t4] at hy;cases hy;obtain⟨e1,e2⟩:=PK g1 g2 h1 h2 t2 t5 λq=>by
  rw[t3,t6] at q;have:=MP.2 q;rw[hm] at this;cases this
 exact⟨pl,u,w,N1,r1,M1,s1,w1,w2,hu,hw,k1,k2,g1,g2,e1,e2,h1,h2⟩
end
section
variable {α β:Type}{h h' h0:aj}{L:List bJ}{N:List al}{Sk:Sl}{root:Int}{Q:β->aj->Prop}
abbrev GB (b:Nat)(Sk:Sl)(root:Int):bJ:=.au b [aC Sk,vi root] ah
theorem akn (G:kP h0 Sk N){x0:Nat}(hN:N.length<=40) :
  ∀(n i:Nat) (p q:Int) (h:aj),N.length-i<n->i<=N.length->(∀(j:Nat) (x:al),j<i->N[j]?=some x->x.text.size<=100/\x.keys.length<=80/\x.items.length<=80)->Z h0 h (GB x0 Sk root::L) ->
   Wp (iz n (ak x0) p q (i:Int)) h λy h'=>(∀w,y=.inl w->∀(j:Nat) (x:al),N[j]?=some x->x.text.size<=100/\x.keys.length<=80/\x.items.length<=80)/\(∀b,y=.inr b->b=false)/\Z h0 h' (GB x0 Sk root::L):=by
 intro n
 induction n with
 |zero=>intro i p q h h1;omega
 |succ n ih=>
  intro i p q h h1 h2 hf z;rw[xK];unfold oC;refine z.ld 0 (o:=0) (l:=.sl) (x:=Sk) ?_;rw[G.len];by_cases hi:i<N.length
  .rw[By (by simp;omega)];obtain⟨x,hx⟩:=gS hi;refine z.ld 0 (o:=0) (l:=.sl) (x:=Sk) ?_;refine G.at z (by omega) (by simpa using hx) λa ks is nd ik ii=>nd.fH ?_;refine z.node λx2 h2' z=>?_;have fin:Wp (AI (Sum.inr false:(Int×Int)⊕Bool)) h2' λy h'=>(∀w,y=.inl w->∀(j:Nat) (x:al),N[j]?=some x->x.text.size<=100/\x.keys.length<=80/\x.items.length<=80)/\(∀b,y=.inr b->b=false)/\Z h0 h' (GB x0 Sk root::L):=by
    rw[af]
    grind [z.drop]
   refine z.ld 0 (o:=1) (l:=.str) (x:=x.text) ?_;by_cases c1:(100:Int)<x.text.size
   .rw[By (by simpa using c1)];exact fin
   rw[AT (by simpa using c1)];refine z.ld 0 (o:=3) (l:=.sl) (x:=ks) ?_;rw[ik.len];by_cases c2:(80:Int)<x.keys.length
   .rw[By (by simpa using c2)];exact fin
   rw[AT (by simpa using c2)];refine z.ld 0 (o:=4) (l:=.sl) (x:=is) ?_;rw[ii.len];by_cases c3:(80:Int)<x.items.length
   .rw[By (by simpa using c3)];exact fin
   rw[AT (by simpa using c3)];unfold lP;refine z.ld 0 (o:=3) (l:=.sl) (x:=ks) (z.ld 0 (o:=4) (l:=.sl) (x:=is) (z.ld 0 (o:=1) (l:=.str) (x:=x.text) ?_));rw[wX (B:=40) (by omega) (by omega)];refine ih (i+1) _ _ h2' (by omega) (by omega) (λj y hj hy=>?_) z.drop
   grind
  .rw[AT (by simp;omega),af]
   grind
theorem PL (G:kP h0 Sk N)(z:Z h0 h L){n:Nat}(hn:50<n):Wp (jX n (Sk,root)) h λy h'=>(y=true->de N/\∀x∈N,x.text.size<=100)/\Z h0 h' L:=by
 unfold jX;refine z.new λx0 h1 z _=>?_;refine z.ld 0 (o:=0) (l:=.sl) (x:=Sk) ?_;rw[G.len];by_cases c1:(40:Int)<N.length
 .rw[By (by simpa using c1),af];exact⟨λh=>(by cases h),z.drop⟩
 rw[AT (by simpa using c1),ag];refine (akn G (by omega) n 0 0 0 h1 (by omega) (by omega) (λj x hj=>by omega) z).mono λy h2 hy=>?_;obtain⟨f1,f2,z⟩:=hy;cases y with
 |inl w=>
  have ft:∀x∈N,x.text.size<=100:=λx hx=>by obtain⟨j,hj⟩:=List.mem_iff_getElem?.1 hx;exact (f1 w rfl j x hj).1
  have fg:de N/\∀x∈N,x.text.size<=100:=⟨⟨by omega,λx hx=>by
   obtain⟨j,hj⟩:=List.mem_iff_getElem?.1 hx
   grind,λx hx=>by have:=ft x hx;omega⟩,ft⟩
  show Wp (if _ then _ else _) h2 _;split
  .rw[af];exact⟨λ_=>fg,z.drop⟩
  .rw[af];exact⟨λ_=>fg,z.drop⟩
 |inr b=>
  show Wp (AI b) h2 _;rw[af];exact⟨λh=>(by rw[f2 b rfl] at h;cases h),z.drop⟩
def ako {p:PT}{i:Nat}{x:Int×ζ}(hx:p[i]?=some x):((FL p).drop (i*2)).take 2=Xe x:=by
 induction p generalizing i with
 |nil=>simp at hx
 |cons a p ih=>
  cases i with
  |zero=>simp at hx;subst hx;rfl
  |succ i=>
   have:=ih (i:=i) (by simpa using hx);rw[show (i+1)*2=i*2+2 by omega];exact this
def rY.KI {s:Sl}{p:PT}{g:Nat}(r:rY h s 2 (FL p) g){i:Nat}{x:Int×ζ}(hx:p[i]?=some x){f:Addr->M β}(q:∀a,Cl h a (Xe x) g->Wp (f a) h Q):Wp (sh (mc s (i:Int) 2) f) h Q:=by
 have hl:=r.1;rw[He] at hl;have hlt:=(List.getElem?_eq_some_iff.1 hx).1;refine r.ix (by omega) (by omega) λa c=>q a ?_;rw[OF,ako hx] at c;exact c
end
section
variable {h h' h0:aj}{L:List bJ}{N N2:List al}{s1 s2:Sl}{r s:Int}
def abA {n:Nat}(h:MV<=n):fuK<=n/\KF+4*80+65600<n/\KF+66000<n:=
 TB (abK (abK (alf _ _) (RJ T7)) (Ub h).1)
def aeK (z:Z h0 h L)(G:kP h0 s1 N)(fw:de N)(c:gc N r=0){n:Nat}(hn:MV<=n):Wp (p8 n (s1,r)) h λx h'=>x=JO N r 0 (gd N r)/\Z h0 h' L:=by
 obtain⟨m1,m2,m3⟩:=abA hn;obtain⟨⟨d,hd⟩,ha⟩:=akm fw c;exact (Ry z.wf (G.fr z.fr) fw (k:=KF) fw.k0 (by rw[<-c];exact fw.gc r) (λ_=>hd) (λ_ e=>aeJ fw c (ha.1 e)) m1 m3).mono λx h' hx=>⟨hx.1,z.pure hx.2⟩
def abB (z:Z h0 h L)(G:kP h0 s1 N)(G':kP h0 s2 N2)(f1:de N)(f2:de N2){n:Nat}(hn:MV<=n):Wp (kA n (s1,r) (s2,s)) h λb h'=>(b=true↔gc N r=0/\gc N2 s=0)/\Z h0 h' L:=by
 have n3:=(Ub hn).2.2;have nq:=(TB (aa2 fuQ)).2.1;unfold kA;refine z.new λx0 h1 z _=>z.new λx1 h2 z _=>?_;refine z.fH 1 (ls:=[.sl,li]) (x:=(s1,r)) ?_;rw[ag];refine (wS z G f1.bd f1.ht (k:=KF) (n:=n) (by omega) (f1.gc r)).mono λy h3 hy=>?_;obtain⟨rfl,z⟩:=hy;by_cases c1:gc N r=0
 .rw[By (by simpa using c1)];refine z.fH 0 (ls:=[.sl,li]) (x:=(s2,s)) ?_;rw[ag];refine (wS z G' f2.bd f2.ht (k:=KF) (n:=n) (by omega) (f2.gc s)).mono λy h4 hy=>?_;obtain⟨rfl,z⟩:=hy;exact af.2 ⟨by simp[c1],z.drop.drop⟩
 .rw[AT (by simpa using c1)];exact af.2 ⟨by simp[c1],z.drop.drop⟩
end
section
variable {α β:Type}{h h' h0:aj}{L:List bJ}{N:List al}{s ps:Sl}{r:Int}{p:PT}{Q:β->aj->Prop}
def PM {kb:Nat}(z:Z h0 h (.free kb::L))(G:kP h0 s N)(fw:de N)(c:gc N r=0){v:Int}(kv:KN N v){n:Nat}(hn:MV<=n){f:ζ×Int->M β}(q:∀h',Z h0 h' L->Wp (f (iR N r v,0)) h' Q) :
  Wp (sh (kW n (s,r) v) λx3=>sh (iB (some kb) ah [aI,vi 0]) λx4=>sh (rE (ak x4) [aC x3.1.1,vi x3.1.2]) λ_=>sh (bK [.sl,li] (ak x4)) λ(x6:Sl×Int)=>sh (p8 n (x6.1,x6.2)) f) h Q:=by
 obtain⟨m1,m2,m3⟩:=abA hn;have d:=fw.MY c;have hv:=kv.ir d.ix;obtain⟨N',r',φ,ek,I,_,g',fw',_,kr⟩:=Kw fw c kv;have c':=fw'.gv.2 g';rw[ag];refine (Mi z G fw.bd fw.ht (k:=KF) m2 (by rw[<-c];exact fw.gc r) hv.1 hv.2 ek).mono λx h1 hx=>?_;obtain⟨out,g,R,rfl,eR,z1⟩:=hx;have z1:Z h0 h1 (.free kb::(.ps out 5 ar ((R.map KR.r).flatMap cm.enc) g::(KO R++L))):=z1.perm (by
  have:((bJ.ps out 5 ar ((R.map KR.r).flatMap cm.enc) g::KO R)++.free kb::L).Perm (.free kb::((.ps out 5 ar ((R.map KR.r).flatMap cm.enc) g::KO R)++L)):=amg;exact this)
 refine z1.newAt 0 λh2 z2=>z2.st 0 (cs':=[aC out,vi r']) λh3 z3=>?_;refine z3.fH 0 (x:=((out,r'):cF [.sl,li])) ?_;have z3:Z h0 h3 (.au kb [aC out,vi r'] ah::(.ps out 5 ar ((R.map KR.r).flatMap cm.enc) g::(KO R++L))):=z3;have Gs:kP h3 out N':=by rw[<-eR];exact Mh z3.drop
 rw[ag];refine (aeK (Z.start z3.wf) Gs fw' c' hn).mono λx h4 hx=>?_;obtain⟨rfl,zz⟩:=hx;rw[kr];exact q _ ((z3.pure zz.fr).drop.drop.sub (ajY _ _))
def aeL (G:kP h0 s N)(fw:de N)(c:gc N r=0){g:Nat}(rp:rY h0 ps 2 (FL p) g){i:Nat}{st:Int×ζ}(hst:p[i]?=some st){x:al}(hx:x∈N){ks is:Sl}(ik:IL h0 ks x.keys){xb x0:Nat}:∀(n j:Nat) (h:aj) (cur:Int),MV+(x.keys.length-j)+1<=n->j<=x.keys.length ->
  Z h0 h (.au xb [vi x.kind,.string x.text,.bool x.ord,aC ks,aC is] ar::.au x0 [aC s,vi r] ah::L) ->
  Wp (jg n ps (ak x0) (i:Int) (ak xb) cur (j:Int)) h λy h'=>y=fnd (iR N r) st.2 (x.keys.drop j) j cur/\Z h0 h' (.au xb [vi x.kind,.string x.text,.bool x.ord,aC ks,aC is] ar::.au x0 [aC s,vi r] ah::L):=by
 intro n
 induction n with
 |zero=>intro j h cur h1;omega
 |succ n ih=>
  intro j h cur h1 h2 z;have hb:=(fw.map x hx).2;rw[w8];unfold nM;refine z.ld 0 (o:=3) (l:=.sl) (x:=ks) ?_;rw[ik.len];by_cases hj:j<x.keys.length
  .rw[By (by simpa using hj)];obtain⟨k,hk⟩:=gS (l:=x.keys) hj;have kk:KN N k:=.key hx (IN hk);refine z.eA (n:=13) [10] (by decide) (by simp) λkb h2' z=>?_;refine z.fH 2 (x:=((s,r):cF [.sl,li])) (z.ld 1 (o:=3) (l:=.sl) (x:=ks) ?_);refine (ik.fr z.fr).ix (by omega) (by simpa using hk) λ_ _ c1=>c1.tC (l:=li) rfl rfl ?_;refine PM z G fw c kk (n:=n) (by omega) λh3 z=>?_;rw[By (by rfl)];refine rY.KI (rp.fr z.fr λx=>x.elim) hst λa ca=>ca.ld (o:=1) (l:=.str) (x:=st.2) rfl rfl ?_;rw[drop_cons hk,fnd];by_cases e:iR N r k=st.2
   .rw[By ((xy _ _).2 e),By e,wX (B:=80) (by omega) (by omega)];exact ih (j+1) h3 _ (by omega) (by omega) z
   .rw[AT (λq=>e ((xy _ _).1 q)),AT e,wX (B:=80) (by omega) (by omega)];exact ih (j+1) h3 _ (by omega) (by omega) z
  .rw[AT (by simpa using hj),abG (by omega)];exact af.2 ⟨rfl,z⟩
def aeM (G:kP h0 s N)(fw:de N)(c:gc N r=0){g:Nat}(rp:rY h0 ps 2 (FL p) g)(hp:p.length<1602){x0:Nat}{u:Int}:∀(n i:Nat) (h:aj) (a:Int),MV+200+(p.length-i)<=n->i<=p.length->IR N.length a->wkF N r a (p.drop i)=some u->Z h0 h (.au x0 [aC s,vi r] ah::L) ->
  Wp (gJ n ps (ak x0) a (i:Int)) h λy h'=>y=.inl u/\Z h0 h' (.au x0 [aC s,vi r] ah::L):=by
 have d:=fw.MY c;have pl:ps.len=p.length:=by have:=rp.1;rw[He] at this;omega
 intro n
 induction n with
 |zero=>intro i h a h1;omega
 |succ n ih=>
  intro i h a h1 h2 ha hw z;rw[w9];unfold nN;rw[pl];by_cases hi:i<p.length
  .rw[By (by simpa using hi)];obtain⟨st,hst⟩:=gS (l:=p) hi;obtain⟨x,hx⟩:=cI (l:=N) rfl ha;have hm:=aq hx;have hb:=fw.map x hm;rw[drop_cons hst,wkF,hx] at hw;simp only at hw;cases hk:gt x.items (yF N r x st) with
   |none=>rw[hk] at hw;cases hw
   |some v=>
   rw[hk] at hw;simp only at hw;obtain⟨k0,kl⟩:=aB hk;have kl':=aZ kl;refine z.ld 0 (o:=0) (l:=.sl) (x:=s) ?_;refine G.at z (aB hx).1 (aB hx).2 λb ks is nd ik ii=>nd.fH ?_;refine z.node λxb h3 z=>?_;refine rY.KI (rp.fr z.fr λx=>x.elim) hst λa1 c1=>c1.ld (o:=0) (l:=li) (x:=st.1) rfl rfl ?_;refine rY.KI (rp.fr z.fr λx=>x.elim) hst λa2 c2=>c2.ld (o:=1) (l:=.str) (x:=st.2) rfl rfl ?_;have fin:∀{h4:aj},Z h0 h4 (.au xb [vi x.kind,.string x.text,.bool x.ord,aC ks,aC is] ar::.au x0 [aC s,vi r] ah::L) ->
     Wp (if decide (yF N r x st<0) then AI (Sum.inr (0,false)) else sh (eU .sl ((ak xb).plus 4)) λx10=>if decide ((x10.len:Int)<=yF N r x st) then AI (Sum.inr (0,false)) else sh (eU .sl ((ak xb).plus 4)) λx11=>sh (mc x11 (yF N r x st) 1) λx12=>sh (eU li x12) λx13=>gJ n ps (ak x0) x13 (IntKind.i64.wrap ((i:Int)+1))) h4 λy h'=>y=.inl u/\Z h0 h' (.au x0 [aC s,vi r] ah::L):=λ{h4} z=>by
    rw[AT (by simp;omega)];refine z.ld 0 (o:=4) (l:=.sl) (x:=is) ?_;rw[ii.len,AT (by simp;omega)];refine z.ld 0 (o:=4) (l:=.sl) (x:=is) ?_;refine (ii.fr z.fr).ix k0 kl λ_ _ c1=>c1.tC (l:=li) rfl rfl ?_;rw[wX (B:=1602) (by omega) (by omega)];exact ih (i+1) h4 v (by omega) (by omega) ((d.ix x hm).2 v (IN kl)) hw z.drop
   by_cases e:st.2=ofBytes []
   .rw[AT (by rw[(xy _ _).2 e];decide)];have:st.1=yF N r x st:=(by unfold yF;rw[By e]);rw[this];exact fin z
   .have en:mQ st.2 (ofBytes [])=false:=by
     cases q:mQ st.2 (ofBytes []) with
     |false=>rfl
     |true=>exact absurd ((xy _ _).1 q) e
    rw[By (by rw[en];rfl),ag];refine (aeL G fw c rp hst hm ik n 0 _ (-1) (by omega) (by omega) z).mono λy h4 hy=>?_;obtain⟨rfl,z⟩:=hy;have:fnd (iR N r) st.2 (x.keys.drop 0) 0 (-1)=yF N r x st:=(by unfold yF;rw[AT e,ajb]);rw[this];exact fin z
  .rw[AT (by simpa using hi)];rw[abG (by omega)] at hw;cases hw;exact af.2 ⟨rfl,z⟩
def Ug (hw:WF h)(G:kP h s N)(fw:de N)(c:gc N r=0){g:Nat}(rp:rY h ps 2 (FL p) g)(hp:p.length<1602){u:Int}(e:wkF N r r p=some u){n:Nat}(hn:MV+2000<=n):Wp (jo n (s,r) ps) h λy h'=>y=(u,true)/\Fr (λ_=>False) h h':=by
 unfold jo;refine (Z.start hw).new λx0 h1 z _=>?_;refine z.ld 0 (o:=1) (x:=r) ?_;rw[ag];refine (aeM G fw c rp hp n 0 h1 r (by omega) (by omega) (fw.MY c).rt (by rw[ajb];exact e) z).mono λy h2 hy=>?_;obtain⟨rfl,z⟩:=hy;exact af.2 ⟨rfl,z.fr⟩
end
section
variable {h h' h0:aj}{L:List bJ}{N N2 N1 M1:List al}{s1 s2:Sl}{r s u w r1 t1:Int}{x0 x1:Nat}
theorem W8 (hw:WF h)(G:kP h s1 N)(G':kP h s2 N2)(l0:LB h x0 [aC s1,vi r] ah)(l1:LB h x1 [aC s2,vi s] ah)(f1:de N)(f2:de N2)(c1:gc N r=0)(c2:gc N2 s=0)(hu:IR N.length u)(hv:IR N2.length w)(k1:kept KF N u=some (N1,r1))(k2:kept KF N2 w=some (M1,t1))(g1:de N1)(g2:de M1)
  (d1:gc N1 r1=0) (d2:gc M1 t1=0) (e1:eqG N1 r1 M1 t1=false) (e2:Xf N1 r1 M1 t1=some []) {n:Nat} (hn:MV<=n):Wp (gP n (ak x0) (ak x1) u w) h λy _=>y=true:=by
 obtain⟨m1,m2,m3⟩:=abA hn;have z:=Z.start hw;unfold gP;refine (LB.cl (l0.fr z.fr λx=>x)).fH (x:=((s1,r):cF [.sl,li])) rfl ?_;rw[ag];refine (Mi z G f1.bd f1.ht (k:=KF) m2 (by rw[<-c1];exact f1.gc r) hu.1 hu.2 k1).mono λx h1 hx=>?_;obtain⟨out,g,R,rfl,eR,z⟩:=hx;refine z.new λx2 h2 z _=>z.st 0 (cs':=[aC out,vi r1]) λh3 z=>?_;refine (LB.cl (l1.fr z.fr λx=>x)).fH (x:=((s2,s):cF [.sl,li])) rfl ?_;rw[ag];refine (Mi z G' f2.bd f2.ht (k:=KF) m2 (by rw[<-c2];exact f2.gc s) hv.1 hv.2 k2).mono λx h4 hx=>?_;obtain⟨out2,g',R2,rfl,eR2,z⟩:=hx;refine z.new λx6 h5 z _=>z.st 0 (cs':=[aC out2,vi t1]) λh6 z=>?_;have z:Z h h6 (.au x6 [aC out2,vi t1] ah::(.ps out2 5 ar ((R2.map KR.r).flatMap cm.enc) g'::(KO R2++(.au x2 [aC out,vi r1] ah::(.ps out 5 ar ((R.map KR.r).flatMap cm.enc) g::(KO R++[])))))):=z;have A2:kP h6 out2 M1:=by rw[<-eR2];exact Mh z.drop
 have A1:kP h6 out N1:=by
  rw[<-eR];exact Mh (L:=[]) (z.sub (List.Sublist.cons _ (List.Sublist.cons _ ((List.Sublist.cons _ (ai3 _)).trans (ajY _ _)))))
 have b6:LB h6 x6 [aC out2,vi t1] ah:=z.get 0 rfl;have b2:LB h6 x2 [aC out,vi r1] ah:=(z.own (.au x2 [aC out,vi r1] ah) (by simp)).1;have z:=Z.start z.wf;refine (LB.cl (b2.fr z.fr λx=>x)).fH (x:=((out,r1):cF [.sl,li])) rfl ?_;refine (LB.cl (b6.fr z.fr λx=>x)).fH (x:=((out2,t1):cF [.sl,li])) rfl ?_;rw[ag];refine (PG z A1 A2 g1 g2 hn).mono λv h7 hv=>?_;obtain⟨fi,fr⟩:=hv;have fi:=fi.1 ⟨d1,d2⟩;rw[e2] at fi;obtain⟨v2,gv,rv⟩:=fi;have vl:v.1.len=0:=by
  have:=rv.1;simp[FL] at this;omega
 have z:=z.pure fr;rw[By (by rfl),By (by rfl)];refine (LB.cl (b2.fr z.fr λx=>x)).fH (x:=((out,r1):cF [.sl,li])) rfl ?_;refine (LB.cl (b6.fr z.fr λx=>x)).fH (x:=((out2,t1):cF [.sl,li])) rfl ?_;rw[ag];refine (PF z A1 A2 g1 g2 hn).mono λy h8 hy=>?_;rw[hy.1,e1,By (by rfl),By v2];exact af.2 (by rw[vl];rfl)
theorem W9 (hw:WF h)(G:kP h s1 N)(G':kP h s2 N2)(l0:LB h x0 [aC s1,vi r] ah)(l1:LB h x1 [aC s2,vi s] ah)(f1:de N)(f2:de N2)(c1:gc N r=0)(c2:gc N2 s=0){n:Nat}(hn:MV+2000<=n):Wp (gQ n (ak x0) (ak x1)) h λy _=>y=true:=by
 have hn':MV<=n:=abK (alf _ _) hn;have z:=Z.start hw;unfold gQ;refine (LB.cl (l0.fr z.fr λx=>x)).fH (x:=((s1,r):cF [.sl,li])) rfl ?_;refine (LB.cl (l1.fr z.fr λx=>x)).fH (x:=((s2,s):cF [.sl,li])) rfl ?_;rw[ag];refine (PG z G G' f1 f2 hn').mono λv h1 hv=>?_;obtain⟨fi,fr⟩:=hv;have fi:=fi.1 ⟨c1,c2⟩;have z:=z.pure fr;cases e:Xf N r N2 s with
 |none=>
  rw[e] at fi;rw[By (by rw[fi.1];rfl),By (by rw[fi.2];rfl)];refine (LB.cl (l0.fr z.fr λx=>x)).fH (x:=((s1,r):cF [.sl,li])) rfl ?_;refine (LB.cl (l1.fr z.fr λx=>x)).fH (x:=((s2,s):cF [.sl,li])) rfl ?_;rw[ag];refine (PF z G G' f1 f2 hn').mono λy h2 hy=>af.2 ?_;rw[hy.1];exact Ud.2 ⟨c1,c2,(Uc f1 f2 c1 c2).1 e⟩
 |some p=>
  rw[e] at fi;obtain⟨v2,g,rv⟩:=fi;rw[AT (by rw[v2];decide)];obtain⟨pl,u,w,N1,r1,M1,t1,w1,w2,hu,hw',k1,k2,g1,g2,e1,e2,d1,d2⟩:=points f1 f2 c1 c2 e;refine (LB.cl (l0.fr z.fr λx=>x)).fH (x:=((s1,r):cF [.sl,li])) rfl ?_;rw[ag];refine (Ug z.wf (G.fr z.fr) f1 c1 rv pl w1 hn).mono λy h2 hy=>?_;obtain⟨rfl,fr2⟩:=hy;have rv:=rv.fr fr2 λx=>x.elim;have z:=z.pure fr2;refine (LB.cl (l1.fr z.fr λx=>x)).fH (x:=((s2,s):cF [.sl,li])) rfl ?_;rw[ag];refine (Ug z.wf (G'.fr z.fr) f2 c2 rv pl w2 hn).mono λy h3 hy=>?_;obtain⟨rfl,fr3⟩:=hy;have z:=z.pure fr3;rw[AT (by simp),AT (by simp)];exact W8 z.wf (G.fr z.fr) (G'.fr z.fr) (l0.fr z.fr λx=>x) (l1.fr z.fr λx=>x) f1 f2 c1 c2 hu hw' k1 k2 g1 g2 d1 d2 e1 e2 hn'
theorem PN (hw:WF h)(G:kP h s1 N)(G':kP h s2 N2){n:Nat}(hn:MV+2000<=n):Wp (lY n (s1,r) (s2,s)) h λy _=>y=true:=by
 have hn':MV<=n:=abK (alf _ _) hn;have n3:=(Ub hn').2.2;unfold lY MO;refine (Z.start hw).new λx0 h1 z _=>z.new λx1 h2 z _=>?_;rw[ag,af,AT (by decide)];refine z.fH 1 (ls:=[.sl,li]) (x:=(s1,r)) ?_;rw[ag];refine (PL G z (by omega)).mono λb h3 hb=>?_;obtain⟨hf,z⟩:=hb;cases b with
 |false=>rw[By (by rfl)];exact af.2 rfl
 |true=>
 obtain⟨f1,_⟩:=hf rfl;rw[AT (by decide)];refine z.fH 0 (ls:=[.sl,li]) (x:=(s2,s)) ?_;rw[ag];refine (PL G' z (by omega)).mono λb h4 hb=>?_;obtain⟨hf,z⟩:=hb;cases b with
 |false=>rw[By (by rfl)];exact af.2 rfl
 |true=>
 obtain⟨f2,_⟩:=hf rfl;rw[AT (by decide)];refine z.fH 1 (ls:=[.sl,li]) (x:=(s1,r)) (z.fH 0 (ls:=[.sl,li]) (x:=(s2,s)) ?_);rw[ag];refine (abB z G G' f1 f2 hn').mono λb h5 hb=>?_;obtain⟨hv,z⟩:=hb;cases b with
 |false=>rw[By (by rfl)];exact af.2 rfl
 |true=>
 obtain⟨c1,c2⟩:=hv.1 rfl;rw[AT (by decide)];exact W9 z.wf (G.fr z.fr) (G'.fr z.fr) (z.get 1 rfl:LB h5 x0 [aC s1,vi r] ah) (z.get 0 rfl:LB h5 x1 [aC s2,vi s] ah) f1 f2 c1 c2 hn
end
end Go.Sh
