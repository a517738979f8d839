
import Derived.Test.YtcdofopdlaebaaaGreatDoorPah
set_option linter.all false
namespace Go.Sh
open Go Go.Ago Go.Proofs
section
variable {α β:Type}{h h' h0:af}{L R:List bj}{N N2:List an}{root:Int}{B:Nat}{Q:β->af->Prop}
theorem uN (a b:ByteArray):mI a b=true↔a=b:=⟨zG,λe=>by subst e;unfold mI;simp⟩
noncomputable def FH (N:List an)(r:Int)(N2:List an)(s:Int)(x y:an):Option (List ByteArray):=
 open Classical in
 if x.kind≠y.kind\/x.text≠y.text\/x.ord≠y.ord\/x.items.length≠y.items.length then none
 else if x.keys.map (tj N r)=y.keys.map (tj N2 s) then some (x.keys.map (tj N r)) else none
theorem adl (z:Z h0 h L){s:Sl}{T:List ByteArray}{g:Nat}(hm:bj.sl s 1 dT (T.map .string) g∈L){i:Nat}{t:ByteArray}(ht:T[i]?=some t){f:Addr->M β}(q:∀a g,Cl h a [.string t] g->Wp (f a) h Q):Wp (sh (av s (i:Int) 1) f) h Q:=by
 have o:qQ h s 1 dT (T.map .string) g:=(z.own _ hm).1;exact qy.Ua (enc:=Value.string) o.BB (by omega) (by simpa using ht) λa c=>q a g c
theorem WO (z:Z h0 h L){k l:Sl}{T U:List ByteArray}{g g':Nat}(hk:bj.sl k 1 dT (T.map .string) g∈L)(hl:bj.sl l 1 dT (U.map .string) g'∈L)(hlen:T.length=U.length)(hb:T.length<=80):∀(n i:Nat),T.length-i<n->i<=T.length ->
  Wp (lD n k l (T.length:Int) (i:Int)) h λr h'=>h'=h/\((r=.inl ()/\T.drop i=U.drop i)\/(r=.inr (mX,false)/\T.drop i≠U.drop i)):=by
 intro n
 induction n with
 |zero=>intro i h1;omega
 |succ n ih=>
  intro i h1 h2;rw[y5];unfold rv;by_cases hi:i<T.length
  .rw[if_pos (by simpa using hi)];obtain⟨t,ht⟩:=jy (l:=T) hi;obtain⟨u,hu⟩:=jy (l:=U) (i:=i) (by omega);refine adl z hk ht λa ga ca=>adl z hl hu λb gb cb=>?_;refine ca.pL (l:=.str) rfl rfl (cb.pL (l:=.str) rfl rfl ?_);rw[drop_cons ht,drop_cons hu];by_cases he:t=u
   .rw[if_neg (by simpa using (uN t u).2 he),uv (B:=80) (by omega) (by omega)];refine (ih (i+1) (by omega) (by omega)).mono λr h' hr=>?_;obtain⟨e,hr⟩:=hr;refine⟨e,?_⟩;rw[he];rcases hr with⟨q1,q2⟩|⟨q1,q2⟩
    .exact .inl ⟨q1,by rw[q2]⟩
    .exact .inr ⟨q1,λe=>q2 (agl e).2⟩
   .have hne:mI t u=false:=by
     cases hq:mI t u with
     |false=>rfl
     |true=>exact absurd ((uN t u).1 hq) he
    rw[if_pos (by rw[hne];rfl)];exact ag.2 ⟨rfl,.inr ⟨rfl,λe=>he (agl e).1⟩⟩
  .rw[if_neg (by simpa using hi)];refine ag.2 ⟨rfl,.inl ⟨rfl,?_⟩⟩;rw[aaS (by omega),aaS (by omega)]
theorem WQ {s1 s2:Sl}{r1 r2 a b:Int}{x y:an}(z:Z h0 h L)(G1:jI h0 s1 N)(G2:jI h0 s2 N2)(f1:gf N)(f2:gf N2)(i1:qG N N.length)(i2:qG N2 N2.length)
  (m1:x.keys.length=(if x.kind=10 then x.items.length else 0)) (m2:y.keys.length=(if y.kind=10 then y.items.length else 0)) (hx:gt N a=some x) (hy:gt N2 b=some y) {n:Nat} (hn:S7+200<=n) :
  Wp (uK n (s1,r1) (s2,r2) (a,b)) h λr h'=>match FH N r1 N2 r2 x y with
   |none=>r.2=false/\Z h0 h' L
   |some T=>r.2=true/\∃g,Z h0 h' (.sl r.1 1 dT (T.map .string) g::L):=by
 unfold uK;refine z.new λx0 h1 z _=>z.new λx1 h2 z _=>z.new λx2 h3 z _=>?_;refine z.eS (n:=16) [12,13] (by decide) (by simp) λkb h4 z=>?_;refine z.ld 4 (o:=0) (l:=.sl) (x:=s1) ?_;refine z.ld 2 (o:=0) (x:=a) ?_;refine G1.Pj z (aD hx).1 (aD hx).2 λp ks is nd=>?_;refine (nd.fr z.fr).fI ?_;refine z.ld 3 (o:=0) (l:=.sl) (x:=s2) ?_;refine z.ld 2 (o:=1) (x:=b) ?_;refine G2.Pj z (aD hy).1 (aD hy).2 λp' ks' is' nd'=>?_;refine (nd'.fr z.fr).fI ?_;refine z.newAt 0 λh5 z=>z.newAt 1 λh6 z=>?_;have z:Z h0 h6 (.ar (kb+12) [vi 0,Value.string (ofBytes []),Value.bool false,aU,aU] aw::.ar (kb+13) [vi 0,Value.string (ofBytes []),Value.bool false,aU,aU] aw::.ar x2 [vi a,vi b] cz::.ar x1 [aE s2,vi r2] aj::.ar x0 [aE s1,vi r1] aj::L):=z;refine z.stC 0 (cs':=[vi x.kind,.string x.text,.bool x.ord,aE ks,aE is]) (λq hq=>?_) λh7 z=>?_
 .simp only[aei,aaM,ael,or_false] at hq;rcases hq with rfl|rfl|rfl
  .exact z.nbO 0 3 rfl rfl (by decide)
  .exact z.nbO 0 2 rfl rfl (by decide)
  .obtain⟨g,c⟩:=nd'.cl;exact z.nb0 0 c rfl
 refine z.st 1 (cs':=[vi y.kind,.string y.text,.bool y.ord,aE ks',aE is']) λh8 z=>?_;have z:Z h0 h8 (.ar (kb+12) [vi x.kind,.string x.text,.bool x.ord,aE ks,aE is] aw::.ar (kb+13) [vi y.kind,.string y.text,.bool y.ord,aE ks',aE is'] aw::.ar x2 [vi a,vi b] cz::.ar x1 [aE s2,vi r2] aj::.ar x0 [aE s1,vi r1] aj::L):=z;have no:∀{h},Z h0 h (.ar (kb+12) [vi x.kind,.string x.text,.bool x.ord,aE ks,aE is] aw::.ar (kb+13) [vi y.kind,.string y.text,.bool y.ord,aE ks',aE is'] aw::.ar x2 [vi a,vi b] cz::.ar x1 [aE s2,vi r2] aj::.ar x0 [aE s1,vi r1] aj::L)->FH N r1 N2 r2 x y=none->Wp (AI (mX,false):M (Sl×Bool)) h λr h'=>match FH N r1 N2 r2 x y with
   |none=>r.2=false/\Z h0 h' L
   |some T=>r.2=true/\∃g,Z h0 h' (.sl r.1 1 dT (T.map .string) g::L):=λz e=>by
  rw[e];exact ag.2 ⟨rfl,z.drop.drop.drop.drop.drop⟩
 have b1:=(f1.map x (aF hx)).1;refine z.ld 0 (o:=0) (x:=x.kind) (z.ld 1 (o:=0) (x:=y.kind) ?_);by_cases c1:x.kind=y.kind
 .rw[if_neg (by simpa using c1)];refine z.ld 0 (o:=1) (l:=.str) (x:=x.text) (z.ld 1 (o:=1) (l:=.str) (x:=y.text) ?_);by_cases c2:x.text=y.text
  .rw[if_neg (by simpa using (uN _ _).2 c2)];refine z.ld 0 (o:=2) (l:=.bool) (x:=x.ord) (z.ld 1 (o:=2) (l:=.bool) (x:=y.ord) ?_);by_cases c3:x.ord=y.ord
   .rw[if_neg (by rw[c3];cases y.ord<;>decide)];refine z.ld 0 (o:=4) (l:=.sl) (x:=is) (z.ld 1 (o:=4) (l:=.sl) (x:=is') ?_);rw[nd.items.len,nd'.items.len];by_cases c4:x.items.length=y.items.length
    .rw[if_neg (by simp[c4])];unfold uh;refine z.fI 4 (x:=((s1,r1):bN [.sl,li])) ?_;refine z.fI 0 (x:=((x.kind,x.text,x.ord,ks,is):bN [li,.str,.bool,.sl,.sl])) ?_;refine z.fI 3 (x:=((s2,r2):bN [.sl,li])) ?_;refine z.fI 1 (x:=((y.kind,y.text,y.ord,ks',is'):bN [li,.str,.bool,.sl,.sl])) ?_;refine yh (P:=λr h'=>∃g,Z h0 h' (.sl r 1 dT (x.keys.map λv=>Value.string (tj N r1 v)) g::.ar (kb+12) [vi x.kind,.string x.text,.bool x.ord,aE ks,aE is] aw::.ar (kb+13) [vi y.kind,.string y.text,.bool y.ord,aE ks',aE is'] aw::.ar x2 [vi a,vi b] cz::.ar x1 [aE s2,vi r2] aj::.ar x0 [aE s1,vi r1] aj::L)) (λq hq=>?_) (Qr z G1 f1 (aF hx) i1 nd.keys (by omega)) λk h9 hk=>?_
     .simp only[aei,aaM,ael,or_false] at hq;rcases hq with rfl|rfl
      .exact⟨_,_,(z.get 3 rfl:LB _ x1 [aE s2,vi r2] aj),λr h' hp=>by obtain⟨g,zp⟩:=hp;exact (zp.get 4 rfl:LB _ x1 [aE s2,vi r2] aj)⟩
      .exact⟨_,_,(z.get 1 rfl:LB _ (kb+13) [vi y.kind,.string y.text,.bool y.ord,aE ks',aE is'] aw),λr h' hp=>by obtain⟨g,zp⟩:=hp;exact (zp.get 2 rfl:LB _ (kb+13) [vi y.kind,.string y.text,.bool y.ord,aE ks',aE is'] aw)⟩
     obtain⟨g,z9⟩:=hk;rw[ah];refine (Qr z9 G2 f2 (aF hy) i2 nd'.keys (by omega)).mono λl h10 hl=>?_;obtain⟨g',z10⟩:=hl;have hkl:k.len=x.keys.length:=by
      have o:qQ h10 k 1 dT (x.keys.map λv=>Value.string (tj N r1 v)) g:=z10.get 1 rfl;have:=o.1;simp at this;omega
     have hkk:x.keys.length=y.keys.length:=(by rw[m1,m2,c1,c4]);have e1:(x.keys.map λv=>Value.string (tj N r1 v))=(x.keys.map (tj N r1)).map Value.string:=(by rw[agr];rfl);have e2:(y.keys.map λv=>Value.string (tj N2 r2 v))=(y.keys.map (tj N2 r2)).map Value.string:=(by rw[agr];rfl);rw[e1,e2] at z10;rw[hkl,ah];have b2:=(f1.map x (aF hx)).2;have lp:=WO (T:=x.keys.map (tj N r1)) (U:=y.keys.map (tj N2 r2)) z10 (k:=k) (l:=l) (AT _ By) By (by simp[hkk]) (by simpa using b2) n 0 (by simp;omega) (by omega);rw[adq] at lp;refine lp.mono λr h11 hr=>?_;obtain⟨rfl,hr⟩:=hr;rw[aeh,aeh] at hr;have hn0:¬(x.kind≠y.kind\/x.text≠y.text\/x.ord≠y.ord\/x.items.length≠y.items.length):=(by simp[c1,c2,c3,c4]);rcases hr with⟨rfl,e⟩|⟨rfl,e⟩
     .have em:FH N r1 N2 r2 x y=some (x.keys.map (tj N r1)):=(by unfold FH;rw[if_neg hn0,if_pos e]);rw[em];refine ag.2 ⟨rfl,g,z10.drop.sub (List.Sublist.cons_cons _ ?_)⟩;exact List.Sublist.cons _ (List.Sublist.cons _ (List.Sublist.cons _ (List.Sublist.cons _ (List.Sublist.cons _ (adB _)))))
     .have em:FH N r1 N2 r2 x y=none:=(by unfold FH;rw[if_neg hn0,if_neg e]);rw[em];exact ag.2 ⟨rfl,z10.drop.drop.drop.drop.drop.drop.drop⟩
    .rw[if_pos (by simp;omega)];exact no z (by unfold FH;rw[if_pos (by simp[c4])])
   .rw[if_pos (by cases hxo:x.ord<;>cases hyo:y.ord<;>simp_all)];exact no z (by unfold FH;rw[if_pos (by simp[c3])])
  .have hne:mI x.text y.text=false:=by
    cases hq:mI x.text y.text with
    |false=>rfl
    |true=>exact absurd ((uN _ _).1 hq) c2
   rw[if_pos (by rw[hne];rfl)];exact no z (by unfold FH;rw[if_pos (by simp[c2])])
 .rw[if_pos (by simpa using c1)];exact no z (by unfold FH;rw[if_pos (by simp[c1])])
end
section
variable {N N2:List an}{r s:Int}
abbrev IP:=Int×Int
abbrev PT:=List (Int×ByteArray)
def S8 (T:List ByteArray)(i:Nat):Int×ByteArray:=match T[i]? with
 |some t=>(0,t)
 |none=>((i:Int),ofBytes [])
def OC (F:List IP->IP->Option (List IP×Option PT))(T:List ByteArray):Nat->List Int->List Int->List IP->Option (List IP×Option PT)
 |i,x::xs,y::ys,met=>match F met (x,y) with
  |none=>none
  |some (m',some p)=>some (m',some (S8 T i::p))
  |some (m',none)=>OC F T (i+1) xs ys m'
 |_,[],_,met=>some (met,none)
 |_,_::_,[],met=>some (met,none)
noncomputable def S9 (N:List an)(r:Int)(N2:List an)(s:Int):Nat->List IP->IP->Option (List IP×Option PT)
 |0,_,_=>none
 |f+1,met,q=>if q∈met then some (met,none) else match gt N q.1,gt N2 q.2 with
  |some x,some y=>match FH N r N2 s x y with
   |none=>some (q::met,some [])
   |some T=>OC (S9 N r N2 s f) T 0 x.items y.items (q::met)
  |_,_=>none
def L4 (n m:Nat):List IP:=(List.range n).flatMap λ(i:Nat)=>(List.range m).map λ(j:Nat)=>(((i:Int),(j:Int)):IP)
theorem WR {n m:Nat}{q:IP}(h1:IR n q.1)(h2:IR m q.2):q∈L4 n m:=by
 obtain⟨a,b⟩:=q;refine List.mem_flatMap.2 ⟨a.toNat,List.mem_range.2 (by have:=h1.1;have:=h1.2;simp only at *;omega),List.mem_map.2 ⟨b.toNat,List.mem_range.2 (by have:=h2.1;have:=h2.2;simp only at *;omega),?_⟩⟩;have:=h1.1;have:=h2.1;simp only at *
 rw[agG (by omega),agG (by omega)]
theorem WS (n m:Nat):(L4 n m).length=n*m:=by
 unfold L4;rw[List.length_flatMap];simp only[adq,List.length_range];rw[List.map_const',List.sum_replicate_nat,List.length_range]
def un (P met:List IP):Nat:=P.countP λq=>decide (q∉met)
theorem Qs {P met m':List IP}(h:∀u∈met,u∈m'):un P m'<=un P met:=by
 unfold un;exact List.countP_mono_left λq _ hq=>by
  simp only[decide_eq_true_eq] at hq⊢;exact λhh=>hq (h q hh)
theorem Qt:∀{P met:List IP} {q:IP},q∈P->q∉met->un P (q::met)+1<=un P met
 |[],_,_,h,_=>by simp at h
 |p::P,met,q,h,hn=>by
  have base:∀P,un P (q::met)<=un P met:=λP=>Qs λu hu=>AT _ hu;unfold un at base⊢;rw[afO,afO];by_cases e:p=q
  .subst e;rw[if_neg (by simp),if_pos (by simpa using hn)];have:=base P;omega
  .have ih:=Qt (P:=P) (List.mem_of_ne_of_mem (λx=>e x.symm) h) hn;unfold un at ih;have e2:(decide (p∉q::met))=decide (p∉met):=by simp[e]
   rw[e2];omega
def wk (N:List an):Int->List Nat->Option Int
 |a,[]=>some a
 |a,i::π=>match gt N a with
  |none=>none
  |some x=>match x.items[i]? with
   |none=>none
   |some u=>wk N u π
def Hd (N:List an)(r:Int)(N2:List an)(s:Int)(q:IP)(m:List IP):Prop:=
 ∃x y T,gt N q.1=some x/\gt N2 q.2=some y/\FH N r N2 s x y=some T/\∀(i:Nat) (u v:Int),x.items[i]?=some u->y.items[i]?=some v->(u,v)∈m
theorem Hd.mono {q:IP}{m m':List IP}(g:Hd N r N2 s q m)(h:∀u∈m,u∈m'):Hd N r N2 s q m':=by
 obtain⟨x,y,T,h1,h2,h3,h4⟩:=g;exact⟨x,y,T,h1,h2,h3,λi u v a b=>h _ (h4 i u v a b)⟩
def Bad (N:List an)(r:Int)(N2:List an)(s:Int)(q:IP)(π:List Nat):Prop:=
 ∃a b x y,wk N q.1 π=some a/\wk N2 q.2 π=some b/\gt N a=some x/\gt N2 b=some y/\FH N r N2 s x y=none
def ae3 (N:List an)(r:Int)(N2:List an)(s:Int)(met:List IP)(q:IP)(m':List IP)(res:Option PT):Prop:=
 (∀u∈met,u∈m')/\(∀u∈m',IR N.length u.1/\IR N2.length u.2\/u∈met)/\match res with
  |none=>q∈m'/\∀u∈m',u∈met\/Hd N r N2 s u m'
  |some _=>∃π,Bad N r N2 s q π
theorem Qu {x y:an}{T:List ByteArray}(h:FH N r N2 s x y=some T):x.items.length=y.items.length/\T=x.keys.map (tj N r):=by
 unfold FH at h;split at h
 .cases h
 .rename_i hh;split at h
  .cases h;refine⟨afp λhc=>hh (.inr (.inr (.inr hc))),rfl⟩
  .cases h
theorem L5 {f:Nat}{P:List IP}(F:List IP->IP->Option (List IP×Option PT))(hF:∀met q,un P met<f->IR N.length q.1->IR N2.length q.2->∃m' res,F met q=some (m',res)/\ae3 N r N2 s met q m' res){T:List ByteArray} :
  ∀(xs ys:List Int) (i:Nat) (met:List IP),un P met<f->(∀v∈xs,IR N.length v)->(∀v∈ys,IR N2.length v)->∃m' res,OC F T i xs ys met=some (m',res)/\(∀u∈met,u∈m')/\(∀u∈m',IR N.length u.1/\IR N2.length u.2\/u∈met)/\match res with
   |none=>(∀(i:Nat) u v,xs[i]?=some u->ys[i]?=some v->(u,v)∈m')/\∀u∈m',u∈met\/Hd N r N2 s u m'
   |some _=>∃(i:Nat) (u v:Int) (π:List Nat),xs[i]?=some u/\ys[i]?=some v/\Bad N r N2 s (u,v) π
 |[],ys,i,met,_,_,_=>⟨met,none,by unfold OC;rfl,λu h=>h,λu h=>.inr h,λi u v h=>by simp at h,λu h=>.inl h⟩
 |x::xs,[],i,met,_,_,_=>⟨met,none,by unfold OC;rfl,λu h=>h,λu h=>.inr h,λi u v _ h=>by simp at h,λu h=>.inl h⟩
 |x::xs,y::ys,i,met,hu,hx,hy=>by
  obtain⟨m1,r1,e1,s1,w1,t1⟩:=hF met (x,y) hu (hx x By) (hy y By);unfold OC;rw[e1];cases r1 with
  |some p=>
   obtain⟨π,b⟩:=t1;exact⟨m1,some (S8 T i::p),rfl,s1,w1,0,x,y,π,rfl,rfl,b⟩
  |none=>
   obtain⟨t1,g1⟩:=t1;obtain⟨m2,r2,e2,s2,w2,t2⟩:=L5 F hF (T:=T) xs ys (i+1) m1 (ags (Qs s1) hu) (λv hv=>hx v (AT _ hv)) (λv hv=>hy v (AT _ hv));refine⟨m2,r2,e2,λu h=>s2 u (s1 u h),λu h=>?_,?_⟩
   .rcases w2 u h with q|q
    .exact .inl q
    .exact w1 u q
   .cases r2 with
    |some p=>
     obtain⟨k,u,v,π,h1,h2,h3⟩:=t2;exact⟨k+1,u,v,π,by simpa using h1,by simpa using h2,h3⟩
    |none=>
     obtain⟨a,b⟩:=t2;refine⟨λk u v h1 h2=>?_,λu h=>?_⟩
     .cases k with
      |zero=>simp at h1 h2;subst h1;subst h2;exact s2 _ t1
      |succ k=>exact a k u v (by simpa using h1) (by simpa using h2)
     .rcases b u h with q|q
      .rcases g1 u q with q2|q2
       .exact .inl q2
       .exact .inr (q2.mono s2)
      .exact .inr q
theorem L6 (i1:qG N N.length)(i2:qG N2 N2.length):∀(f:Nat) (met:List IP) (q:IP),un (L4 N.length N2.length) met<f->IR N.length q.1->IR N2.length q.2->∃m' res,S9 N r N2 s f met q=some (m',res)/\ae3 N r N2 s met q m' res
 |0,_,_,h,_,_=>by omega
 |f+1,met,q,h,h1,h2=>by
  unfold S9;by_cases hm:q∈met
  .rw[if_pos hm];exact⟨met,none,rfl,λu h=>h,λu h=>.inr h,hm,λu h=>.inl h⟩
  .rw[if_neg hm];obtain⟨x,hx⟩:=gM (l:=N) rfl h1;obtain⟨y,hy⟩:=gM (l:=N2) rfl h2;rw[hx,hy];simp only;have hc:=Qt (WR h1 h2) hm;cases em:FH N r N2 s x y with
   |none=>
    refine⟨q::met,some [],rfl,λu h=>AT _ h,λu h=>?_,[],q.1,q.2,x,y,rfl,rfl,hx,hy,em⟩;rcases List.mem_cons.1 h with rfl|h
    .exact .inl ⟨h1,h2⟩
    .exact .inr h
   |some T=>
    simp only;obtain⟨m2,r2,e2,s2,w2,t2⟩:=L5 (f:=f) (P:=L4 N.length N2.length) (S9 N r N2 s f) (λmet q a b c=>L6 i1 i2 f met q a b c) (T:=T) x.items y.items 0 (q::met) (by omega) (i1 x (aF hx)).2 (i2 y (aF hy)).2;refine⟨m2,r2,e2,λu h=>s2 u (AT _ h),λu h=>?_,?_⟩
    .rcases w2 u h with q' | q'
     .exact .inl q'
     .rcases List.mem_cons.1 q' with rfl|h
      .exact .inl ⟨h1,h2⟩
      .exact .inr h
    .cases r2 with
     |some p=>
      obtain⟨k,u,v,π,a1,a2,a,b,x',y',b1,b2,b3,b4,b5⟩:=t2;refine⟨k::π,a,b,x',y',?_,?_,b3,b4,b5⟩
      .show wk N q.1 (k::π)=_;unfold wk;rw[hx];simp only;rw[a1];exact b1
      .show wk N2 q.2 (k::π)=_;unfold wk;rw[hy];simp only;rw[a2];exact b2
     |none=>
      obtain⟨a,b⟩:=t2;refine⟨s2 _ By,λu h=>?_⟩;rcases b u h with q' | q'
      .rcases List.mem_cons.1 q' with rfl|h
       .exact .inr ⟨x,y,T,hx,hy,em,a⟩
       .exact .inl h
      .exact .inr q'
noncomputable def lbX (N:List an)(r:Int)(x:an):Int×ByteArray×Bool×Nat×List ByteArray:=(x.kind,x.text,x.ord,x.items.length,x.keys.map (tj N r))
noncomputable def lb (N:List an)(r:Int)(a:Int)(π:List Nat):Option (Int×ByteArray×Bool×Nat×List ByteArray):=match wk N a π with
 |none=>none
 |some v=>(gt N v).map (lbX N r)
def Qv (N:List an)(r a:Int)(N2:List an)(s b:Int):Prop:=∀π,lb N r a π=lb N2 s b π
theorem Qv.refl {a:Int}:Qv N r a N r a:=λ_=>rfl
theorem Qv.symm {a b:Int}(h:Qv N r a N2 s b):Qv N2 s b N r a:=λπ=>(h π).symm
theorem Qv.trans {a b c t:Int}{N3:List an}(h:Qv N r a N2 s b)(h':Qv N2 s b N3 t c):Qv N r a N3 t c:=λπ=>(h π).trans (h' π)
theorem WT {x y:an}:(FH N r N2 s x y).isSome↔lbX N r x=lbX N2 s y:=by
 unfold FH lbX;constructor
 .intro h;split at h
  .cases h
  .rename_i hh;split at h
   .rename_i h2;have a1:=Classical.not_not.1 λe=>hh (.inl e);have a2:=Classical.not_not.1 λe=>hh (.inr (.inl e));have a3:=Classical.not_not.1 λe=>hh (.inr (.inr (.inl e)));have a4:=Classical.not_not.1 λe=>hh (.inr (.inr (.inr e)));rw[a1,a2,a3,a4,h2]
   .cases h
 .intro h;simp only[aez] at h;obtain⟨a1,a2,a3,a4,a5⟩:=h;rw[if_neg (by simp[a1,a2,a3,a4]),if_pos a5];rfl
theorem WU {m:List IP}(hm:∀u∈m,Hd N r N2 s u m):∀(π:List Nat) (q:IP),q∈m->lb N r q.1 π=lb N2 s q.2 π
 |[],q,hq=>by
  obtain⟨x,y,T,h1,h2,h3,h4⟩:=hm q hq;unfold lb wk;simp only;rw[h1,h2];have:=WT.1 (by rw[h3];rfl:(FH N r N2 s x y).isSome);simp[this]
 |i::π,q,hq=>by
  obtain⟨x,y,T,h1,h2,h3,h4⟩:=hm q hq;have hl:=(Qu h3).1;unfold lb wk;rw[h1,h2];simp only;by_cases hi:i<x.items.length
  .have e1:x.items[i]?=some x.items[i]:=aaJ hi;have e2:y.items[i]?=some (y.items[i]'(by omega)):=aaJ (by omega);rw[e1,e2];simp only;exact WU hm π (x.items[i],y.items[i]'(by omega)) (h4 i _ _ e1 e2)
  .rw[ad8 (by omega),ad8 (by omega)]
def OD:Nat:=1602
theorem adm (f1:gf N)(f2:gf N2)(met:List IP):un (L4 N.length N2.length) met<OD:=by
 have h1:un (L4 N.length N2.length) met<=(L4 N.length N2.length).length:=List.countP_le_length;rw[WS] at h1;have:=f1.len;have:=f2.len;have h2:N.length*N2.length<=40*40:=afV (by omega) (by omega);unfold OD;omega
noncomputable def Gy (N:List an)(r a:Int)(N2:List an)(s b:Int):Option PT:=match S9 N r N2 s OD [] (a,b) with
 |some (_,res)=>res
 |none=>none
theorem Qw (f1:gf N)(f2:gf N2)(i1:qG N N.length)(i2:qG N2 N2.length){a b:Int}(ha:IR N.length a)(hb:IR N2.length b):∃m',S9 N r N2 s OD [] (a,b)=some (m',Gy N r a N2 s b)/\(Gy N r a N2 s b=none↔Qv N r a N2 s b):=by
 obtain⟨m',res,e,o1,o2,o3⟩:=L6 (r:=r) (s:=s) i1 i2 OD [] (a,b) (adm f1 f2 _) ha hb;have er:Gy N r a N2 s b=res:=by unfold Gy;rw[e]
 refine⟨m',by rw[er];exact e,?_⟩;rw[er];cases res with
 |none=>
  refine⟨λ_ π=>WU (m:=m') (λu hu=>?_) π (a,b) o3.1,λ_=>rfl⟩;rcases o3.2 u hu with h|h
  .cases h
  .exact h
 |some p=>
  refine⟨λh=>(nomatch h),λh=>?_⟩;obtain⟨π,a',b',x,y,h1,h2,h3,h4,h5⟩:=o3;have:=h π;unfold lb at this;rw[h1,h2] at this;simp only[h3,h4,adO,aaM] at this;have:=WT.2 this;rw[h5] at this;cases this
end
section
variable {α β:Type}{h h' h0:af}{L R:List bj}{Q:β->af->Prop}
def Ta (p:Int×ByteArray):List Value:=[vi p.1,.string p.2]
def Bl (p:PT):List Value:=p.flatMap Ta
theorem yG (p:PT):(Bl p).length=p.length*2:=by
 induction p with
 |nil=>rfl
 |cons a p ih=>show (Ta a++Bl p).length=_;rw[aaQ,ih,OF];show 2+_=_;omega
theorem Zm (p q:PT):Bl (p++q)=Bl p++Bl q:=afQ
def PA (a:Sl)(p:PT)(o:bj):Prop:=(p=[]/\a=mX/\o=.sl mX 2 aC [] 0)\/∃F g,o=.Ud F 2 aC g/\(a,Bl p)∈F/\∀x∈F,x.2.length<=(Bl p).length
theorem PA.nil:PA mX [] (.sl mX 2 aC [] 0):=.inl ⟨rfl,rfl,rfl⟩
theorem aaU {o o':bj}(z:Z h0 h (o'::L))(hk:o'.ok h->o.ok h)(hg:o.dW=o'.dW\/o.dW=0):Z h0 h (o::L):=by
 obtain⟨h1,h2⟩:=List.pairwise_cons.1 z.rV;refine⟨z.HX,z.fr,λx hx=>?_,List.pairwise_cons.2 ⟨λx hx he=>?_,h2⟩⟩
 .rcases List.mem_cons.1 hx with rfl|hx
  .obtain⟨a,b⟩:=z.own o' By;refine⟨hk a,?_⟩;rcases hg with hg|hg
   .rw[hg];exact b
   .exact .inl hg
  .exact z.own x (AT _ hx)
 .rcases hg with hg|hg
  .rw[hg] at he⊢;exact h1 x hx he
  .exact hg
theorem MT.one {s:Sl}{sz:Nat}{e:TypeId}{cs:List Value}{g:Nat}(o:qQ h s sz e cs g)(hn:s.len≠0)(hc:s.cap=0):MT h [(s,cs)] sz e g:=by
 obtain⟨h1,h2⟩:=o;rcases h2 with⟨rfl,_⟩|⟨a,b,_,bl,base,c,d,_⟩
 .exact absurd rfl hn
 .exact⟨a,b,base,λx hx=>by rw[afC] at hx;subst hx;exact⟨h1,hc,bl,c,d⟩⟩
theorem PA.app {a:Sl}{p:PT}{o:bj}(z:Z h0 h (o::L))(hp:PA a p o)(st:Int×ByteArray)(hb:p.length+1<=cK){ads:List (Option Addr)}
  (ha:∀b,some b∈ads->∃cs g base e,h.get b.block=some (.cells cs g base e)/\(g=o.dW->g=0)) {f:Sl->M β}
  (q:∀s' h' o',PA s' (p++[st]) o'->Z h0 h' (o'::L)->(∀h2 L2,Z h0 h2 (o'::L2)->Z h0 h2 (o::L2))->Wp (f s') h' Q):Wp (sh (Ago.kG ads (Ago.app false a 2 aC 1 (Ta st))) f) h Q:=by
 rw[ah];have chg:∀{h':af},Fr (·=o.dW) h h'->∀b,some b∈ads->h'.get b.block=h.get b.block:=λfr b hb=>by
  obtain⟨cs,g,base,e,h1,h2⟩:=ha b hb;rw[h1];exact fr.cells _ _ _ _ _ h1 h2
 rcases hp with⟨rfl,rfl,rfl⟩|⟨F,g,rfl,hm,hmax⟩
 .refine xy (qQ.app (z.get 0 rfl:qQ h mX 2 aC [] 0) z.wf (by decide) rfl (by show 0+1<=cK;unfold cK;omega) λs' h' g' hl hc o hg fr=>?_);refine⟨chg fr,?_⟩;have hg:=hg.resolve_left λx=>x.2 rfl;have f0:Fr (λ_=>False) h h':=⟨fr.wf,fr.next,λj c g2 b e2 hj _=>fr.cells j c g2 b e2 hj λe3=>e3,λg2 h5 _=>fr.oi g2 h5 λe3=>e3,fr.used,fr.none,λj x hj _=>fr.maps j x hj (by omega)⟩
  have hl1:s'.len=1:=hl;have z2:Z h0 h' (.Ud [(s',[]++Ta st)] 2 aC g'::L):=z.drop.add f0 (o:=.Ud [(s',[]++Ta st)] 2 aC g') (MT.one o (by omega) hc) (.inr (by simp only[bj.dW];omega));refine q s' h' _ (.inr ⟨_,_,rfl,?_,?_⟩) z2 λh2 L2 z3=>aaU z3 (λ_=>qQ.nil) (.inr rfl)
  .rw[ad6,ad6];exact List.mem_singleton.2 rfl
  .intro x hx;rw[afC] at hx;subst hx;exact aaR _
 .have o:MT h F 2 aC g:=z.get 0 rfl;have hal:(Bl p).length=a.len*2:=by obtain⟨_,_,base,hF⟩:=o;exact (hF _ hm).1
  rw[yG] at hal;refine xy (MT.app o z.wf hm hmax (by decide) rfl (by omega) λs' h' hl o' fr=>?_);refine⟨chg fr,?_⟩;have z2:Z h0 h' (.Ud ((s',Bl p++Ta st)::F) 2 aC g::L):=z.rC (i:=0) (o:=.Ud F 2 aC g) (o':=.Ud ((s',Bl p++Ta st)::F) 2 aC g) rfl (by have:=o.1;show g≠0;omega) fr o' (.inl rfl);have e1:Bl (p++[st])=Bl p++Ta st:=by rw[Zm];show _++(Ta st++[])=_;rw[adG]
  refine q s' h' _ (.inr ⟨_,_,rfl,by rw[e1];exact By,?_⟩) z2 λh2 L2 z3=>aaU z3 (λk=>?_) (.inl rfl)
  .intro x hx;rw[e1,aaQ];rcases List.mem_cons.1 hx with rfl|hx
   .rw[aaQ];exact aaR _
   .have:=hmax x hx;omega
  .obtain⟨k1,k2,base,k3⟩:=k;exact⟨k1,k2,base,λx hx=>k3 x (AT _ hx)⟩
theorem WV {s:Sl}{b:Addr}{sz:Nat}{e:TypeId}(hs:s.a=some b){Q:Sl->af->Prop}(q:Q s h):Wp (Ago.app false s sz e 0 []) h Q:=
 ⟨s,h,by unfold Ago.app tB;simp[hs],q⟩
theorem PA.copy {a:Sl}{p:PT}{o:bj}(z:Z h0 h (o::L))(hp:PA a p o)(hb:p.length<=cK){f:Sl->M β}
  (q:∀s' h' g',Z h0 h' (.sl s' 2 aC (Bl p) g'::o::L)->Wp (f s') h' Q):Wp (sh (aO none aC []) λx=>sh (Ago.Mg a 2) λy=>sh (Ago.app false { a:=some (ak x),len:=0,cap:=1 } 2 aC a.len y) f) h Q:=by
 rw[ah,zF];refine⟨rfl,?_⟩;have z1:=z.add (Fr.new (e:=aC) (cs:=[]) z.wf) (o:=.sl ⟨some ⟨h.next,0,none⟩,0,0+1⟩ 2 aC [] (h.next+1))
  ⟨by simp,.inr ⟨by omega,by simp[af.new,af.dQ],.inr rfl,h.next,0,rfl,ki,by rw[af.new,uV];simp⟩⟩ (.inr (aar _))
 generalize h.next=b at z1⊢
 rw[ah,abg];by_cases hn:p=[]
 .subst hn;have h1:a.len=0/\aX (h.new aC []) a.a (a.len*2)=some []:=by
   rcases hp with⟨_,rfl,_⟩|⟨F,g,rfl,hm,_⟩
   .exact⟨rfl,rfl⟩
   .have o:MT (h.new aC []) F 2 aC g:=z1.get 1 rfl;obtain⟨_,_,base,hF⟩:=o;obtain⟨e1,e2,bl,e3,e4⟩:=hF _ hm;have:a.len=0:=(by simp only[Bl,List.flatMap_nil,aa0] at e1;omega);refine⟨this,?_⟩;simp only at e3 e4;rw[e3,this];unfold aX;simp only;rw[e4];simp[Bl]
  refine⟨[],h1.2,?_⟩;rw[h1.1,ah];refine WV rfl ?_;exact q _ _ _ z1
 .rcases hp with⟨e,_⟩|⟨F,g,rfl,hm,hmax⟩
  .exact absurd e hn
  .have o:MT (h.new aC []) F 2 aC g:=z1.get 1 rfl;obtain⟨_,_,base,hF⟩:=o;obtain⟨e1,e2,bl,e3,e4⟩:=hF _ hm;simp only at e1 e2 e3 e4;have hl:a.len=p.length:=by rw[yG] at e1;omega
   refine⟨Bl p,?_,?_⟩
   .simp[aX,e3,e4,<-e1]
   .refine Z.Oy z1 0 rfl (by rw[hl];intro e;exact hn (abn e)) (by rw[e1]) (by rw[hl];show 0+_<=_;omega) λs' h' g' _ z2 _=>?_;exact q s' h' g' z2
end
section
variable {α β:Type}{h h' h0:af}{L R:List bj}{N N2:List an}{Q:β->af->Prop}
structure SC where
 m:Nat
 x1:Nat
 x3:Nat
 a0:Nat
 a1:Nat
 s1:Sl
 r1:Int
 s2:Sl
 r2:Int
abbrev SC.fn (c:SC):Value:=Value.func (Fn.func nO) #[] #[Value.pointer (some (ak c.x1)),Value.pointer (some (ak c.a0)),Value.pointer (some (ak c.a1)),Value.pointer (some (ak c.x3))]
def WW (c:SC)(fn:Value->Option Value)(k:Nat):List bj:=[.map c.m cz fn k,.ar c.x1 [Value.map (some c.m)] ns,.ar c.x3 [c.fn] eC]
def Xg (a b:Int):Value:=.agg #[vi a,vi b]
def SQ (fn:Value->Option Value)(met:List IP):Prop:=∀a b:Int,fn (Xg a b)=if (a,b)∈met then some (.bool true) else none
theorem WX (a b c d:Int):vG (Xg a b) (Xg c d)=true↔(a,b)=(c,d):=by
 constructor
 .intro e;have:=EL e;unfold Xg at this;simp at this;rw[this.1,this.2]
 .intro e;cases e;unfold Xg;simp[vG,xi,As,OL]
theorem SQ.rC {fn:Value->Option Value}{met:List IP}(m:SQ fn met)(a b:Int):SQ (wX fn (Xg a b) (.bool true)) ((a,b)::met):=λc d=>by
 unfold wX;by_cases e:(c,d)=(a,b)
 .rw[if_pos ((WX _ _ _ _).2 e),if_pos (by rw[e];exact By)]
 .rw[if_neg (λx=>e ((WX _ _ _ _).1 x)),m c d];by_cases h:(c,d)∈met
  .rw[if_pos h,if_pos (AT _ h)]
  .rw[if_neg h,if_neg (by simp only[aei,not_or];exact⟨e,h⟩)]
def va (c:SC)(h0:af)(res:Option PT)(p:PT)(o:bj)(X:List bj)(m':List IP)(r:Sl)(t:Bool)(h':af):Prop:=∃fn k,SQ fn m'/\match res with
 |none=>t=false/\Z h0 h' (o::(WW c fn k++X))
 |some q=>t=true/\∃g,Z h0 h' (.sl r 2 aC (Bl (p++q)) g::o::(WW c fn k++X))
theorem va.sub {c:SC}{res:Option PT}{p:PT}{o:bj}{X X':List bj}{m':List IP}{r:Sl}{t:Bool}(h:va c h0 res p o X m' r t h')(hs:X'.Sublist X):va c h0 res p o X' m' r t h':=by
 obtain⟨fn,k,m,w⟩:=h;refine⟨fn,k,m,?_⟩;cases res with
 |none=>exact⟨w.1,w.2.sub (List.Sublist.cons_cons _ (aeQ (adB _) hs))⟩
 |some q=>
  obtain⟨w1,g,w2⟩:=w;exact⟨w1,g,w2.sub (List.Sublist.cons_cons _ (List.Sublist.cons_cons _ (aeQ (adB _) hs)))⟩
def Tb (f:Nat):Nat:=S7+300+f*100
def ae4 (h0:af)(c:SC)(N N2:List an)(f:Nat):Prop:=∀(n:Nat) (h:af) (q:IP) (met m':List IP) (res:Option PT) (a:Sl) (p:PT) (o:bj) (fn:Value->Option Value) (k:Nat) (L:List bj),Tb f<=n->S9 N c.r1 N2 c.r2 f met q=some (m',res)->SQ fn met->PA a p o->p.length+f<=5000->Z h0 h (o::(WW c fn k++L)) ->
 Wp ((bw.at n).gY q a (ak c.x1) (ak c.a0) (ak c.a1) (ak c.x3)) h λr h'=>va c h0 res p o L m' r.1 r.2 h'
theorem nbB {o:bj}(z:Z h0 h (o::L)){b:Addr}{vs:List Value}{g:Nat}(c:Cl h b vs g)(hg:g<=h0.next):∃cs g base e,h.get b.block=some (.cells cs g base e)/\(g=o.dW->g=0):=by
 obtain⟨_,cs,base,e,h2,_⟩:=c;refine⟨cs,g,base,e,h2,λe1=>?_⟩;rcases (z.own o By).2 with q|q<;>omega
theorem ae5 {o:bj}(z:Z h0 h (o::L)){b:Nat}{cs:List Value}{e:TypeId}(hm:bj.ar b cs e∈L):∃cs g base e,h.get b=some (.cells cs g base e)/\(g=o.dW->g=0):=by
 have l:LB h b cs e:=(z.own _ (AT _ hm)).1;refine⟨cs,b+1,0,e,l.get,λe1=>?_⟩;have:=(List.pairwise_cons.1 z.rV).1 _ hm (by show o.dW=b+1;omega);omega
theorem ae6 {c:SC}{f:Nat}(V:ae4 h0 c N N2 f)(G2:jI h0 c.s2 N2)(l1:LB h0 c.a1 [aE c.s2,vi c.r2] aj){q:IP}{x y:an}{T:List ByteArray}(hT:T=[]\/T.length=x.items.length)(hy:gt N2 q.2=some y)(hxy:x.items.length=y.items.length)(hb:x.items.length<=80){is:Sl}(ix:IL h0 is x.items){pb:Nat}{nm:Sl}{a:Sl}{p:PT}{o:bj}(hp:PA a p o)(hpf:p.length+f<5000){gN:Nat} :
  ∀(n i:Nat) (h:af) (met m':List IP) (res:Option PT) (fn:Value->Option Value) (k:Nat),Tb f+(x.items.length-i)+1<=n->i<=x.items.length->OC (S9 N c.r1 N2 c.r2 f) T i (x.items.drop i) (y.items.drop i) met=some (m',res)->SQ fn met ->
   Z h0 h (o::(WW c fn k++(.sl nm 1 dT (T.map .string) gN::.ar pb [vi q.1,vi q.2] cz::L))) ->
   Wp ((bw.at n).ic a (ak c.a1) (ak c.x3) (ak pb) nm is (x.items.length:Int) (i:Int)) h λr h'=>match r with
    |.inl _=>va c h0 res p o L m' mX false h'
    |.inr v=>va c h0 res p o L m' v.1 v.2 h':=by
 intro n
 induction n with
 |zero=>intro i h met m' res fn k h1;omega
 |succ n ih=>
  intro i h met m' res fn k h1 h2 hv hM z;show Wp (ou (bw.at n) n a (ak c.a1) (ak c.x3) (ak pb) nm is (x.items.length:Int) (i:Int)) h _;unfold ou;by_cases hi:i<x.items.length
  .rw[if_pos (by simpa using hi)];obtain⟨u,hu⟩:=kB (l:=x.items) (v:=(i:Int)) (by omega) (by omega);obtain⟨v,hv'⟩:=kB (l:=y.items) (v:=(i:Int)) (by omega) (by omega);rw[yD hu,yD hv'] at hv;unfold OC at hv;refine (ix.fr z.fr).ix (by omega) (aD hu).2 λ_ _ c1=>c1.pL (l:=li) rfl rfl ?_;refine z.new λsb h2' z _=>?_;have J:∀h3,Z h0 h3 (.ar sb (Ta (S8 T i)) aC::o::(WW c fn k++(.sl nm 1 dT (T.map .string) gN::.ar pb [vi q.1,vi q.2] cz::L))) ->
     Wp (gw (bw.at n) n a (ak c.a1) (ak c.x3) (ak pb) nm (i:Int) u (ak sb) is (x.items.length:Int) (i:Int)) h3 λr h'=>match r with
    |.inl _=>va c h0 res p o L m' mX false h'
    |.inr v=>va c h0 res p o L m' v.1 v.2 h':=by
    intro h3 z;unfold gw;refine z.ld 4 (o:=0) (l:=.raw) (x:=c.fn) ?_;have cA:∀{h},Z h0 h L->True:=λ_=>trivial;refine (LB.cl (l1.fr z.fr λx=>x)).ld (o:=0) (l:=.sl) (x:=c.s2) rfl rfl ?_;refine z.ld 6 (o:=1) (l:=li) (x:=q.2) ?_;refine G2.Pj z (aD hy).1 (aD hy).2 λay ks' is' nd'=>?_;obtain⟨gy,cy⟩:=nd'.cl;refine (nd'.fr z.fr).AR ?_;obtain⟨gi,ri⟩:=nd'.items;have hgi:gi<=h0.next:=by
     have hne:is'.len≠0:=(by have:=nd'.items.len;omega);obtain⟨_,_,_,cs,base,e,h2,_⟩:=ri.2.resolve_left hne;exact z.HX.dW _ _ _ _ _ h2
    refine (qy.fr ri z.fr λx=>x.elim).Ua (enc:=vi) (by omega) (aD hv').2 λai ci=>ci.pL (l:=li) rfl rfl ?_;refine z.fI 0 (x:=(S8 T i:bN [li,.str])) ?_;have zd:=z.drop;refine PA.app zd hp (S8 T i) (by unfold cK;omega) (λb hb=>?_) λs' h4 o' hp' z4 back=>?_
    .simp only[aei,aaM,ael,or_false] at hb;rcases hb with rfl|rfl|rfl|rfl|rfl
     .exact ae5 zd (abQ _ (by unfold WW;exact AT _ (AT _ By)))
     .exact nbB zd (LB.cl (l1.fr z.fr λx=>x)) (by have:=LB.lt l1 z.HX;show c.a1+1<=h0.next;omega)
     .exact ae5 zd (aa5 _ (AT _ By))
     .have cy':=cy.fr z.fr λx=>x.elim;refine nbB zd (b:=ay) cy' ?_;obtain⟨_,cs,base,e,h2,_⟩:=cy;exact z.HX.dW _ _ _ _ _ h2
     .exact nbB zd ci hgi
    .rw[ah];unfold nH;rw[if_pos (by rfl),ah];refine jX (c:=((ak c.x1,ak c.a0,ak c.a1,ak c.x3):Addr×Addr×Addr×Addr)) rfl ?_;cases e1:S9 N c.r1 N2 c.r2 f met (u,v) with
     |none=>rw[e1] at hv;cases hv
     |some w=>
     obtain⟨m1,r1⟩:=w;rw[e1] at hv;refine (V n h4 (u,v) met m1 r1 s' (p++[S8 T i]) o' fn k _ (by omega) e1 hM hp' (by rw[aaQ];show p.length+1+f<=5000;omega) z4).mono λr h5 hr=>?_;obtain⟨fn2,k2,hM2,hr⟩:=hr;cases r1 with
     |some pq=>
      simp only at hv hr;cases hv;obtain⟨ht,g,z5⟩:=hr;rw[if_pos (by simpa using ht)];refine ag.2 ?_;have z6:=z5.perm (List.Perm.swap _ _ _);have z7:=(back h5 _ z6).perm (List.Perm.swap _ _ _);rw[abp] at z7;exact va.sub (X:=.sl nm 1 dT (T.map .string) gN::.ar pb [vi q.1,vi q.2] cz::L) ⟨fn2,k2,hM2,rfl,g,z7⟩ (List.Sublist.cons _ (List.Sublist.cons _ (adB _)))
     |none=>
      simp only at hv hr;obtain⟨ht,z5⟩:=hr;rw[if_neg (by rw[ht];simp),uv (B:=80) (by omega) (by omega)];exact ih (i+1) h5 m1 m' res fn2 k2 (by omega) (by omega) hv hM2 (back h5 _ z5)
   refine z.st 0 (cs':=[vi (i:Int),.string (ofBytes [])]) λh3 z=>?_;have nl:nm.len=T.length:=by
    have o:qQ h3 nm 1 dT (T.map .string) gN:=z.get 5 rfl;have:=o.1;simp at this;omega
   by_cases hTn:T=[]
   .rw[if_neg (by rw[nl,hTn];simp)];refine J h3 ?_;have:S8 T i=((i:Int),ofBytes []):=(by rw[hTn];rfl);rw[this];exact z
   .have hTl:=hT.resolve_left hTn;rw[if_pos (by rw[nl,hTl];simp;omega)];obtain⟨t,ht⟩:=jy (l:=T) (i:=i) (by omega);refine adl z (IN (i:=5) rfl) ht λat' g ct=>ct.pL (l:=.str) rfl rfl ?_;refine z.st 0 (cs':=[vi 0,.string t]) λh4 z=>?_;refine J h4 ?_;have:S8 T i=(0,t):=(by unfold S8;rw[ht]);rw[this];exact z
  .rw[if_neg (by simpa using hi)];rw[aaS (by omega)] at hv;unfold OC at hv;cases hv;refine ag.2 ?_;exact va.sub (X:=.sl nm 1 dT (T.map .string) gN::.ar pb [vi q.1,vi q.2] cz::L) ⟨fn,k,hM,rfl,z⟩ (List.Sublist.cons _ (List.Sublist.cons _ (adB _)))
end
section
variable {α β:Type}{h h' h0:af}{L R:List bj}{N N2:List an}{Q:β->af->Prop}
theorem WY (f:Nat):Tb (f+1)=Tb f+100:=by unfold Tb;omega
theorem WZ (f:Nat):S7+300<=Tb f:=by unfold Tb;omega
def KsL (N:List an):Prop:=∀x∈N,x.keys.length=(if x.kind=10 then x.items.length else 0)
theorem Zn {c:SC}(G1:jI h0 c.s1 N)(G2:jI h0 c.s2 N2)(l0:LB h0 c.a0 [aE c.s1,vi c.r1] aj)(l1:LB h0 c.a1 [aE c.s2,vi c.r2] aj)(f1:gf N)(f2:gf N2)(i1:qG N N.length)(i2:qG N2 N2.length)(k1:KsL N)(k2:KsL N2):∀f,ae4 h0 c N N2 f:=by
 intro f
 induction f with
 |zero=>intro n h q met m' res a p o fn k L _ hv;cases hv
 |succ f ih=>
  intro n h q met m' res a p o fn k L hn hv hM hp hpf z;obtain⟨qa,qb⟩:=q;rw[WY] at hn;have hS:=WZ f;obtain⟨n,rfl⟩:∃n',n=n'+1:=⟨n-1,by omega⟩;show Wp (ry (bw.at n) n (qa,qb) a (ak c.x1) (ak c.a0) (ak c.a1) (ak c.x3)) h _;unfold ry;refine z.new λx0 h1 z _=>?_;refine z.ld 3 (o:=0) (l:=.mp) (x:=some c.m) ?_;refine z.fI 0 (x:=((qa,qb):bN [li,li])) ?_;unfold S9 at hv;refine z.jf 2 (k:=Xg qa qb) rfl (λv e=>?_) (λe=>?_)
  .rw[hM qa qb] at e;split at e
   .rename_i hm;cases e;rw[if_pos hm] at hv;cases hv;refine⟨true,rfl,?_⟩;rw[if_pos rfl];exact ag.2 ⟨fn,k,hM,rfl,z.drop⟩
   .cases e
  .rw[hM qa qb] at e;split at e
   .cases e
   .rename_i hm;rw[if_neg hm] at hv;rw[if_neg (by simp)];refine z.ld 3 (o:=0) (l:=.mp) (x:=some c.m) ?_;refine z.fI 0 (x:=((qa,qb):bN [li,li])) ?_;refine z.mJ 2 (k:=Xg qa qb) rfl λh2 k' z=>?_;have hM2:=hM.rC qa qb;have z:Z h0 h2 (.ar x0 [vi qa,vi qb] cz::o::(WW c (wX fn (Xg qa qb) (.bool true)) k'++L)):=z;generalize wX fn (Xg qa qb) (.bool true)=fn2 at z hM2;refine (LB.cl (l0.fr z.fr λx=>x)).fI (x:=((c.s1,c.r1):bN [.sl,li])) rfl ?_;refine (LB.cl (l1.fr z.fr λx=>x)).fI (x:=((c.s2,c.r2):bN [.sl,li])) rfl ?_;refine z.fI 0 (x:=((qa,qb):bN [li,li])) ?_;cases hx:gt N qa with
    |none=>rw[hx] at hv;cases hv
    |some x=>
    cases hy:gt N2 qb with
    |none=>rw[hx,hy] at hv;cases hv
    |some y=>
    rw[hx,hy] at hv;simp only at hv;rw[ah];refine (WQ z G1 G2 f1 f2 i1 i2 (k1 x (aF hx)) (k2 y (aF hy)) hx hy (n:=n) (by omega)).mono λr h3 hr=>?_;cases em:FH N c.r1 N2 c.r2 x y with
    |none=>
     rw[em] at hr hv;obtain⟨ht,z⟩:=hr;cases hv;rw[if_pos (by rw[ht];rfl)];refine PA.copy z.drop hp (by unfold cK;omega) λs' h4 g' z4=>ag.2 ?_;refine⟨fn2,k',hM2,rfl,g',?_⟩;rw[adG];exact z4
    |some T=>
     rw[em] at hr hv;obtain⟨ht,g,z⟩:=hr;simp only at hv;obtain⟨hxy,eT⟩:=Qu em;rw[if_neg (by rw[ht];simp)];refine (LB.cl (l0.fr z.fr λx=>x)).ld (o:=0) (l:=.sl) (x:=c.s1) rfl rfl ?_;refine z.ld 1 (o:=0) (l:=li) (x:=qa) ?_;refine G1.Pj z (aD hx).1 (aD hx).2 λax ks is nd=>?_;refine (nd.fr z.fr).AR ?_;rw[nd.items.len,ah];have z5:Z h0 h3 (o::(WW c fn2 k'++(.sl r.1 1 dT (T.map .string) g::.ar x0 [vi qa,vi qb] cz::L))):=
      z.perm (show ([bj.sl r.1 1 dT (T.map .string) g,.ar x0 [vi qa,vi qb] cz]++((o::WW c fn2 k')++L)).Perm ((o::WW c fn2 k')++([bj.sl r.1 1 dT (T.map .string) g,.ar x0 [vi qa,vi qb] cz]++L)) from afE _ _ _)
     have hTl:T=[]\/T.length=x.items.length:=by
      have:=k1 x (aF hx);by_cases hk:x.kind=10
      .rw[if_pos hk] at this;exact .inr (by rw[eT,adq,this])
      .rw[if_neg hk] at this;exact .inl (by rw[eT,abn this];rfl)
     refine (ae6 (q:=(qa,qb)) (x:=x) (y:=y) (T:=T) ih G2 l1 hTl hy hxy (f1.map x (aF hx)).1 nd.items hp (by omega) n 0 h3 _ m' res fn2 k' (by have:=(f1.map x (aF hx)).1;omega) (agx _) hv hM2 z5).mono λw h4 hw=>?_;cases w with
     |inl _=>exact ag.2 hw
     |inr v=>exact ag.2 hw
theorem ae7 {c0 c1:Nat}{s1 s2:Sl}{r1 r2:Int}(z:Z h0 h L)(G1:jI h s1 N)(G2:jI h s2 N2)(l0:LB h c0 [aE s1,vi r1] aj)(l1:LB h c1 [aE s2,vi r2] aj)(f1:gf N)(f2:gf N2)(i1:qG N N.length)(i2:qG N2 N2.length)(k1:KsL N)(k2:KsL N2)(e1:IR N.length r1)(e2:IR N2.length r2){n:Nat}(hn:Tb OD<=n) :
  Wp (oU n (ak c0) (ak c1)) h λr h'=>r.2.2=true/\Fr (λ_=>False) h h'/\match Gy N r1 r1 N2 r2 r2 with
   |none=>r.2.1=false
   |some q=>r.2.1=true/\∃g,qQ h' r.1 2 aC (Bl q) g/\(g=0\/h.next<g):=by
 unfold oU;have z:=Z.start z.wf;refine z.ad7 λm h1 z=>z.new λx1 h2 z _=>z.st 0 (cs':=[Value.map (some m)]) λh3 z=>z.new λx3 h4 z _=>?_
 let c:SC:=⟨m,x1,x3,c0,c1,s1,r1,s2,r2⟩
 refine z.st 0 (cs':=[c.fn]) λh5 z=>?_;have z:Z h h5 ([.ar x3 [c.fn] eC,.ar x1 [Value.map (some m)] ns,.map m cz (λ_=>none) 0]++[]):=z;refine z.ld 0 (o:=0) (l:=.raw) (x:=c.fn) ?_;refine (LB.cl (l0.fr z.fr λx=>x)).ld (o:=1) (l:=li) (x:=r1) rfl rfl ?_;refine (LB.cl (l1.fr z.fr λx=>x)).ld (o:=1) (l:=li) (x:=r2) rfl rfl ?_;have z:=Z.sy (pre:=[_,_,_]) z [2,1,0] (by simp only[OF,aa0];decide);have z:Z h h5 (WW c (λ_=>none) 0++[]):=z;have z6:=z.add (Fr.refl z.wf) (o:=.sl mX 2 aC [] 0) qQ.nil (.inl rfl);unfold rz;rw[if_pos (by rfl),ah,ah];refine jX (c:=((ak c.x1,ak c.a0,ak c.a1,ak c.x3):Addr×Addr×Addr×Addr)) rfl ?_;obtain⟨m',er,_⟩:=Qw (r:=r1) (s:=r2) f1 f2 i1 i2 e1 e2;refine (Zn (c:=c) G1 G2 l0 l1 f1 f2 i1 i2 k1 k2 OD n h5 (r1,r2) [] m' _ mX [] _ (λ_=>none) 0 [] hn er (λa b=>by rw[if_neg (by simp)]) PA.nil (by unfold OD;simp) z6).mono λr h6 hr=>ag.2 ?_;obtain⟨fn,k,_,hr⟩:=hr;cases hq:Gy N r1 r1 N2 r2 r2 with
 |none=>
  rw[hq] at hr;exact⟨rfl,hr.2.fr,hr.1⟩
 |some q=>
  rw[hq] at hr;obtain⟨ht,g,z7⟩:=hr;have:=z7.own _ By;exact⟨rfl,z7.fr,ht,g,this.1,this.2⟩
end
section
variable {α β:Type}{h h' h0:af}{L R:List bj}{N N2:List an}{root:Int}{Q:β->af->Prop}
theorem Bc (d:Vd N root)(f:gf N):gf (rB N root):=⟨by rw[ui d];exact f.len,λy hy=>by
 have:=(Zd d f.bd).2.2 y hy;exact⟨this.2,this.1⟩,λy hy=>by
 rcases yE d hy with rfl|⟨x,hx,_,h2,_⟩
 .show (ofBytes []).size<=_;decide
 .rw[h2];exact f.txt x hx⟩
theorem gf.vd (f:gf N)(h:Sh.gc N root=0):Vd N root:=by
 have hc:=f.gc root;rw[h] at hc;exact vC f.bd.2.2 f.bd.1 (by omega) f.k0 hc
theorem ir0 {n m:Nat}{r:Int}(e:m=n)(h:IR n r):IR m 0:=by
 have:=h.1;have:=h.2;exact⟨by omega,by omega⟩
noncomputable def Qx (N:List an)(r:Int)(N2:List an)(s:Int):Option PT:=Gy (rB N r) 0 0 (rB N2 s) 0 0
def SrR (N:List an)(r:Int)(N2:List an)(s:Int)(nx:Nat)(v:Sl×Bool×Bool)(h':af):Prop:=
 (gc N r=0/\gc N2 s=0->v.2.2=true/\match Qx N r N2 s with
  |none=>v.2.1=false
  |some q=>v.2.1=true/\∃g,qQ h' v.1 2 aC (Bl q) g/\(g=0\/nx<g))/\(¬(gc N r=0/\gc N2 s=0)->v=(mX,false,false))
def Tc:Nat:=Tb OD+fuN
theorem Qy {n:Nat}(h:Tc<=n):Tb OD<=n/\fuN<=n/\KF+66000<n:=by
 have h1:Tc=Tb OD+fuN:=rfl;have h2:=WZ OD;have h3:=(WN (aaR S7)).2.2;revert h h1 h2 h3;generalize Tc=a;generalize Tb OD=b;generalize fuN=c;generalize S7=d;generalize KF=e;intro h h1 h2 h3;omega
theorem SrR.mono {r s:Int}{n1 n2:Nat}{v:Sl×Bool×Bool}(x:SrR N r N2 s n2 v h')(h:n1<=n2):SrR N r N2 s n1 v h':=by
 refine⟨λhh=>?_,x.2⟩;obtain⟨a,b⟩:=x.1 hh;refine⟨a,?_⟩;cases hf:Qx N r N2 s with
 |none=>rw[hf] at b;exact b
 |some q=>
  rw[hf] at b;obtain⟨b1,g,b2,b3⟩:=b;exact⟨b1,g,b2,b3.imp id λx=>by omega⟩
theorem He {s1 s2:Sl}{r1 r2:Int}(z:Z h0 h L)(G1:jI h0 s1 N)(G2:jI h0 s2 N2)(f1:gf N)(f2:gf N2){n:Nat}(hn:Tc<=n) :
  Wp (n9 n (s1,r1) (s2,r2)) h λv h'=>SrR N r1 N2 r2 h0.next v h'/\Fr (λ_=>False) h h':=by
 obtain⟨n1,n2,n3⟩:=Qy hn;have G1':=G1.fr z.fr;have G2':=G2.fr z.fr;have hle:=z.fr.next
 have z:=Z.start z.wf
 suffices hh:Wp (n9 n (s1,r1) (s2,r2)) h λv h'=>SrR N r1 N2 r2 h.next v h'/\Fr (λ_=>False) h h' from hh.mono λv h' a=>⟨a.1.mono hle,a.2⟩
 unfold n9;refine z.new λx0 h1 z _=>z.new λx1 h2 z _=>?_;refine z.fI 1 (x:=((s1,r1):bN [.sl,li])) ?_;rw[ah];refine (Cc z G1' f1 f1.k0 (f1.gc r1) n2 n3).mono λy h3 hy=>?_;obtain⟨⟨o1,q1⟩,w1⟩:=y;by_cases c1:gc N r1=0
 .rw[if_pos c1] at hy;obtain⟨e1,e2,m1⟩:=hy;simp only at e1 e2 m1;subst e1;subst e2;refine m1.on λX z back=>?_;refine z.new λx4 h4 z _=>z.st 0 (cs':=[aE o1,vi 0]) λh5 z=>?_;have z:Z h h5 (.ar x4 [aE o1,vi 0] aj::.ar x1 [aE s2,vi r2] aj::.ar x0 [aE s1,vi r1] aj::X):=z;refine z.fI 1 (x:=((s2,r2):bN [.sl,li])) ?_;rw[ah];refine (Cc z G2' f2 f2.k0 (f2.gc r2) n2 n3).mono λy h6 hy=>?_;obtain⟨⟨o2,q2⟩,w2⟩:=y;by_cases c2:gc N2 r2=0
  .rw[if_pos c2] at hy;obtain⟨e1,e2,m2⟩:=hy;simp only at e1 e2 m2;subst e1;subst e2;refine m2.on λX2 z back2=>?_;refine z.new λx8 h7 z _=>z.st 0 (cs':=[aE o2,vi 0]) λh8 z=>?_;have z:Z h h8 (.ar x8 [aE o2,vi 0] aj::.ar x4 [aE o1,vi 0] aj::.ar x1 [aE s2,vi r2] aj::.ar x0 [aE s1,vi r1] aj::(X++X2)):=by simpa using z
   rw[if_neg (by simp),if_neg (by simp)];have R1:jI h8 o1 (rB N r1):=(back h8 (.ar x8 [aE o2,vi 0] aj::.ar x4 [aE o1,vi 0] aj::.ar x1 [aE s2,vi r2] aj::.ar x0 [aE s1,vi r1] aj::X2) (z.perm (by
    show ([_,_,_,_]++(X++X2)).Perm (([_,_,_,_]++X2)++X);rw[abp];exact afY _ aeW))).read
   have R2:jI h8 o2 (rB N2 r2):=(back2 h8 (.ar x8 [aE o2,vi 0] aj::.ar x4 [aE o1,vi 0] aj::.ar x1 [aE s2,vi r2] aj::.ar x0 [aE s1,vi r1] aj::X) (by simpa using z)).read;have d1:=f1.vd c1;have d2:=f2.vd c2;have i1:=ir0 (ui d1) d1.rt;have i2:=ir0 (ui d2) d2.rt;refine (ae7 z R1 R2 (z.get 1 rfl:LB _ x4 [aE o1,vi 0] aj) (z.get 0 rfl:LB _ x8 [aE o2,vi 0] aj) (Bc d1 f1) (Bc d2 f2) (D7 d1) (D7 d2) (λy hy=>LY d1 hy) (λy hy=>LY d2 hy) i1 i2 n1).mono λv h9 hv=>?_;obtain⟨v1,v2,v3⟩:=hv;refine⟨⟨λ_=>⟨v1,?_⟩,λq=>absurd ⟨c1,c2⟩ q⟩,(z.pure v2).fr⟩;show match Gy (rB N r1) 0 0 (rB N2 r2) 0 0 with
    |none=>v.2.1=false
    |some q=>v.2.1=true/\∃g,qQ h9 v.1 2 aC (Bl q) g/\(g=0\/h.next<g)
   cases hf:Gy (rB N r1) 0 0 (rB N2 r2) 0 0 with
   |none=>rw[hf] at v3;exact v3
   |some q=>
    rw[hf] at v3;obtain⟨b1,g,b2,b3⟩:=v3;exact⟨b1,g,b2,b3.imp id λx=>by have:=z.fr.next;omega⟩
  .rw[if_neg c2] at hy;obtain⟨e1,z⟩:=hy;simp only at e1;subst e1;refine z.new λx8 h7 z _=>z.st 0 (cs':=[aE o2,vi q2]) λh8 z=>?_;rw[if_neg (by simp),if_pos (by simp)];exact ag.2 ⟨⟨λq=>absurd q.2 c2,λ_=>rfl⟩,z.fr⟩
 .rw[if_neg c1] at hy;obtain⟨e1,z⟩:=hy;simp only at e1;subst e1;refine z.new λx4 h4 z _=>z.st 0 (cs':=[aE o1,vi q1]) λh5 z=>?_;have z:Z h h5 (.ar x4 [aE o1,vi q1] aj::.ar x1 [aE s2,vi r2] aj::.ar x0 [aE s1,vi r1] aj::[]):=z;refine z.fI 1 (x:=((s2,r2):bN [.sl,li])) ?_;rw[ah];refine (Cc z G2' f2 f2.k0 (f2.gc r2) n2 n3).mono λy h6 hy=>?_;obtain⟨⟨o2,q2⟩,w2⟩:=y;have hz:∃L,Z h h6 L:=by
   by_cases c2:gc N2 r2=0
   .rw[if_pos c2] at hy;exact⟨_,hy.2.2.z⟩
   .rw[if_neg c2] at hy;exact⟨_,hy.2⟩
  obtain⟨L',z⟩:=hz;refine z.new λx8 h7 z _=>z.st 0 (cs':=[aE o2,vi q2]) λh8 z=>?_;rw[if_pos (by simp)];exact ag.2 ⟨⟨λq=>absurd q.1 c1,λ_=>rfl⟩,z.fr⟩
noncomputable def FI (N:List an)(r:Int)(N2:List an)(s:Int):Bool:=@decide (gc N r=0/\gc N2 s=0/\Qv (rB N r) 0 0 (rB N2 s) 0 0) (Classical.propDecidable _)
theorem Qz {r s:Int}(f1:gf N)(f2:gf N2)(c1:gc N r=0)(c2:gc N2 s=0):Qx N r N2 s=none↔Qv (rB N r) 0 0 (rB N2 s) 0 0:=by
 have d1:=f1.vd c1;have d2:=f2.vd c2;have i1:=ir0 (ui d1) d1.rt;have i2:=ir0 (ui d2) d2.rt;obtain⟨_,_,h⟩:=Qw (r:=0) (s:=0) (Bc d1 f1) (Bc d2 f2) (D7 d1) (D7 d2) i1 i2;exact h
theorem oJ {s1 s2:Sl}{r1 r2:Int}(z:Z h0 h L)(G1:jI h0 s1 N)(G2:jI h0 s2 N2)(f1:gf N)(f2:gf N2){n:Nat}(hn:Tc<=n) :
  Wp (fV n (s1,r1) (s2,r2)) h λv h'=>v=FI N r1 N2 r2/\Fr (λ_=>False) h h':=by
 have G1:=G1.fr z.fr;have G2:=G2.fr z.fr;have z:=Z.start z.wf;unfold fV;refine z.new λx0 h1 z _=>z.new λx1 h2 z _=>?_;refine z.fI 1 (x:=((s1,r1):bN [.sl,li])) ?_;refine z.fI 0 (x:=((s2,r2):bN [.sl,li])) ?_;rw[ah];refine (He z G1 G2 f1 f2 hn).mono λv h3 hv=>?_;obtain⟨⟨a,b⟩,fr⟩:=hv;have fr:=(z.pure fr).fr;by_cases hc:gc N r1=0/\gc N2 r2=0
 .obtain⟨a1,a2⟩:=a hc;rw[if_pos a1];refine ag.2 ⟨?_,fr⟩;have hq:=Qz f1 f2 hc.1 hc.2;unfold FI;cases hf:Qx N r1 N2 r2 with
  |none=>
   rw[hf] at a2;rw[a2];exact (@decide_eq_true _ (Classical.propDecidable _) ⟨hc.1,hc.2,hq.1 hf⟩).symm
  |some q=>
   rw[hf] at a2;rw[a2.1];exact (@decide_eq_false _ (Classical.propDecidable _) λx=>by rw[hq.2 x.2.2] at hf;cases hf).symm
 .have:=b hc;subst this;rw[if_neg (by simp)];refine ag.2 ⟨?_,fr⟩;unfold FI;exact (@decide_eq_false _ (Classical.propDecidable _) λx=>hc ⟨x.1,x.2.1⟩).symm
def FiR (N:List an)(r:Int)(N2:List an)(s:Int)(v:Sl×Bool)(h':af):Prop:=
 (gc N r=0/\gc N2 s=0->match Qx N r N2 s with
  |none=>v.2=false
  |some q=>v.2=true/\∃g,qy h' v.1 2 (Bl q) g)/\(¬(gc N r=0/\gc N2 s=0)->v=(mX,false))
theorem L7 {s1 s2:Sl}{r1 r2:Int}(z:Z h0 h L)(G1:jI h0 s1 N)(G2:jI h0 s2 N2)(f1:gf N)(f2:gf N2){n:Nat}(hn:Tc<=n) :
  Wp (se n (s1,r1) (s2,r2)) h λv h'=>FiR N r1 N2 r2 v h'/\Fr (λ_=>False) h h':=by
 have G1:=G1.fr z.fr;have G2:=G2.fr z.fr;have z:=Z.start z.wf;unfold se;refine z.new λx0 h1 z _=>z.new λx1 h2 z _=>?_;refine z.fI 1 (x:=((s1,r1):bN [.sl,li])) ?_;refine z.fI 0 (x:=((s2,r2):bN [.sl,li])) ?_;rw[ah];refine (He z G1 G2 f1 f2 hn).mono λv h3 hv=>ag.2 ?_;obtain⟨⟨a,b⟩,fr⟩:=hv;refine⟨⟨λhc=>?_,λhc=>?_⟩,(z.pure fr).fr⟩
 .obtain⟨a1,a2⟩:=a hc;cases hf:Qx N r1 N2 r2 with
  |none=>rw[hf] at a2;exact a2
  |some q=>
   rw[hf] at a2;obtain⟨b1,g,b2,_⟩:=a2;exact⟨b1,g,b2.BB⟩
 .rw[b hc]
end
section
variable {α β:Type}{h h' h0:af}{L:List bj}{N:List an}{Mi:Sl}{root:Int}{Q:β->af->Prop}
abbrev GB (b:Nat)(Mi:Sl)(root:Int):bj:=.ar b [aE Mi,vi root] aj
theorem adn (G:jI h0 Mi N){x0:Nat}(hN:N.length<=40) :
  ∀(n i:Nat) (p q:Int) (h:af),N.length-i<n->i<=N.length->(∀(j:Nat) (x:an),j<i->N[j]?=some x->x.text.size<=100/\x.keys.length<=80/\x.items.length<=80)->Z h0 h (GB x0 Mi root::L) ->
   Wp (fk n (ak x0) p q (i:Int)) h λy h'=>(∀w,y=.inl w->∀(j:Nat) (x:an),N[j]?=some x->x.text.size<=100/\x.keys.length<=80/\x.items.length<=80)/\(∀b,y=.inr b->b=false)/\Z h0 h' (GB x0 Mi root::L):=by
 intro n
 induction n with
 |zero=>intro i p q h h1;omega
 |succ n ih=>
  intro i p q h h1 h2 hf z;rw[u9];unfold mS;refine z.ld 0 (o:=0) (l:=.sl) (x:=Mi) ?_;rw[G.len];by_cases hi:i<N.length
  .rw[if_pos (by simp;omega)];obtain⟨x,hx⟩:=jy hi;refine z.ld 0 (o:=0) (l:=.sl) (x:=Mi) ?_;refine G.at z (by omega) (by simpa using hx) λa ks is nd ik ii=>nd.fI ?_;refine z.node λx2 h2' z=>?_;have fin:Wp (AI (Sum.inr false:(Int×Int)⊕Bool)) h2' λy h'=>(∀w,y=.inl w->∀(j:Nat) (x:an),N[j]?=some x->x.text.size<=100/\x.keys.length<=80/\x.items.length<=80)/\(∀b,y=.inr b->b=false)/\Z h0 h' (GB x0 Mi root::L):=by
    rw[ag];exact⟨λw hw=>(by cases hw),λb hb=>(by cases hb;rfl),z.drop⟩
   refine z.ld 0 (o:=1) (l:=.str) (x:=x.text) ?_;by_cases c1:(100:Int)<x.text.size
   .rw[if_pos (by simpa using c1)];exact fin
   rw[if_neg (by simpa using c1)];refine z.ld 0 (o:=3) (l:=.sl) (x:=ks) ?_;rw[ik.len];by_cases c2:(80:Int)<x.keys.length
   .rw[if_pos (by simpa using c2)];exact fin
   rw[if_neg (by simpa using c2)];refine z.ld 0 (o:=4) (l:=.sl) (x:=is) ?_;rw[ii.len];by_cases c3:(80:Int)<x.items.length
   .rw[if_pos (by simpa using c3)];exact fin
   rw[if_neg (by simpa using c3)];unfold kA;refine z.ld 0 (o:=3) (l:=.sl) (x:=ks) (z.ld 0 (o:=4) (l:=.sl) (x:=is) (z.ld 0 (o:=1) (l:=.str) (x:=x.text) ?_));rw[uv (B:=40) (by omega) (by omega)];refine ih (i+1) _ _ h2' (by omega) (by omega) (λj y hj hy=>?_) z.drop;by_cases hji:j=i
   .subst hji;rw[hx] at hy;cases hy;exact⟨by omega,by omega,by omega⟩
   .exact hf j y (by omega) hy
  .rw[if_neg (by simp;omega),ag];refine⟨λw _ j x hx=>hf j x ?_ hx,λb hb=>(by cases hb),z⟩;have:=(List.getElem?_eq_some_iff.1 hx).1;omega
theorem W1 (G:jI h0 Mi N)(z:Z h0 h L){n:Nat}(hn:50<n):Wp (oc n (Mi,root)) h λy h'=>(y=true->gf N)/\Z h0 h' L:=by
 unfold oc;refine z.new λx0 h1 z _=>?_;refine z.ld 0 (o:=0) (l:=.sl) (x:=Mi) ?_;rw[G.len];by_cases c1:(40:Int)<N.length
 .rw[if_pos (by simpa using c1),ag];exact⟨λh=>(by cases h),z.drop⟩
 rw[if_neg (by simpa using c1),ah];refine (adn G (by omega) n 0 0 0 h1 (by omega) (by omega) (λj x hj=>by omega) z).mono λy h2 hy=>?_;obtain⟨f1,f2,z⟩:=hy;cases y with
 |inl w=>
  have fg:gf N:=⟨by omega,λx hx=>by
   obtain⟨j,hj⟩:=List.mem_iff_getElem?.1 hx;have:=f1 w rfl j x hj;exact⟨this.2.2,this.2.1⟩,λx hx=>by obtain⟨j,hj⟩:=List.mem_iff_getElem?.1 hx;exact (f1 w rfl j x hj).1⟩
  show Wp (if _ then _ else _) h2 _;split
  .rw[ag];exact⟨λ_=>fg,z.drop⟩
  .rw[ag];exact⟨λ_=>fg,z.drop⟩
 |inr b=>
  show Wp (AI b) h2 _;rw[ag];exact⟨λh=>(by rw[f2 b rfl] at h;cases h),z.drop⟩
theorem ado {p:PT}{i:Nat}{x:Int×ByteArray}(hx:p[i]?=some x):((Bl p).drop (i*2)).take 2=Ta x:=by
 induction p generalizing i with
 |nil=>simp at hx
 |cons a p ih=>
  cases i with
  |zero=>simp at hx;subst hx;rfl
  |succ i=>
   have:=ih (i:=i) (by simpa using hx);rw[show (i+1)*2=i*2+2 by omega];exact this
theorem qy.S8 {s:Sl}{p:PT}{g:Nat}(r:qy h s 2 (Bl p) g){i:Nat}{x:Int×ByteArray}(hx:p[i]?=some x){f:Addr->M β}(q:∀a,Cl h a (Ta x) g->Wp (f a) h Q):Wp (sh (av s (i:Int) 2) f) h Q:=by
 have hl:=r.1;rw[yG] at hl;have hlt:=(List.getElem?_eq_some_iff.1 hx).1;refine r.ix (by omega) (by omega) λa c=>q a ?_;rw[IS,ado hx] at c;exact c
theorem Zo {a b:Sl}{p q:PT}{g g':Nat}(ra:qy h a 2 (Bl p) g)(rb:qy h b 2 (Bl q) g')(hl:p.length=q.length)(hp:p.length<=5000):∀(n i:Nat),p.length-i<n->i<=p.length->Wp (dV n a b (i:Int)) h λr h'=>h'=h/\((r=.inl ()/\p.drop i=q.drop i)\/(r=.inr false/\p.drop i≠q.drop i)):=by
 have al:a.len=p.length:=by have:=ra.1;rw[yG] at this;omega
 intro n
 induction n with
 |zero=>intro i h1;omega
 |succ n ih=>
  intro i h1 h2;rw[sf];unfold jr;rw[al];by_cases hi:i<p.length
  .rw[if_pos (by simpa using hi)];obtain⟨x,hx⟩:=jy (l:=p) hi;obtain⟨y,hy⟩:=jy (l:=q) (i:=i) (by omega);refine qy.S8 ra hx λad ca=>qy.S8 rb hy λbd cb=>?_;refine ca.fI (ls:=[li,.str]) (x:=x) rfl (cb.fI (ls:=[li,.str]) (x:=y) rfl ?_);rw[drop_cons hx,drop_cons hy];by_cases e:x=y
   .rw[if_neg (by subst e;simp[(uN x.2 x.2).2 rfl]),uv (B:=5000) (by omega) (by omega)];refine (ih (i+1) (by omega) (by omega)).mono λr h' hr=>?_;obtain⟨e2,hr⟩:=hr;refine⟨e2,?_⟩;subst e;rcases hr with⟨q1,q2⟩|⟨q1,q2⟩
    .exact .inl ⟨q1,by rw[q2]⟩
    .exact .inr ⟨q1,λe=>q2 (agl e).2⟩
   .have hne:(decide (x.1=y.1)&&(mI x.2 y.2&&true))=false:=by
     cases hq:(decide (x.1=y.1)&&(mI x.2 y.2&&true)) with
     |false=>rfl
     |true=>
      simp only[IT,decide_eq_true_eq,Bool.and_true] at hq;exact absurd (Prod.ext hq.1 ((uN _ _).1 hq.2)) e
    rw[if_pos (by rw[hne];rfl)];exact ag.2 ⟨rfl,.inr ⟨rfl,λh=>e (agl h).1⟩⟩
  .rw[if_neg (by simpa using hi)];refine ag.2 ⟨rfl,.inl ⟨rfl,?_⟩⟩;rw[aaS (by omega),aaS (by omega)]
theorem L8 {a b:Sl}{p q:PT}{g g':Nat}(ra:qy h a 2 (Bl p) g)(rb:qy h b 2 (Bl q) g')(hp:p.length<=5000){n:Nat}(hn:5000<n):Wp (ju n a b) h λr h'=>h'=h/\r=decide (p=q):=by
 have al:a.len=p.length:=by have:=ra.1;rw[yG] at this;omega
 have bl:b.len=q.length:=by have:=rb.1;rw[yG] at this;omega
 unfold ju;rw[al,bl];by_cases e:p.length=q.length
 .rw[if_neg (by simp;omega),ah];refine (Zo ra rb e hp n 0 (by omega) (by omega)).mono λr h' hr=>?_;obtain⟨rfl,hr⟩:=hr;rw[aeh,aeh] at hr;rcases hr with⟨rfl,q2⟩|⟨rfl,q2⟩
  .exact ag.2 ⟨rfl,(decide_eq_true q2).symm⟩
  .exact ag.2 ⟨rfl,(decide_eq_false q2).symm⟩
 .rw[if_pos (by simp;omega)];exact ag.2 ⟨rfl,(decide_eq_false λq=>e (by rw[q])).symm⟩
theorem vD (z:Z h0 h L){t:ByteArray}{n:Nat}{f:Int×ByteArray×Bool×Sl×Sl->M β}(q:∀h',Z h0 h' L->Wp (f (2,t,false,mX,mX)) h' Q):Wp (sh (dY n t) f) h Q:=by
 rw[ah];unfold dY;refine z.new λx0 h1 z _=>z.st 0 (cs':=[vi 2,.string t,.bool false,aU,aU]) λh2 z=>?_;refine z.fI 0 (x:=((2,t,false,mX,mX):bN [li,.str,.bool,.sl,.sl])) (ag.2 (q h2 z.drop))
end
section
variable {N N2:List an}{r s:Int}
def nvC (N:List an):Nat->Int->NS->Option (Int×NS)
 |0,_,_=>none
 |f+1,k,S=>match gt S.at' k,gt N k with
  |some v,some x=>if 0<=v then some (v,S) else match qs (nvC N f) x (iota x.items.length) ⟨S.at'.set k.toNat S.lF,S.lF+1,S.out⟩ with
   |none=>none
   |some ((ks,is),S2)=>some ((S.lF:Int),⟨S2.at',S2.lF,S2.out.set S.lF ⟨x.kind,x.text,x.ord,ks,is⟩⟩)
  |_,_=>none
theorem ae9 (hN:∀x∈N,x.kind≠10):∀f,nv N f=nvC N f
 |0=>rfl
 |f+1=>by
  funext k S;unfold nv nvC;cases e1:gt S.at' k with
  |none=>rfl
  |some v=>
   cases e2:gt N k with
   |none=>rfl
   |some x=>
    have eo:jc N k=iota x.items.length:=by
     unfold jc uw;rw[e2];simp only;rw[if_neg λh=>hN x (aF e2) h.1]
    simp only;rw[eo,ae9 hN f];rfl
def Zp (N:List an)(r:Int):List an:=match nvC N (N.length+1) r (Xf N.length) with
 |some (_,S)=>S.out
 |none=>[]
theorem aaV (hN:∀x∈N,x.kind≠10):rB N r=Zp N r:=by
 unfold rB Zp;rw[ae9 hN];rfl
def mtC (x y:an):Option (List ByteArray):=if decide (x.kind=y.kind)&&mI x.text y.text&&(x.ord==y.ord)&&decide (x.items.length=y.items.length) then some [] else none
theorem afa {x y:an}(hx:x.keys=[])(hy:y.keys=[]):FH N r N2 s x y=mtC x y:=by
 unfold FH mtC;rw[hx,hy];simp only[List.map_nil,if_true];by_cases h:x.kind≠y.kind\/x.text≠y.text\/x.ord≠y.ord\/x.items.length≠y.items.length
 .rw[if_pos h,if_neg];intro hh;simp only[IT,decide_eq_true_eq,beq_iff_eq] at hh;obtain⟨⟨⟨a,b⟩,c⟩,d⟩:=hh;rcases h with h|h|h|h
  .exact h a
  .exact h ((uN _ _).1 b)
  .exact h c
  .exact h d
 .rw[if_neg h,if_pos];simp only[IT,decide_eq_true_eq,beq_iff_eq];refine⟨⟨⟨?_,?_⟩,?_⟩,?_⟩
  .exact Classical.not_not.1 λe=>h (.inl e)
  .exact (uN _ _).2 (Classical.not_not.1 λe=>h (.inr (.inl e)))
  .exact Classical.not_not.1 λe=>h (.inr (.inr (.inl e)))
  .exact Classical.not_not.1 λe=>h (.inr (.inr (.inr e)))
def Zq (N N2:List an):Nat->List IP->IP->Option (List IP×Option PT)
 |0,_,_=>none
 |f+1,met,q=>if q∈met then some (met,none) else match gt N q.1,gt N2 q.2 with
  |some x,some y=>match mtC x y with
   |none=>some (q::met,some [])
   |some T=>OC (Zq N N2 f) T 0 x.items y.items (q::met)
  |_,_=>none
theorem afb (h1:∀x∈N,x.keys=[])(h2:∀x∈N2,x.keys=[]):∀f,S9 N r N2 s f=Zq N N2 f
 |0=>rfl
 |f+1=>by
  funext met q;unfold S9 Zq;split
  .rfl
  .cases e1:gt N q.1 with
   |none=>rfl
   |some x=>
    cases e2:gt N2 q.2 with
    |none=>rfl
    |some y=>
     simp only;rw[afa (h1 x (aF e1)) (h2 y (aF e2)),afb h1 h2 f]
theorem L9 {F G:List IP->IP->Option (List IP×Option PT)}(h:∀m q x,F m q=some x->G m q=some x){T:List ByteArray}:∀(xs ys:List Int) (i:Nat) (met:List IP) x,OC F T i xs ys met=some x->OC G T i xs ys met=some x
 |[],ys,i,met,x,e=>by unfold OC at e⊢;exact e
 |a::xs,[],i,met,x,e=>by unfold OC at e⊢;exact e
 |a::xs,b::ys,i,met,x,e=>by
  unfold OC at e⊢;cases e1:F met (a,b) with
  |none=>rw[e1] at e;cases e
  |some w=>
   rw[e1] at e;rw[h _ _ _ e1];obtain⟨m,o⟩:=w;cases o with
   |some p=>exact e
   |none=>exact L9 h xs ys (i+1) m x e
theorem Ma:∀(f:Nat) m q x,Zq N N2 f m q=some x->Zq N N2 (f+1) m q=some x
 |0,m,q,x,e=>by cases e
 |f+1,m,q,x,e=>by
  unfold Zq at e⊢;split at e
  .rename_i hm;rw[if_pos hm];exact e
  .rename_i hm;rw[if_neg hm];cases e1:gt N q.1 with
   |none=>rw[e1] at e;cases e
   |some u=>
    cases e2:gt N2 q.2 with
    |none=>rw[e1,e2] at e;cases e
    |some v=>
     rw[e1,e2] at e;simp only at e⊢;cases e3:mtC u v with
     |none=>rw[e3] at e;exact e
     |some T=>rw[e3] at e;exact L9 (λm q x=>Ma f m q x) _ _ _ _ _ e
theorem adp {f g:Nat}(h:f<=g){m:List IP}{q:IP}{x}(e:Zq N N2 f m q=some x):Zq N N2 g m q=some x:=by
 induction h with
 |refl=>exact e
 |step _ ih=>exact Ma _ _ _ _ ih
def Ap (x:an):Bool:=decide (x.kind≠10)&&decide (x.keys.length=0)
theorem Be (h:N.all Ap=true):(∀x∈N,x.kind≠10)/\∀x∈N,x.keys=[]:=by
 rw[adx] at h;refine⟨λx hx=>?_,λx hx=>?_⟩
 .have:=h x hx;simp only[Ap,IT,decide_eq_true_eq] at this;exact this.1
 .have:=h x hx;simp only[Ap,IT,decide_eq_true_eq] at this;exact abn this.2
theorem Zr {M M2:List an}{m:List IP}{o:Option PT}(h1:N.all Ap=true)(h2:N2.all Ap=true)(e1:Zp N r=M)(e2:Zp N2 s=M2)(p1:M.all Ap=true)(p2:M2.all Ap=true)(e:Zq M M2 50 [] (0,0)=some (m,o)):Qx N r N2 s=o:=by
 unfold Qx Gy;rw[aaV (Be h1).1,aaV (Be h2).1,e1,e2,afb (Be p1).2 (Be p2).2,adp (show 50<=OD by unfold OD;omega) e]
def lst (is:List Int):an:=⟨9,ofBytes [],false,[],is⟩
def num (t:List UInt8):an:=⟨2,ofBytes t,false,[],[]⟩
def Td:List an:=[lst [1,2],num [49],num [49]]
def exB:List an:=[lst [1,1],num [49]]
def exC:List an:=[lst [1,2],num [49],num [53]]
def Zs:List an:=[lst [0]]
def exE:List an:=[lst [1],lst [0]]
theorem aaX:Qx Td 0 exC 0=some [(1,ofBytes [])]:=Zr (M:=Td) (M2:=exC) (m:=[(2,2),(1,1),(0,0)]) (by decide +kernel) (by decide +kernel) (by rfl) (by rfl) (by decide +kernel) (by decide +kernel) (by kernel_rfl)
theorem afc:Qx Td 0 exB 0=none:=Zr (M:=Td) (M2:=exB) (m:=[(2,1),(1,1),(0,0)]) (by decide +kernel) (by decide +kernel) (by rfl) (by rfl) (by decide +kernel) (by decide +kernel) (by kernel_rfl)
theorem afd:Qx Zs 0 exE 0=none:=Zr (M:=Zs) (M2:=exE) (m:=[(0,1),(0,0)]) (by decide +kernel) (by decide +kernel) (by rfl) (by rfl) (by decide +kernel) (by decide +kernel) (by kernel_rfl)
theorem afe:Qx Zs 0 Td 0=some []:=Zr (M:=Zs) (M2:=Td) (m:=[(0,0)]) (by decide +kernel) (by decide +kernel) (by rfl) (by rfl) (by decide +kernel) (by decide +kernel) (by kernel_rfl)
end
section
variable {N N2:List an}{r s:Int}
theorem Mb:∀{ms:List Bool} {N:List an},(∀x∈N,nI x=some true)->ms.length=N.length->ms.all id=true->gA ms N=some true
 |[],[],_,_,_=>by unfold gA;rfl
 |[],_::_,_,h,_=>by simp at h
 |_::_,[],_,h,_=>by simp at h
 |m::ms,x::N,hf,hl,ha=>by
  have ih:=Mb (ms:=ms) (N:=N) (λy hy=>hf y (AT _ hy)) (by simpa using hl) (by simp only[agi,IT] at ha;exact ha.2);have hm:m=true:=by simp only[agi,IT,id] at ha;exact ha.1
  subst hm;unfold gA;rw[hf x By,ih];rfl
def aaY (N:List an):Bool:=
 decide (N.length<=4096)&&decide (N.length≠0)&&Gp N 0&&(match y8 KF N 0 (List.replicate N.length false) with
  |none=>false
  |some ms=>decide (ms.length=N.length)&&ms.all id)&&(match lF N 0 with
  |none=>false
  |some c=>match SX KF N N (List.replicate N.length false) with
   |none=>false
   |some ks=>gB ks c&&(match Xd KF N N with
    |some false=>(match dep KF N 0 with
     |some (d,_)=>decide (d<=32)
     |none=>false)
    |_=>false))
theorem Mc (hf:∀x∈N,nI x=some true)(h:aaY N=true):gc N 0=0:=by
 unfold aaY at h;simp only[IT,decide_eq_true_eq] at h;obtain⟨⟨⟨⟨h1,h2⟩,h3⟩,h4⟩,h5⟩:=h
 suffices hh:mT KF N 0=some 0 by unfold gc;rw[hh];rfl
 unfold mT;rw[if_neg (by omega),if_neg h2,if_neg (by rw[h3];decide)];cases e1:y8 KF N 0 (List.replicate N.length false) with
 |none=>rw[e1] at h4;cases h4
 |some ms=>
  rw[e1] at h4;simp only[decide_eq_true_eq,IT] at h4;simp only;rw[Mb hf h4.1 h4.2];simp only;cases e2:lF N 0 with
  |none=>rw[e2] at h5;cases h5
  |some c=>
   rw[e2] at h5;simp only at h5⊢;cases e3:SX KF N N (List.replicate N.length false) with
   |none=>rw[e3] at h5;cases h5
   |some ks=>
    rw[e3] at h5;simp only[IT] at h5⊢;obtain⟨h5,h6⟩:=h5;rw[if_neg (by rw[h5];decide)];cases e4:Xd KF N N with
    |none=>rw[e4] at h6;cases h6
    |some t=>
     cases t with
     |true=>rw[e4] at h6;cases h6
     |false=>
      rw[e4] at h6;simp only at h6⊢;cases e5:dep KF N 0 with
      |none=>rw[e5] at h6;cases h6
      |some w=>
       obtain⟨d,t⟩:=w;rw[e5] at h6;simp only[decide_eq_true_eq] at h6⊢;rw[if_neg (by omega)]
theorem vE (is:List Int):nI (lst is)=some true:=by unfold nI lst;simp[Js]
theorem yl {t:List UInt8}(h:oh (ofBytes t)=true):nI (num t)=some true:=by unfold nI CJ num;simp[h]
theorem QA:oh (ofBytes [49])=true:=by decide +kernel
theorem aff:oh (ofBytes [53])=true:=by decide +kernel
theorem qu {x:an}(h:nI x=some true)(hN:∀x∈N,nI x=some true):∀y∈x::N,nI y=some true:=λy hy=>by
 rcases List.mem_cons.1 hy with rfl|hy
 .exact h
 .exact hN y hy
theorem FJ:∀y∈([]:List an),nI y=some true:=λy hy=>by cases hy
theorem gcA:gc Td 0=0:=Mc (qu (vE _) (qu (yl QA) (qu (yl QA) FJ))) (by decide +kernel)
theorem gcB:gc exB 0=0:=Mc (qu (vE _) (qu (yl QA) FJ)) (by decide +kernel)
theorem gcC:gc exC 0=0:=Mc (qu (vE _) (qu (yl QA) (qu (yl aff) FJ))) (by decide +kernel)
theorem gcD:gc Zs 0=0:=Mc (qu (vE _) FJ) (by decide +kernel)
theorem gcE:gc exE 0=0:=Mc (qu (vE _) (qu (vE _) FJ)) (by decide +kernel)
theorem FK (h:N.all (λx=>decide (x.items.length<=80)&&decide (x.keys.length<=80)&&decide (x.text.size<=100))=true)(hl:N.length<=40):gf N:=by
 rw[adx] at h;refine⟨hl,λx hx=>?_,λx hx=>?_⟩
 .have:=h x hx;simp only[IT,decide_eq_true_eq] at this;exact this.1
 .have:=h x hx;simp only[IT,decide_eq_true_eq] at this;exact this.2
theorem fwA:gf Td:=FK (by decide +kernel) (by decide)
theorem fwB:gf exB:=FK (by decide +kernel) (by decide)
theorem fwC:gf exC:=FK (by decide +kernel) (by decide)
theorem fwD:gf Zs:=FK (by decide +kernel) (by decide)
theorem fwE:gf exE:=FK (by decide +kernel) (by decide)
theorem yH {o:Option PT}(f1:gf N)(f2:gf N2)(c1:gc N r=0)(c2:gc N2 s=0)(h:Qx N r N2 s=o):FI N r N2 s=o.isNone:=by
 have hq:=Qz f1 f2 c1 c2;rw[h] at hq;unfold FI;cases o with
 |none=>exact @decide_eq_true _ (Classical.propDecidable _) ⟨c1,c2,hq.1 rfl⟩
 |some p=>exact @decide_eq_false _ (Classical.propDecidable _) λx=>by have:=hq.2 x.2.2;cases this
theorem ahw:FI Td 0 exB 0=true:=yH fwA fwB gcA gcB afc
theorem ahx:FI Td 0 exC 0=false:=yH fwA fwC gcA gcC aaX
theorem ahy:FI Zs 0 exE 0=true:=yH fwD fwE gcD gcE afd
theorem ahz:FI Zs 0 Td 0=false:=yH fwD fwA gcD gcA afe
end
section
variable {α β:Type}{h h' h0:af}{L:List bj}{N N2:List an}{Q:β->af->Prop}
theorem Md {b cap:Nat}{R:List bC}(l:LB h b (R.flatMap bC.enc) aw)(hR:∀x∈R,IL h x.ks x.kl/\IL h x.is x.il):jI h ⟨some (ak b),R.length,cap⟩ (R.map bC.v):=
 ⟨R,b+1,rfl,l.BB (by rw[jW bC.oL]),hR⟩
theorem ym:IL h mX []:=⟨0,qy.nil rfl⟩
theorem Hf {b n cap:Nat}{l:List Int}(lb:LB h b (l.map vi) au)(hn:l.length=n):IL h ⟨some (ak b),n,cap⟩ l:=⟨_,lb.BB (by simp[hn])⟩
def Dj (b n:Nat)(l:List Int):bC:=⟨9,ofBytes [],false,mX,[],0,⟨some (ak b),n,n+1⟩,l,0⟩
def Bf (t:List UInt8):bC:=⟨2,ofBytes t,false,mX,[],0,mX,[],0⟩
theorem nJ {x:bC}{R:List bC}(h1:IL h x.ks x.kl/\IL h x.is x.il)(h2:∀x∈R,IL h x.ks x.kl/\IL h x.is x.il):∀y∈x::R,IL h y.ks y.kl/\IL h y.is y.il:=λy hy=>by
 rcases List.mem_cons.1 hy with rfl|hy
 .exact h1
 .exact h2 y hy
theorem Bg:∀y∈([]:List bC),IL h y.ks y.kl/\IL h y.is y.il:=λy hy=>by cases hy
theorem W4 (z:Z h0 h L){n:Nat}(hn:Tc<=n):Wp (mh n) h λy h'=>y=true/\Z h0 h' L:=by
 obtain⟨_,_,n3⟩:=Qy hn;unfold mh;refine z.new λx0 _ z _=>vD z λ_ z=>vD z λ_ z=>z.new λx3 _ z _=>z.new λx4 _ z _=>?_;refine z.st 0 (cs':=[.slice (some (ak x3)) 3 4,vi 0]) λ_ z=>?_;refine z.new λx6 _ z _=>vD z λ_ z=>z.new λx8 _ z _=>z.new λx9 _ z _=>?_;refine z.st 0 (cs':=[.slice (some (ak x8)) 2 3,vi 0]) λ_ z=>?_;refine z.new λx11 _ z _=>vD z λ_ z=>vD z λ_ z=>z.new λiK _ z _=>z.new λx15 _ z _=>?_;refine z.st 0 (cs':=[.slice (some (ak iK)) 3 4,vi 0]) λ_ z=>?_;refine z.new λx17 _ z _=>z.new λqH _ z _=>z.new λx19 _ z _=>?_;refine z.st 0 (cs':=[.slice (some (ak qH)) 1 2,vi 0]) λ_ z=>?_;refine z.new λx21 _ z _=>z.new λx22 _ z _=>z.new λx23 _ z _=>z.new λx24 _ z _=>?_;refine z.st 0 (cs':=[.slice (some (ak x23)) 2 3,vi 0]) λh25 z=>?_;have z:Z h0 h25 (.ar x24 [.slice (some (ak x23)) 2 3,vi 0] aj::.ar x23 ([Dj x21 1 [1],Dj x22 1 [0]].flatMap bC.enc) aw::.ar x22 ([0].map vi) au::.ar x21 ([1].map vi) au ::
  .ar x19 [.slice (some (ak qH)) 1 2,vi 0] aj::.ar qH ([Dj x17 1 [0]].flatMap bC.enc) aw::.ar x17 ([0].map vi) au ::
  .ar x15 [.slice (some (ak iK)) 3 4,vi 0] aj::.ar iK ([Dj x11 2 [1,2],Bf [49],Bf [53]].flatMap bC.enc) aw::.ar x11 ([1,2].map vi) au ::
  .ar x9 [.slice (some (ak x8)) 2 3,vi 0] aj::.ar x8 ([Dj x6 2 [1,1],Bf [49]].flatMap bC.enc) aw::.ar x6 ([1,1].map vi) au ::
  .ar x4 [.slice (some (ak x3)) 3 4,vi 0] aj::.ar x3 ([Dj x0 2 [1,2],Bf [49],Bf [49]].flatMap bC.enc) aw::.ar x0 ([1,2].map vi) au::L):=z
 have nil2:∀t,IL h25 (Bf t).ks (Bf t).kl/\IL h25 (Bf t).is (Bf t).il:=λ_=>⟨ym,ym⟩;have GE:jI h25 ⟨some (ak x23),2,3⟩ exE:=Md (R:=[Dj x21 1 [1],Dj x22 1 [0]]) (z.get 1 rfl) (nJ ⟨ym,Hf (z.get 3 rfl) rfl⟩ (nJ ⟨ym,Hf (z.get 2 rfl) rfl⟩ Bg));have GD:jI h25 ⟨some (ak qH),1,2⟩ Zs:=Md (R:=[Dj x17 1 [0]]) (z.get 5 rfl) (nJ ⟨ym,Hf (z.get 6 rfl) rfl⟩ Bg);have GC:jI h25 ⟨some (ak iK),3,4⟩ exC:=Md (R:=[Dj x11 2 [1,2],Bf [49],Bf [53]]) (z.get 8 rfl) (nJ ⟨ym,Hf (z.get 9 rfl) rfl⟩ (nJ (nil2 _) (nJ (nil2 _) Bg)));have GB':jI h25 ⟨some (ak x8),2,3⟩ exB:=Md (R:=[Dj x6 2 [1,1],Bf [49]]) (z.get 11 rfl) (nJ ⟨ym,Hf (z.get 12 rfl) rfl⟩ (nJ (nil2 _) Bg));have GA:jI h25 ⟨some (ak x3),3,4⟩ Td:=Md (R:=[Dj x0 2 [1,2],Bf [49],Bf [49]]) (z.get 14 rfl) (nJ ⟨ym,Hf (z.get 15 rfl) rfl⟩ (nJ (nil2 _) (nJ (nil2 _) Bg)));clear nil2;refine z.fI 13 (x:=((⟨some (ak x3),3,4⟩,0):bN [.sl,li])) (z.fI 7 (x:=((⟨some (ak iK),3,4⟩,0):bN [.sl,li])) ?_);rw[ah];refine (L7 (Z.start z.wf) GA GC fwA fwC hn).mono λv h26 hv=>?_;obtain⟨⟨hv1,_⟩,fr⟩:=hv;have hv1:=hv1 ⟨gcA,gcC⟩;rw[aaX] at hv1;obtain⟨ht,g,rs⟩:=hv1;have z:=z.pure fr;have GA:=GA.fr fr;have GB':=GB'.fr fr;have GC:=GC.fr fr;have GD:=GD.fr fr;have GE:=GE.fr fr;clear fr;refine z.fI 13 (x:=((⟨some (ak x3),3,4⟩,0):bN [.sl,li])) (z.fI 10 (x:=((⟨some (ak x8),2,3⟩,0):bN [.sl,li])) ?_);rw[ah];refine (oJ (Z.start z.wf) GA GB' fwA fwB hn).mono λb h27 hb=>?_;obtain⟨rfl,fr⟩:=hb;rw[ahw,if_pos rfl];have z:=z.pure fr;have GA:=GA.fr fr;have GC:=GC.fr fr;have GD:=GD.fr fr;have GE:=GE.fr fr;have rs:=rs.fr fr λx=>x.elim;clear fr GB';refine z.fI 13 (x:=((⟨some (ak x3),3,4⟩,0):bN [.sl,li])) (z.fI 7 (x:=((⟨some (ak iK),3,4⟩,0):bN [.sl,li])) ?_);rw[ah];refine (oJ (Z.start z.wf) GA GC fwA fwC hn).mono λb h28 hb=>?_;obtain⟨rfl,fr⟩:=hb;rw[ahx,if_pos (by rfl)];have z:=z.pure fr;have GA:=GA.fr fr;have GD:=GD.fr fr;have GE:=GE.fr fr;have rs:=rs.fr fr λx=>x.elim;clear fr GC;refine z.fI 4 (x:=((⟨some (ak qH),1,2⟩,0):bN [.sl,li])) (z.fI 0 (x:=((⟨some (ak x23),2,3⟩,0):bN [.sl,li])) ?_);rw[ah];refine (oJ (Z.start z.wf) GD GE fwD fwE hn).mono λb h29 hb=>?_;obtain⟨rfl,fr⟩:=hb;rw[ahy,if_pos rfl];have z:=z.pure fr;have GA:=GA.fr fr;have GD:=GD.fr fr;have rs:=rs.fr fr λx=>x.elim;clear fr GE;refine z.fI 4 (x:=((⟨some (ak qH),1,2⟩,0):bN [.sl,li])) (z.fI 13 (x:=((⟨some (ak x3),3,4⟩,0):bN [.sl,li])) ?_);rw[ah];refine (oJ (Z.start z.wf) GD GA fwD fwA hn).mono λb h30 hb=>?_;obtain⟨rfl,fr⟩:=hb;rw[ahz,if_pos (by rfl),if_pos ht];have z:=z.pure fr;have rs:=rs.fr fr λx=>x.elim;refine z.new λx41 h31 z fr2=>?_;have rs:=rs.fr fr2 λx=>x.elim;have l41:LB h31 x41 (Bl [(1,ofBytes [])]) aC:=z.get 0 rfl;rw[ah];refine (L8 (p:=[(1,ofBytes [])]) (q:=[(1,ofBytes [])]) rs (l41.BB (n:=1) (cap:=2) (sz:=2) rfl) (by decide) (n:=n) (by omega)).mono λr h' hr=>?_;obtain⟨rfl,rfl⟩:=hr;refine ag.2 ⟨decide_eq_true rfl,z.sub ?_⟩;exact aeN [_,_,_,_,_,_,_,_,_,_,_,_,_,_,_,_,_] L
end
section
variable {α β:Type}{h h' h0:af}{L:List bj}{N N2 N3:List an}{r s t:Int}{Q:β->af->Prop}
theorem oW:FI N r N2 s=true↔gc N r=0/\gc N2 s=0/\Qv (rB N r) 0 0 (rB N2 s) 0 0:=by
 unfold FI;exact @decide_eq_true_iff _ (Classical.propDecidable _)
theorem Me {a b:Bool}(h:a=true↔b=true):a=b:=by cases a<;>cases b<;>simp_all
theorem W5 (h:gc N r=0):FI N r N r=true:=oW.2 ⟨h,h,Qv.refl⟩
theorem Zt (h:gc N r≠0):FI N r N r=false:=by
 cases e:FI N r N r with
 |false=>rfl
 |true=>exact absurd (oW.1 e).1 h
theorem W6:FI N r N2 s=FI N2 s N r:=Me ⟨λh=>by
 obtain⟨a,b,c⟩:=oW.1 h;exact oW.2 ⟨b,a,c.symm⟩,λh=>by
 obtain⟨a,b,c⟩:=oW.1 h;exact oW.2 ⟨b,a,c.symm⟩⟩
theorem SR (h:FI N r N2 s=true):FI N2 s N3 t=FI N r N3 t:=Me ⟨λh'=>by
 obtain⟨a,b,c⟩:=oW.1 h;obtain⟨a',b',c'⟩:=oW.1 h';exact oW.2 ⟨a,b',c.trans c'⟩,λh'=>by
 obtain⟨a,b,c⟩:=oW.1 h;obtain⟨a',b',c'⟩:=oW.1 h';exact oW.2 ⟨b,b',c.symm.trans c'⟩⟩
theorem FiR.not {v:Sl×Bool}(f1:gf N)(f2:gf N2)(c1:gc N r=0)(c2:gc N2 s=0)(h:FiR N r N2 s v h'):v.2=!FI N r N2 s:=by
 have h1:=h.1 ⟨c1,c2⟩;cases hf:Qx N r N2 s with
 |none=>
  rw[hf] at h1;rw[h1,yH f1 f2 c1 c2 hf];rfl
 |some q=>
  rw[hf] at h1;rw[h1.1,yH f1 f2 c1 c2 hf];rfl
theorem Zu (z:Z h0 h L)(i:Nat){b o:Nat}{cs:List Value}{e:TypeId}{ls:List eF}{x:bN ls}{f:bN ls->M β}(q:Wp (f x) h Q)(hi:L[i]?=some (.ar b cs e))(ho:o+ls.length<=cs.length)(hx:vF ls ((cs.drop o).take ls.length)=some x):Wp (sh (aI ls ⟨b,o,none⟩) f) h Q:=by
 rw[ah,yv];exact⟨x,LB.fI (z.get i hi) ho hx,q⟩
theorem zo {f:Unit->M β}{b:Bool}(hb:b=true)(q:Wp (f ()) h Q):Wp (sh (kC b) f) h Q:=by
 subst hb;rw[ah];exact⟨(),h,rfl,q⟩
theorem FL {x0:Nat}{cs:List Value}(z:Z h0 h (.ar x0 cs cW::L)){i:Nat}(hi:i<3){s:Sl}{r:Int}(hc:cs.length=6)(hs:(cs.drop (i*2)).take 2=[aE s,vi r])(G:jI h0 s N){n:Nat}(hn:Tc<=n){Q:Unit⊕Bool->af->Prop}(q1:∀h',Q (.inr true) h')
  (q2:gf N->gc N r=0->∀h',Z h0 h' (.ar x0 cs cW::L)->Wp (bM n (ak x0) ((i+1:Nat):Int)) h' Q):Wp (bM (n+1) (ak x0) (i:Int)) h Q:=by
 obtain⟨_,_,n3⟩:=Qy hn;have ck:decide (0<=(i:Int)/\(i:Int)<((3:Nat):Int))=true:=decide_eq_true ⟨by omega,by omega⟩;have ld:∀{h} {γ:Type} {f:Sl×Int->M γ} {Q:γ->af->Prop},Z h0 h (.ar x0 cs cW::L)->Wp (f (s,r)) h Q->Wp (sh (aI [.sl,li] ((ak x0).plus ((i:Int).toNat*2))) f) h Q:=λ{h γ f Q} z q=>by
  have:(ak x0).plus ((i:Int).toNat*2)=⟨x0,i*2,none⟩:=by rw[IS];show (⟨x0,0+i*2,none⟩:Addr)=_;rw[adr]
  rw[this];exact Zu z 0 (ls:=[.sl,li]) (x:=(s,r)) q rfl (by rw[hc];show i*2+2<=6;omega) (by show vF [.sl,li] ((cs.drop (i*2)).take 2)=_;rw[hs];rfl)
 rw[jC];unfold eZ;rw[if_pos (by simp;omega)];refine zo ck (ld z ?_);rw[ah];refine (W1 G z (by omega)).mono λb h1 hb=>?_;obtain⟨hf,z⟩:=hb;cases b with
 |false=>rw[if_pos (by rfl)];exact ag.2 (q1 _)
 |true=>
  have fw:=hf rfl;rw[if_neg (by decide)];refine zo ck (ld z ?_);rw[ah];refine (vB z G fw.bd fw.ht (k:=KF) (n:=n) (by have:=Qy hn;have:=(WN (aaR S7)).2.1;omega) (fw.gc r)).mono λy h2 hy=>?_;obtain⟨rfl,z⟩:=hy;by_cases hc0:gc N r=0
  .rw[if_neg (by simpa using hc0)];refine zo ck (zo ck (ld z (ld z ?_)));rw[ah];refine (oJ z G G fw fw hn).mono λb h3 hb=>?_;obtain⟨rfl,fr⟩:=hb;rw[W5 hc0,if_neg (by decide),uv (B:=3) (by omega) (by omega)];exact q2 fw hc0 h3 (z.pure fr)
  .rw[if_pos (by simpa using hc0)];refine zo ck (zo ck (ld z (ld z ?_)));rw[ah];refine (oJ z G G fw fw hn).mono λb h3 hb=>?_;obtain⟨rfl,fr⟩:=hb;rw[Zt hc0];exact ag.2 (q1 _)
theorem OE (hw:WF h){s1 s2 s3:Sl}{r1 r2 r3:Int}(G1:jI h s1 N)(G2:jI h s2 N2)(G3:jI h s3 N3){n:Nat}(hn:Tc+4<=n):Wp (jG n (s1,r1,s2,r2,s3,r3)) h λy _=>y=true:=by
 obtain⟨n,rfl⟩:∃m,n=m+4:=⟨n-4,by omega⟩;have hn:Tc<=n:=by omega
 unfold jG;refine (Z.start hw).new λx0 h1 z _=>?_;rw[ah];refine (W4 z (n:=n+4) (by omega)).mono λb h2 hb=>?_;obtain⟨rfl,z⟩:=hb;rw[if_neg (by decide),ah];refine FL (i:=0) (n:=n+3) z (by omega) rfl rfl G1 (by omega) ?_ ?_
 .exact λh'=>ag.2 rfl
 intro f1 c1 h3 z;refine FL (i:=1) (n:=n+2) z (by omega) rfl rfl G2 (by omega) ?_ ?_
 .exact λh'=>ag.2 rfl
 intro f2 c2 h4 z;refine FL (i:=2) (n:=n+1) z (by omega) rfl rfl G3 (by omega) ?_ ?_
 .exact λh'=>ag.2 rfl
 intro f3 c3 h5 z;have hz:∀(m:Nat),Wp (bM (m+1) (ak x0) ((2+1:Nat):Int)) h5 λr h'=>r=.inl ()/\h'=h5:=λm=>by
  rw[jC];unfold eZ;rw[if_neg (by decide)];exact ag.2 ⟨rfl,rfl⟩
 refine (hz n).mono λr h6 hr=>?_;obtain⟨rfl,rfl⟩:=hr;have hn4:Tc<=n+4:=by omega
 have lbs:∀{h'},Z h h' [.ar x0 [aE s1,vi r1,aE s2,vi r2,aE s3,vi r3] cW]->LB h' x0 [aE s1,vi r1,aE s2,vi r2,aE s3,vi r3] cW:=λz=>z.get 0 rfl;have pL:∀{h'} {γ:Type} {f:Sl×Int->M γ} {Q:γ->af->Prop},Z h h' [.ar x0 [aE s1,vi r1,aE s2,vi r2,aE s3,vi r3] cW]->Wp (f (s1,r1)) h' Q->Wp (sh (aI [.sl,li] ((ak x0).plus 0)) f) h' Q:=λz q=>Zu z 0 (o:=0) (ls:=[.sl,li]) (x:=(s1,r1)) q rfl (by simp) rfl;have ld2:∀{h'} {γ:Type} {f:Sl×Int->M γ} {Q:γ->af->Prop},Z h h' [.ar x0 [aE s1,vi r1,aE s2,vi r2,aE s3,vi r3] cW]->Wp (f (s2,r2)) h' Q->Wp (sh (aI [.sl,li] ((ak x0).plus 2)) f) h' Q:=λz q=>Zu z 0 (o:=2) (ls:=[.sl,li]) (x:=(s2,r2)) q rfl (by simp) rfl;have ld4:∀{h'} {γ:Type} {f:Sl×Int->M γ} {Q:γ->af->Prop},Z h h' [.ar x0 [aE s1,vi r1,aE s2,vi r2,aE s3,vi r3] cW]->Wp (f (s3,r3)) h' Q->Wp (sh (aI [.sl,li] ((ak x0).plus 4)) f) h' Q:=λz q=>Zu z 0 (o:=4) (ls:=[.sl,li]) (x:=(s3,r3)) q rfl (by simp) rfl;simp only[cw]
 iterate 4
  refine zo ?_ ?_
  .decide
 refine pL z (ld2 z (ld2 z (pL z ?_)));refine yh (P:=λb h'=>b=FI N r1 N2 r2/\Z h h' [.ar x0 [aE s1,vi r1,aE s2,vi r2,aE s3,vi r3] cW]) (λa ha=>⟨[aE s1,vi r1,aE s2,vi r2,aE s3,vi r3],cW,?_,λb h' hb=>?_⟩) ((oJ z G1 G2 f1 f2 hn4).mono λb h' hb=>⟨hb.1,z.pure hb.2⟩) λb h7 hb=>?_
 .simp only[aei,aaM,ael,or_false] at ha;rcases ha with rfl|rfl<;>exact lbs z
 .simp only[aei,aaM,ael,or_false] at ha;rcases ha with rfl|rfl<;>exact lbs hb.2
 obtain⟨rfl,z⟩:=hb;rw[ah];refine (oJ z G2 G1 f2 f1 hn4).mono λb h8 hb=>?_;obtain⟨rfl,fr⟩:=hb;have z:=z.pure fr
 iterate 4
  refine zo ?_ ?_
  .decide
 refine ld2 z (ld4 z (pL z (ld4 z ?_)));refine yh (P:=λb h'=>b=FI N2 r2 N3 r3/\Z h h' [.ar x0 [aE s1,vi r1,aE s2,vi r2,aE s3,vi r3] cW]) (λa ha=>⟨[aE s1,vi r1,aE s2,vi r2,aE s3,vi r3],cW,?_,λb h' hb=>?_⟩) ((oJ z G2 G3 f2 f3 hn4).mono λb h' hb=>⟨hb.1,z.pure hb.2⟩) λb h9 hb=>?_
 .simp only[aei,aaM,ael,or_false] at ha;rcases ha with rfl|rfl<;>exact lbs z
 .simp only[aei,aaM,ael,or_false] at ha;rcases ha with rfl|rfl<;>exact lbs hb.2
 obtain⟨rfl,z⟩:=hb;rw[ah];refine (oJ z G1 G3 f1 f3 hn4).mono λb h10 hb=>?_;obtain⟨rfl,fr⟩:=hb;have z:=z.pure fr;refine zo ?_ ?_
 .decide
 refine pL z ?_;refine zo ?_ ?_
 .decide
 refine ld2 z ?_;rw[ah];refine (L7 z G1 G2 f1 f2 hn4).mono λv h11 hv=>?_;have e1:=FiR.not f1 f2 c1 c2 hv.1;rw[e1,W6 (N:=N2) (r:=r2) (N2:=N) (s:=r1),if_pos (by simp),if_pos (by simp)];cases e:FI N r1 N2 r2 with
 |false=>rw[if_pos (by rfl)];exact ag.2 rfl
 |true=>
  rw[if_neg (by decide)];exact ag.2 (by rw[SR e];simp)
end
end Go.Sh
