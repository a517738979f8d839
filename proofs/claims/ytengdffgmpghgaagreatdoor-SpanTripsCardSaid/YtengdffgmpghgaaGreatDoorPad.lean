
import Derived.Test.YtengdffgmpghgaaGreatDoorPac
set_option linter.all false
namespace Go.Ago
open Go
variable {α β:Type}{h h' h0:ab}{L:List bA}
theorem Z.Vr (z:Z h0 h L)(i:Nat){st:Bool}{s:Sl}{sz n:Nat}{e:κ}{cs new:δ}{g:Nat}{f:Sl->M β}{Q:β->ab->Prop}(hi:L[i]?=some (.sl s sz e cs g))(hn:n≠0)(hl:new.length=n*sz)(hb:s.len+n<=cT)
  (q:∀s' h' g',s'.len=s.len+n->Z h0 h' (L.set i (.sl s' sz e (cs++new) g'))->Fr (·=g) h h'->Wp (f s') h' Q):Wp (sh (Ago.app st s sz e n new) f) h Q:=by
 rw[ag];have o:wq h s sz e cs g:=z.get i hi;refine o.app z.wf hn hl hb λs' h' g' h1 hcap h2 h3 h4=>q s' h' g' h1 ?_ h4;by_cases hg:g=0
 .have h3:=h3.resolve_left (λx=>x.2 hg);have f0:Fr (λ_=>False) h h':=⟨h4.wf,h4.next,λj c g2 b e2 hj _=>h4.cells j c g2 b e2 hj λe3=>by rw[e3,hg],λg2 h5 _=>h4.ot g2 h5 λe3=>by rw[e3,hg],h4.used,h4.none,λj x hj _=>h4.maps j x hj (by omega)⟩
  have z1:=z.add f0 (o:=.sl s' sz e (cs++new) g') h2 (.inr (by simp only[bA.eJ];omega));refine⟨z1.PC,z1.fr,λx hx=>z1.own x ?_,Dt qq (List.pairwise_cons.1 z1.uo).2 λj y hj hne e2=>(List.pairwise_cons.1 z1.uo).1 y (BY hj) e2⟩;rcases ahS hx with hx|rfl
  .exact IN _ hx
  .exact IT
 .refine z.sW (o:=.sl s sz e cs g) hi hg h4 h2 ?_;rcases h3 with h3|h3
  .exact .inl h3.1
  .exact .inr (.inr (by simp only[bA.eJ];omega))
theorem Z.nu (z:Z h0 h L)(i:Nat){m:Nat}{kt:κ}{fn:ξ->Option ξ}{n:Nat}{k v:ξ}{f:Unit->M β}{Q:β->ab->Prop}(hi:L[i]?=some (.map m kt fn n))
  (q:∀h' n',Z h0 h' (L.set i (.map m kt (yE fn k v) n'))->Wp (f ()) h' Q):Wp (sh (Ed kt (some m) k v) f) h Q:=by
 rw[ag];exact MB.ake (z.get i hi) z.wf λh' l fr=>q h' _ (z.sW (o:=.map m kt fn n) hi (by simp[bA.eJ]) fr l (.inl rfl))
end Go.Ago
namespace Go.Sh
open Go Go.Ago Go.Proofs
section
variable {α β:Type}{h h' h0:ab}{L:List bA}{Q:β->ab->Prop}
def SR (h:ab)(s:Sl)(S:List aK):Prop:=∃g,rO h s 9 (S.flatMap aK.enc) g
def Sp1 (h:ab)(a:Addr)(x:aK):Prop:=∃g,Cl h a x.enc g
theorem SR.fr {s:Sl}{S:List aK}(r:SR h s S)(f:Fr (λ_=>False) h h'):SR h' s S:=let ⟨g,r⟩:=r;⟨g,r.fr f λhx=>hx.elim⟩
theorem SR.len {s:Sl}{S:List aK}(r:SR h s S):s.len=S.length:=by
 obtain⟨g,r⟩:=r;have:=r.1;rw[ic aK.kB] at this;omega
theorem SR.at {s:Sl}{S:List aK}(r:SR h0 s S)(z:Z h0 h L){k:Int}{x:aK}(hx:gt S k=some x){f:Addr->M β}(q:∀a,Sp1 h a x->Wp (f a) h Q):Wp (sh (an s k 9) f) h Q:=by
 have hl:=(r.fr z.fr).len;obtain⟨g,r⟩:=r.fr z.fr;obtain⟨h1,h2⟩:=ay hx;have hlt:=aP h2;exact r.ixN aK.kB h1 (by omega) h2 λa c=>q a ⟨g,c⟩
theorem Sp1.ld {a:Addr}{x:aK}(c:Sp1 h a x)(o:Nat){v:ξ}{l:eD}{y:l.den}{f:l.den->M β}(q:Wp (f y) h Q)(hv:x.enc[o]?=some v:=by rfl)(hx:AX l v=some y:=by rfl):Wp (sh (ak l (a.plus o)) f) h Q:=
 let ⟨_,c⟩:=c
 c.ld hv hx q
theorem Sp1.fG {a:Addr}{x:aK}(c:Sp1 h a x){f:Int×Int×Int×Int×Int×Int×Int×Bool×Bool->M β}(q:Wp (f (x.node,x.parent,x.entry,x.xG,x.to,x.kf,x.kt,x.alias,x.whole)) h Q) :
  Wp (sh (aE [li,li,li,li,li,li,li,.bool,.bool] a) f) h Q:=
 let ⟨_,c⟩:=c
 c.fG (ls:=[li,li,li,li,li,li,li,.bool,.bool]) (x:=(x.node,x.parent,x.entry,x.xG,x.to,x.kf,x.kt,x.alias,x.whole)) rfl q
theorem _root_.Go.Ago.Z.span (z:Z h0 h L){x:aK}{f:Nat->M β}(q:∀b h',Z h0 h' (.av b x.enc bJ::L)->Wp (f b) h' Q) :
  Wp (sh (aJ none bJ [vi 0,vi 0,vi 0,vi 0,vi 0,vi 0,vi 0,Value.bool false,Value.bool false]) λb=>sh (bD (ai b) [vi x.node,vi x.parent,vi x.entry,vi x.xG,vi x.to,vi x.kf,vi x.kt,Value.bool x.alias,Value.bool x.whole]) λ_=>f b) h Q:=by
 refine z.new λb h1 z1 _=>z1.st 0 λh2 z2=>q b h2 z2
structure CE where
 key:Int
 s:Sl
 g:Nat
 xs:ε
def CE.own (e:CE):bA:=.sl e.s 1 ar (e.xs.map vi) e.g
theorem Y9 (k k':Int):y5 (vi k) (vi k')=decide (k=k'):=by
 show (OT .i64 .i64&&decide (k=k'))=_;rw[show OT .i64 .i64=true from rfl];simp
def ck:List CE->Int->Option (Nat×CE)
 |[],_=>none
 |e::r,k=>if k=e.key then some (0,e) else (ck r k).map λp=>(p.1+1,p.2)
theorem LQ:∀{E:List CE} {k:Int} {i:Nat} {e:CE},ck E k=some (i,e)->E[i]?=some e/\k=e.key
 |[],k,i,e,hl=>by cases hl
 |x::r,k,i,e,hl=>by
  rw[ck] at hl;split at hl
  .rename_i hc;cases hl;exact⟨rfl,hc⟩
  .cases hr:ck r k with
   |none=>rw[hr] at hl;cases hl
   |some p=>
    rw[hr] at hl;cases hl;have:=LQ (i:=p.1) (e:=p.2) hr;exact⟨by simpa using this.1,this.2⟩
theorem Za:∀{E:List CE} {k:Int} {i:Nat} {e e':CE},ck E k=some (i,e)->e'.key=k->∀k',ck (E.set i e') k'=if k'=k then some (i,e') else ck E k'
 |[],k,i,e,e',hl,_=>by cases hl
 |x::r,k,i,e,e',hl,h1=>by
  intro k';rw[ck] at hl;split at hl
  .rename_i hc;cases hl;rw[ahV,ck,h1];split
   .rfl
   .rename_i hn;rw[ck,AT (by rw[<-hc];exact hn)]
  .rename_i hc;cases hr:ck r k with
   |none=>rw[hr] at hl;cases hl
   |some p=>
    rw[hr] at hl;cases hl;rw[ai6,ck,Za (i:=p.1) (e:=p.2) hr h1 k',ck];by_cases hx:k'=x.key
    .rw[By hx,By hx,AT];intro hy;exact hc (by rw[<-hy,hx])
    .rw[AT hx,AT hx];split<;>rfl
structure Mt (E:List CE) (c:Int->ε) (f:ξ->Option ξ):Prop where
 f:∀k,f (vi k)=(ck E k).map λp=>aM p.2.s
 nn:∀k,ck E k=none->c k=[]
 ss:∀k i e,ck E k=some (i,e)->e.xs=c k
theorem Mt.nil:Mt [] (λ_=>[]) λ_=>none:=⟨λ_=>rfl,λ_ _=>rfl,λ_ _ _ hl=>by cases hl⟩
theorem Mt.congr {E:List CE}{c c':Int->ε}{f:ξ->Option ξ}(I:Mt E c f)(hc:∀k,c' k=c k):Mt E c' f:=⟨I.f,λk h=>by rw[hc];exact I.nn k h,λk i e h=>by rw[hc];exact I.ss k i e h⟩
theorem Mt.sW {E:List CE}{c:Int->ε}{f:ξ->Option ξ}(I:Mt E c f){p x:Int}{i:Nat}{e:CE}(hl:ck E p=some (i,e))(s:Sl)(g:Nat) :
  Mt (E.set i ⟨p,s,g,e.xs++[x]⟩) (λk=>if k=p then c k++[x] else c k) (yE f (vi p) (aM s)):=by
 have hs:=Za (e':=⟨p,s,g,e.xs++[x]⟩) hl rfl;refine⟨λk=>?_,λk h1=>?_,λk j e2 h1=>?_⟩
 .rw[hs,yE,Y9];by_cases hk:k=p
  .rw[By hk,By (by simpa using hk)];rfl
  .rw[AT hk,AT (by simpa using hk)];exact I.f k
 .rw[hs] at h1;split at h1
  .cases h1
  .rename_i hc;simp only[AT hc];exact I.nn k h1
 .rw[hs] at h1;split at h1
  .rename_i hc;cases h1;simp only[By hc];rw[hc,<-I.ss _ _ _ hl]
  .rename_i hc;simp only[AT hc];exact I.ss k j e2 h1
theorem Mt.add {E:List CE}{c:Int->ε}{f:ξ->Option ξ}(I:Mt E c f){p x:Int}(hl:ck E p=none)(s:Sl)(g:Nat) :
  Mt (⟨p,s,g,[x]⟩::E) (λk=>if k=p then c k++[x] else c k) (yE f (vi p) (aM s)):=by
 refine⟨λk=>?_,λk h1=>?_,λk j e2 h1=>?_⟩
 .rw[yE,Y9,ck];by_cases hk:k=p
  .rw[By hk,By (by simpa using hk)];rfl
  .rw[AT hk,AT (by simpa using hk),I.f,Option.map_map];rfl
 .rw[ck] at h1;split at h1
  .cases h1
  .rename_i hc;simp only[akS] at h1;simp only[AT hc];exact I.nn k h1
 .rw[ck] at h1;split at h1
  .rename_i hc;cases h1;simp only at hc;simp only[By hc];rw[hc,I.nn _ hl];rfl
  .rename_i hc;cases hr:ck E k with
   |none=>rw[hr] at h1;cases h1
   |some q=>
    rw[hr] at h1;cases h1;simp only[AT hc];exact I.ss k q.1 q.2 hr
def MmO (M:List bA)(m:Nat)(c:Int->ε):Prop:=∃f n,bA.map m ar f n∈M/\∀p,(f (vi p)=none/\c p=[])\/∃s g,f (vi p)=some (aM s)/\bA.sl s 1 ar ((c p).map vi) g∈M
theorem Mt.o {E:List CE}{c:Int->ε}{f:ξ->Option ξ}(I:Mt E c f){m n:Nat}:MmO (.map m ar f n::E.map CE.own) m c:=by
 refine⟨f,n,by simp,λp=>?_⟩;cases hk:ck E p with
 |none=>exact .inl ⟨by rw[I.f,hk];rfl,I.nn p hk⟩
 |some q=>
  obtain⟨i,e⟩:=q;refine .inr ⟨e.s,e.g,by rw[I.f,hk];rfl,IN _ (List.mem_map.2 ⟨e,BY (LQ hk).1,?_⟩)⟩;unfold CE.own;rw[I.ss p i e hk]
theorem _root_.Go.Ago.Z.Of {P' MM:List bA}(z:Z h0 h (P'++MM)){m:Nat}{c:Int->ε}(hM:MmO MM m c){p:Int}{f:Bool×Sl->M β}(q:∀b s,(∀{h':ab} {P2:List bA},Z h0 h' (P2++MM)->IL h' s (c p))->Wp (f (b,s)) h Q) :
  Wp (sh (rK ar (Ty.one .sl) uV (some m) (vi p)) f) h Q:=by
 obtain⟨fn,n,h1,h2⟩:=hM;have l:MB h m ar fn n:=(z.own _ (acQ _ h1)).1;rw[ag];refine MB.aid l (λv hv=>?_) λhn=>?_
 .rcases h2 p with⟨e,_⟩|⟨s,g,e,hm⟩
  .rw[e] at hv;cases hv
  .rw[e] at hv;cases hv;exact⟨s,rfl,q true s λz'=>⟨g,wq.Fi (z'.own _ (acQ _ hm)).1⟩⟩
 .rcases h2 p with⟨_,e⟩|⟨s,g,e,hm⟩
  .exact q false uV λ_=>⟨0,by rw[e];exact rO.nil rfl⟩
  .rw[e] at hn;cases hn
def mh:Nat->List aK->Int->ε
 |_,[],_=>[]
 |i,x::xs,p=>if x.parent=p then (i:Int)::mh (i+1) xs p else mh (i+1) xs p
theorem Ho (p:Int):∀(A B:List aK) (i:Nat),mh i (A++B) p=mh i A p++mh (i+A.length) B p
 |[],B,i=>by simp[mh]
 |x::A,B,i=>by
  rw[aao,mh,mh,Ho p A B (i+1),aac,show i+1+A.length=i+(A.length+1) by omega];split<;>simp
theorem Zb {S:List aK}{i:Nat}{x:aK}(hx:S[i]?=some x)(p:Int):mh 0 (S.take (i+1)) p=if p=x.parent then mh 0 (S.take i) p++[(i:Int)] else mh 0 (S.take i) p:=by
 have hlt:=aP hx;rw[ajI,hx,Ho,adj,afd,akn (by omega)];show _++mh i [x] p=_;simp only[mh];by_cases hp:x.parent=p
 .rw[By hp,By hp.symm]
 .rw[AT hp,AT (λe=>hp e.symm),afw]
theorem yi (p:Int):∀(S:List aK) (i:Nat),(mh i S p).length<=S.length
 |[],i=>aae _
 |x::S,i=>by
  have:=yi p S (i+1);rw[mh];split
  .simp only[aac];omega
  .simp only[aac];omega
theorem Og {s:Sl}{S:List aK}(R:SR h0 s S){B:Nat}(hB:S.length<=B)(hB2:B<1073741824){m:Nat} :
  ∀(n i:Nat) (h:ab) (E:List CE) (f:ξ->Option ξ) (c:Nat) (L:List bA),S.length-i<n->i<=S.length->Mt E (mh 0 (S.take i)) f->Z h0 h (.map m ar f c::(E.map CE.own++L)) ->
   Wp (gU n (some m) s (s.len:Int) (i:Int)) h λ_ h'=>∃f c E,Mt E (mh 0 S) f/\Z h0 h' (.map m ar f c::(E.map CE.own++L)):=by
 intro n
 induction n with
 |zero=>intro i h E f c L h1;omega
 |succ n ih=>
  intro i h E f c L h1 h2 I z;rw[yH];unfold pJ;rw[R.len];by_cases hi:i<S.length
  .rw[By (by simp;omega)];obtain⟨x,hx⟩:=dS hi;refine R.at z (k:=(i:Int)) (by unfold gt;rw[By (by omega)];simpa using hx) λa c1=>c1.fG ?_;refine z.span λb h2' z=>?_;refine z.ld 0 (o:=1) (l:=li) ?_;refine z.ld 0 (o:=1) (l:=li) ?_;have z:=z.drop;have hfk:=I.f x.parent;have nxt:∀{E':List CE} {f':ξ->Option ξ} {c':Nat} {h':ab},Mt E' (mh 0 (S.take (i+1))) f'->Z h0 h' (.map m ar f' c'::(E'.map CE.own++L)) ->
     Wp (gU n (some m) s (S.length:Int) (IntKind.i64.wrap ((i:Int)+1))) h' λ_ h'=>∃f c E,Mt E (mh 0 S) f/\Z h0 h' (.map m ar f c::(E.map CE.own++L)):=by
    intro E' f' c' h' I z;rw[rR h2 (by omega)];have:=ih (i+1) h' E' f' c' L (by omega) (by omega) I z
    rwa [R.len] at this
   have hcg:∀k,mh 0 (S.take (i+1)) k=if k=x.parent then mh 0 (S.take i) k++[(i:Int)] else mh 0 (S.take i) k:=λk=>Zb hx k;cases hk:ck E x.parent with
   |none=>
    rw[hk] at hfk;refine z.kZ 0 (k:=vi x.parent) rfl (λv hv=>by rw[hfk] at hv;cases hv) λ_=>?_;have z:=z.add (Fr.refl z.wf) (o:=.sl ⟨none,0,0⟩ 1 ar [] 0) wq.nil (.inl rfl);refine z.Vr 0 (new:=[vi (i:Int)]) rfl (by decide) rfl (by show 0+1<=cT;decide) λs' h8 g' hs' z fr=>?_;refine z.nu 1 rfl λh9 n9 z=>?_;have I':=(I.add hk s' g' (x:=(i:Int))).congr hcg;refine nxt I' (c':=n9) (z.perm ?_);exact List.Perm.swap _ _ _
   |some q=>
    obtain⟨j,e⟩:=q;rw[hk] at hfk;obtain⟨e1,e2⟩:=LQ hk;have hjlt:=aP e1;have hown:(.map m ar f c::(E.map CE.own++L):List bA)[j+1]?=some (.sl e.s 1 ar (e.xs.map vi) e.g):=by
     simp only[ahM];rw[ag0 (by simpa using hjlt),aal,e1];rfl
    have hlen:e.s.len=e.xs.length:=(wq.Fi (z.get (j+1) hown)).GQ;have hxl:e.xs.length<=i:=by
     rw[I.ss _ _ _ hk];have:=yi x.parent (S.take i) 0;rw[afd] at this;omega
    refine z.kZ 0 (k:=vi x.parent) rfl (λv hv=>?_) λhv=>(by rw[hfk] at hv;cases hv);rw[hfk] at hv;cases hv;refine⟨e.s,rfl,?_⟩;refine z.Vr (j+1) (new:=[vi (i:Int)]) hown (by decide) rfl (by show e.s.len+1<=cT;unfold cT;omega) λs' h8 g' hs' z fr=>?_;refine z.nu 0 (m:=m) (kt:=ar) (fn:=f) (n:=c) rfl λh9 n9 z=>?_;have I':=(I.sW hk s' g' (x:=(i:Int))).congr hcg;refine nxt I' (c':=n9) (z.perm (akP ?_));show bA.map m _ _ _::((E.map CE.own++L).set j _)=_;rw[akm _ _ (by simpa using hjlt),ajV]
    congr 3
    simp[CE.own]
  .rw[AT (by simp;omega),af];have:S.take i=S:=agw (by omega);rw[this] at I;exact⟨f,c,E,I,z⟩
theorem vY {d1:Int}{src:ζ}{dh cz tsl:Sl}{root:Int}{S:List aK}(z:Z h0 h L)(R:SR h0 cz S){B:Nat}(hB:S.length<=B)(hB2:B<1073741824){n:Nat}(hn:B+1<n) :
  Wp (kO n (d1,src,dh,root,cz,tsl)) h λr h'=>∃m M,r=some m/\MmO M m (mh 0 S)/\Z h0 h' (M++L):=by
 unfold kO;refine z.new λx0 h1 z _=>z.aih λm h2 z=>?_;refine z.ld 1 (o:=4) (l:=.sl) (x:=cz) ?_;rw[ag];refine (Og R hB hB2 (m:=m) n 0 h2 [] _ 0 (.av x0 [vi d1,.string src,aM dh,vi root,aM cz,aM tsl] fI::L) (by omega) (by omega) Mt.nil z).mono λ_ h3 hx=>?_;obtain⟨f,c,E,I,z⟩:=hx;rw[af];refine⟨m,_,rfl,I.o (n:=c),z.sub ?_⟩;exact List.Sublist.cons₂ _ ((ajH _).append (ajE _ _))
end
section
variable {α β:Type}{h h' h0:ab}{L:List bA}{Q:β->ab->Prop}
abbrev DB (b:Nat)(d1:Int)(src:ζ)(dh:Sl)(root:Int)(cz tsl:Sl):bA:=.av b [vi d1,.string src,aM dh,vi root,aM cz,aM tsl] fI
structure jS where
 xG:Int
 «to»:Int
 text:ζ
def jS.enc (x:jS):δ:=[vi x.xG,vi x.to,.string x.text]
theorem jS.kB (x:jS):x.enc.length=3:=rfl
def Vs (h:ab)(s:Sl)(T:List jS):Prop:=∃g,rO h s 3 (T.flatMap jS.enc) g
theorem Vs.fr {s:Sl}{S:List jS}(r:Vs h s S)(f:Fr (λ_=>False) h h'):Vs h' s S:=let ⟨g,r⟩:=r;⟨g,r.fr f λhx=>hx.elim⟩
theorem Vs.len {s:Sl}{S:List jS}(r:Vs h s S):s.len=S.length:=by
 obtain⟨g,r⟩:=r;have:=r.1;rw[ic jS.kB] at this;omega
theorem V6 {l:List α}{i:Nat}{x:α}(hx:l[i]?=some x):gt l (i:Int)=some x:=by unfold gt;rw[By (by omega)];simpa using hx
def SG (N:List ah)(S:List aK)(x:aK):Option Bool:=
 if 0<=x.parent then (match gt S x.parent with
  |none=>none
  |some p=>match gt N p.node with
   |none=>none
   |some nd=>some (decide (nd.kind=10)))
 else some false
def LR (sz:Int)(N:List ah)(S:List aK):List aK->Option Bool
 |[]=>some true
 |x::xs=>if x.xG<0 then some false else if x.to<x.xG then some false else if sz<x.to then some false else if x.kf<0 then some false else if x.kt<x.kf then some false else if sz<x.kt then some false
  else match SG N S x with
   |none=>none
   |some e=>if e=false/\(x.kf≠0\/x.kt≠0) then some false else LR sz N S xs
def Vt (src:ζ):Int->List jS->Option Bool
 |_,[]=>some true
 |last,x::xs=>if x.xG<last then some false else if x.to<=x.xG then some false else if (src.size:Int)<x.to then some false
  else if 0<=x.xG then (if mY x.text (src.extract x.xG.toNat x.to.toNat)=true then Vt src x.to xs else some false) else none
def Vu (src:ζ)(N:List ah)(S:List aK)(T:List jS):Option Bool:=match LR src.size N S S with
 |none=>none
 |some false=>some false
 |some true=>Vt src 0 T
section
variable {d1:Int}{src:ζ}{dh cz tsl:Sl}{root:Int}{N:List ah}{S:List aK}{T:List jS}{B x0:Nat}
theorem agP (G:oj h0 dh N)(R:SR h0 cz S)(hB:S.length<=B)(hB2:B<1073741824) :
  ∀(n i:Nat) (h:ab) (r:Bool),S.length-i<n->i<=S.length->LR src.size N S (S.drop i)=some r->Z h0 h (DB x0 d1 src dh root cz tsl::L) ->
   Wp (fN n (ai x0) (src.size:Int) cz (cz.len:Int) (i:Int)) h λy h'=>y=(if r then .inl () else .inr false)/\Z h0 h' (DB x0 d1 src dh root cz tsl::L):=by
 intro n
 induction n with
 |zero=>intro i h r h1;omega
 |succ n ih=>
  intro i h r h1 h2 hv z;rw[AO];unfold sw;rw[R.len];by_cases hi:i<S.length
  .rw[By (by simp;omega)];obtain⟨x,hx⟩:=dS hi;rw[drop_cons hx,LR] at hv;refine R.at z (V6 hx) λa c1=>c1.fG ?_;refine z.span (x:=x) λb h2' z=>?_;have fin:some false=some r->Wp (AI (Sum.inr false:Unit⊕Bool)) h2' λy h'=>y=(if r then .inl () else .inr false)/\Z h0 h' (DB x0 d1 src dh root cz tsl::L):=λe=>by
    cases e;rw[af];exact⟨rfl,z.drop⟩
   refine z.ld 0 (o:=3) (l:=li) (x:=x.xG) ?_;by_cases c1:x.xG<0
   .rw[By c1] at hv;rw[By (by simpa using c1)];exact fin hv
   rw[AT c1] at hv;rw[AT (by simpa using c1)];refine z.ld 0 (o:=3) (l:=li) (x:=x.xG) (z.ld 0 (o:=4) (l:=li) (x:=x.to) ?_);by_cases c2:x.to<x.xG
   .rw[By c2] at hv;rw[By (by simpa using c2)];exact fin hv
   rw[AT c2] at hv;rw[AT (by simpa using c2)];refine z.ld 0 (o:=4) (l:=li) (x:=x.to) ?_;by_cases c3:(src.size:Int)<x.to
   .rw[By c3] at hv;rw[By (by simpa using c3)];exact fin hv
   rw[AT c3] at hv;rw[AT (by simpa using c3)];refine z.ld 0 (o:=5) (l:=li) (x:=x.kf) ?_;by_cases c4:x.kf<0
   .rw[By c4] at hv;rw[By (by simpa using c4)];exact fin hv
   rw[AT c4] at hv;rw[AT (by simpa using c4)];refine z.ld 0 (o:=5) (l:=li) (x:=x.kf) (z.ld 0 (o:=6) (l:=li) (x:=x.kt) ?_);by_cases c5:x.kt<x.kf
   .rw[By c5] at hv;rw[By (by simpa using c5)];exact fin hv
   rw[AT c5] at hv;rw[AT (by simpa using c5)];refine z.ld 0 (o:=6) (l:=li) (x:=x.kt) ?_;by_cases c6:(src.size:Int)<x.kt
   .rw[By c6] at hv;rw[By (by simpa using c6)];exact fin hv
   rw[AT c6] at hv;rw[AT (by simpa using c6)];have J1:∀e:Bool,(if e=false/\(x.kf≠0\/x.kt≠0) then some false else LR src.size N S (S.drop (i+1)))=some r ->
     Wp (jb (fN n) n (ai x0) (src.size:Int) (ai b) e cz (S.length:Int) (i:Int)) h2' λy h'=>y=(if r then .inl () else .inr false)/\Z h0 h' (DB x0 d1 src dh root cz tsl::L):=by
    intro e hv;have nxt:LR src.size N S (S.drop (i+1))=some r->Wp (fN n (ai x0) (src.size:Int) cz (S.length:Int) (IntKind.i64.wrap ((i:Int)+1))) h2' λy h'=>y=(if r then .inl () else .inr false)/\Z h0 h' (DB x0 d1 src dh root cz tsl::L):=λhv=>by
     rw[rR h2 (by omega)];have:=ih (i+1) h2' r (by omega) (by omega) hv z.drop
     rwa [R.len] at this
    unfold jb;cases e with
    |true=>
     rw[AT (by simp)] at hv;rw[AT (by simp)];exact nxt hv
    |false=>
     rw[By (by rfl)];refine z.ld 0 (o:=5) (l:=li) (x:=x.kf) ?_;by_cases k1:x.kf=0
     .rw[AT (by simpa using k1)];refine z.ld 0 (o:=6) (l:=li) (x:=x.kt) ?_;by_cases k2:x.kt=0
      .rw[AT (by simp[k1,k2])] at hv;rw[AT (by simpa using k2)];exact nxt hv
      .rw[By (by simp[k2])] at hv;rw[By (by simpa using k2)];exact fin hv
     .rw[By (by simp[k1])] at hv;rw[By (by simpa using k1)];exact fin hv
   unfold oV;refine z.ld 0 (o:=1) (l:=li) (x:=x.parent) ?_;unfold SG at hv;by_cases c7:0<=x.parent
   .rw[By c7] at hv;rw[By (by simpa using c7)];cases hp:gt S x.parent with
    |none=>rw[hp] at hv;cases hv
    |some p=>
    rw[hp] at hv;simp only at hv;cases hn:gt N p.node with
    |none=>rw[hn] at hv;cases hv
    |some nd=>
    rw[hn] at hv;simp only at hv;refine z.ld 1 (o:=2) (l:=.sl) (x:=dh) ?_;refine z.ld 1 (o:=4) (l:=.sl) (x:=cz) ?_;refine z.ld 0 (o:=1) (l:=li) (x:=x.parent) ?_;refine R.at z hp λa2 c2'=>c2'.ld 0 (l:=li) (y:=p.node) ?_;obtain⟨g1,g2⟩:=ay hn;refine G.at z g1 g2 λa3 ks is nd' _ _=>nd'.NT ?_;exact J1 _ hv
   .rw[AT c7] at hv;rw[AT (by simpa using c7)];exact J1 false hv
  .rw[AT (by simp;omega),af];have:S.drop i=[]:=aaf (by omega);rw[this] at hv;cases hv;exact⟨rfl,z⟩
theorem agQ (R:Vs h0 tsl T)(hB:T.length<=B)(hB2:B<1073741824) :
  ∀(n i:Nat) (last:Int) (h:ab) (r:Bool),T.length-i<n->i<=T.length->Vt src last (T.drop i)=some r->Z h0 h (DB x0 d1 src dh root cz tsl::L) ->
   Wp (lS n (ai x0) (src.size:Int) last tsl (tsl.len:Int) (i:Int)) h λy h'=>y=(if r then .inl () else .inr false)/\Z h0 h' (DB x0 d1 src dh root cz tsl::L):=by
 intro n
 induction n with
 |zero=>intro i last h r h1;omega
 |succ n ih=>
  intro i last h r h1 h2 hv z;rw[AN];unfold sv;have hl:=R.len;rw[hl];by_cases hi:i<T.length
  .rw[By (by simp;omega)];obtain⟨x,hx⟩:=dS hi;rw[drop_cons hx,Vt] at hv;obtain⟨g,rs⟩:=R.fr z.fr;refine rs.ixN jS.kB (by omega) (by omega) (by simpa using hx) λa c1=>c1.fG (ls:=[li,li,.str]) (x:=(x.xG,x.to,x.text)) rfl ?_;refine z.new λb hn z _=>z.st 0 (cs':=x.enc) λh2' z=>?_;have fin:some false=some r->Wp (AI (Sum.inr false:Unit⊕Bool)) h2' λy h'=>y=(if r then .inl () else .inr false)/\Z h0 h' (DB x0 d1 src dh root cz tsl::L):=λe=>by
    cases e;rw[af];exact⟨rfl,z.drop⟩
   refine z.ld 0 (o:=0) (l:=li) (x:=x.xG) ?_;by_cases c1:x.xG<last
   .rw[By c1] at hv;rw[By (by simpa using c1)];exact fin hv
   rw[AT c1] at hv;rw[AT (by simpa using c1)];refine z.ld 0 (o:=0) (l:=li) (x:=x.xG) (z.ld 0 (o:=1) (l:=li) (x:=x.to) ?_);by_cases c2:x.to<=x.xG
   .rw[By c2] at hv;rw[By (by simpa using c2)];exact fin hv
   rw[AT c2] at hv;rw[AT (by simpa using c2)];refine z.ld 0 (o:=1) (l:=li) (x:=x.to) ?_;by_cases c3:(src.size:Int)<x.to
   .rw[By c3] at hv;rw[By (by simpa using c3)];exact fin hv
   rw[AT c3] at hv;rw[AT (by simpa using c3)];by_cases c4:0<=x.xG
   .rw[By c4] at hv;refine z.ld 0 (o:=2) (l:=.str) (x:=x.text) (z.ld 1 (o:=1) (l:=.str) (x:=src) (z.ld 0 (o:=0) (l:=li) (x:=x.xG) (z.ld 0 (o:=1) (l:=li) (x:=x.to) ?_)));rw[ag,fH];refine⟨c4,by omega,by omega,?_⟩;by_cases c5:mY x.text (src.extract x.xG.toNat x.to.toNat)=true
    .rw[By c5] at hv;rw[AT (by simp[c5])];refine z.ld 0 (o:=1) (l:=li) (x:=x.to) ?_;rw[rR h2 (by omega)];have:=ih (i+1) x.to h2' r (by omega) (by omega) hv z.drop
     rwa [hl] at this
    .rw[AT c5] at hv;rw[By (by simpa using c5)];exact fin hv
   .rw[AT c4] at hv;cases hv
  .rw[AT (by simp;omega),af];have:T.drop i=[]:=aaf (by omega);rw[this] at hv;cases hv;exact⟨rfl,z⟩
theorem Vv (z:Z h0 h L)(G:oj h0 dh N)(R:SR h0 cz S)(RT:Vs h0 tsl T)(hB:S.length<=B)(hBT:T.length<=B)(hB2:B<1073741824){n:Nat}(hn:B+1<n){r:Bool}(hv:Vu src N S T=some r) :
  Wp (vP n (d1,src,dh,root,cz,tsl)) h λy h'=>y=r/\Z h0 h' L:=by
 unfold vP;unfold Vu at hv;refine z.new λx0 h1 z _=>?_;refine z.ld 0 (o:=1) (l:=.str) (x:=src) (z.ld 0 (o:=4) (l:=.sl) (x:=cz) ?_);cases h1:LR src.size N S S with
 |none=>rw[h1] at hv;cases hv
 |some b=>
 rw[h1] at hv;rw[ag];refine (agP G R hB hB2 n 0 _ b (by omega) (by omega) (by simpa using h1) z).mono λy h2 hy=>?_;obtain⟨rfl,z⟩:=hy;cases b with
 |false=>cases hv;exact af.2 ⟨rfl,z.drop⟩
 |true=>
  simp only at hv;show Wp (sh _ _) h2 _;refine z.ld 0 (o:=5) (l:=.sl) (x:=tsl) ?_;rw[ag];refine (agQ RT hBT hB2 n 0 0 h2 r (by omega) (by omega) (by simpa using hv) z).mono λy h3 hy=>?_;obtain⟨rfl,z⟩:=hy;cases r with
  |false=>exact af.2 ⟨rfl,z.drop⟩
  |true=>exact af.2 ⟨rfl,z.drop⟩
end
end
section
variable {α β:Type}{h h' h0:ab}{L:List bA}{Q:β->ab->Prop}
def D2 (S:List aK):ε->ε->Option ε
 |out,[]=>some out
 |out,i::l=>match gt S i with
  |none=>none
  |some x=>if 0<=x.entry/\x.entry<(out.length:Int) then D2 S (out.set x.entry.toNat i) l else none
theorem Oh {S:List aK}:∀{l out r:ε},D2 S out l=some r->r.length=out.length
 |[],out,r,he=>by cases he;rfl
 |i::l,out,r,he=>by
  rw[D2] at he;cases hg:gt S i with
  |none=>rw[hg] at he;cases he
  |some x=>
   rw[hg] at he;simp only at he;split at he
   .rw[Oh he];simp
   .cases he
def LS (S:List aK)(e:Bool):Int->ε->Option (Option Int)
 |a,[]=>some (some a)
 |a,k::ks=>match gt S k with
  |none=>none
  |some c=>if e then (if c.kf<a then some none else if c.xG<c.kt then some none else LS S e c.to ks)
   else if c.xG<a then some none else LS S e c.to ks
def agR:Option Int->Int⊕Bool
 |some a=>.inl a
 |none=>.inr false
def Iv (N:List ah)(S:List aK):Nat->List aK->Option Bool
 |_,[]=>some true
 |i,x::xs=>if x.whole=false\/x.alias=true then Iv N S (i+1) xs else match gt N x.node with
  |none=>none
  |some nd=>match D2 S (List.replicate (mh 0 S (i:Int)).length 0) (mh 0 S (i:Int)) with
   |none=>none
   |some l=>match LS S (decide (nd.kind=10)) x.xG l with
    |none=>none
    |some none=>some false
    |some (some a)=>if x.to<a then some false else Iv N S (i+1) xs
section
variable {d1:Int}{src:ζ}{dh cz tsl:Sl}{root:Int}{N:List ah}{S:List aK}{B x0:Nat}
theorem agS (R:SR h0 cz S){b:Nat}{sl:Sl}{xs:ε}(hxB:xs.length<1073741824)(hr:∀{h':ab} {P':List bA},Z h0 h' (P'++L)->IL h' sl xs)(hsl:sl.len=xs.length) :
  ∀(n i:Nat) (h:ab) (out r:ε),xs.length-i<n->i<=xs.length->out.length=xs.length->D2 S out (xs.drop i)=some r->Z h0 h (.av b (out.map vi) ar::DB x0 d1 src dh root cz tsl::L) ->
   Wp (kj n (ai x0) (arr b xs.length) sl (sl.len:Int) (i:Int)) h λ_ h'=>Z h0 h' (.av b (r.map vi) ar::DB x0 d1 src dh root cz tsl::L):=by
 intro n
 induction n with
 |zero=>intro i h out r h1;omega
 |succ n ih=>
  intro i h out r h1 h2 ho hv z;rw[zI];unfold qL;rw[hsl];by_cases hi:i<xs.length
  .rw[By (by simp;omega)];obtain⟨x,hx⟩:=dS hi;rw[drop_cons hx,D2] at hv;refine (hr (P':=[_,_]) z).ix (by omega) (by simpa using hx) λa g cl=>cl.rz (l:=li) rfl rfl ?_;cases hg:gt S x with
   |none=>rw[hg] at hv;cases hv
   |some y=>
   rw[hg] at hv;simp only at hv;split at hv
   case isFalse=>cases hv
   rename_i hc;refine z.ld 1 (o:=4) (l:=.sl) (x:=cz) ?_;refine R.at z hg λa2 c2=>c2.ld 2 (l:=li) (y:=y.entry) ?_;refine It (b:=b) (m:=xs.length) hc.1 (by have:=hc.2;omega) ?_;refine z.A2 0 (xs:=out) (enc:=vi) (v:=x) (by have:=hc.2;have:=hc.1;omega) (λh3 z=>?_);rw[rR h2 (by omega)];have:=ih (i+1) h3 _ r (by omega) (by omega) (by simpa using ho) hv z
   rwa [hsl] at this
  .rw[AT (by simp;omega),af];have:xs.drop i=[]:=aaf (by omega);rw[this] at hv;cases hv;exact z
theorem Hp (z:Z h0 h L)(R:SR h0 cz S){sl:Sl}{xs r:ε}(hxB:xs.length<1073741824)(hr:∀{h':ab} {P':List bA},Z h0 h' (P'++L)->IL h' sl xs){n:Nat}(hn:xs.length<n)
  (hv:D2 S (List.replicate xs.length 0) xs=some r) :
  Wp (qM n (d1,src,dh,root,cz,tsl) sl) h λy h'=>∃b,y=arr b xs.length/\r.length=xs.length/\Z h0 h' (.av b (r.map vi) ar::L):=by
 have hsl:sl.len=xs.length:=(hr (P':=[]) z).len;unfold qM;refine z.new λx0 h1 z _=>?_;rw[hsl];refine z.JE (by omega) (by unfold cT;omega) λb h2 z _=>?_;rw[aab] at z⊢;rw[lj (enc:=vi)] at z;rw[ag];have hl:=agS (L:=L) (d1:=d1) (src:=src) (dh:=dh) (root:=root) (tsl:=tsl) (x0:=x0) R (b:=b) hxB hr hsl n 0 h2 _ r (by omega) (by omega) (by simp) (by simpa using hv) z;rw[hsl] at hl;refine hl.mono λ_ h3 z=>?_;rw[af];exact⟨b,rfl,by rw[Oh hv];simp,(z.perm (List.Perm.swap _ _ _)).drop⟩
theorem agT (R:SR h0 cz S){b m:Nat}{xs:ε}(hm:xs.length=m)(hB2:m<1073741824)(e:Bool)(a1:μ)(a2:Addr)(a5:Sl)(a6 a7:Int) :
  ∀(n i:Nat) (h:ab) (at':Int) (r:Option Int),m-i<n->i<=m->LS S e at' (xs.drop i)=some r->Z h0 h (.av b (xs.map vi) ar::DB x0 d1 src dh root cz tsl::L) ->
   Wp (jJ n (ai x0) a1 a2 at' e a5 a6 a7 (arr b m) (m:Int) (i:Int)) h λy h'=>y=agR r/\Z h0 h' (.av b (xs.map vi) ar::DB x0 d1 src dh root cz tsl::L):=by
 intro n
 induction n with
 |zero=>intro i h at' r h1;omega
 |succ n ih=>
  intro i h at' r h1 h2 hv z;rw[AP];unfold sx;by_cases hi:i<m
  .rw[By (by simp;omega)];obtain⟨x,hx⟩:=dS (l:=xs) (i:=i) (by omega);rw[drop_cons hx,LS] at hv;refine z.HO (c:=xs) 0 (V6 hx) hm ?_;cases hg:gt S x with
   |none=>rw[hg] at hv;cases hv
   |some c=>
   rw[hg] at hv;simp only at hv;refine z.ld 1 (o:=4) (l:=.sl) (x:=cz) ?_;refine R.at z hg λa c1=>c1.fG ?_;refine z.span (x:=c) λb2 h2' z=>?_;have fin:some none=some r->Wp (AI (Sum.inr false:Int⊕Bool)) h2' λy h'=>y=agR r/\Z h0 h' (.av b (xs.map vi) ar::DB x0 d1 src dh root cz tsl::L):=λe=>by
    cases e;rw[af];exact⟨rfl,z.drop⟩
   have nxt:LS S e c.to (xs.drop (i+1))=some r->Wp (sh (ak li ((ai b2).plus 4)) λ(x10:Int)=>jJ n (ai x0) a1 a2 x10 e a5 a6 a7 (arr b m) (m:Int) (IntKind.i64.wrap ((i:Int)+1))) h2' λy h'=>y=agR r/\Z h0 h' (.av b (xs.map vi) ar::DB x0 d1 src dh root cz tsl::L):=λhv=>by
    refine z.ld 0 (o:=4) (l:=li) (x:=c.to) ?_;rw[rR h2 (by omega)];exact ih (i+1) h2' c.to r (by omega) (by omega) hv z.drop
   cases e with
   |true=>
    rw[By rfl] at hv;rw[By rfl];refine z.ld 0 (o:=5) (l:=li) (x:=c.kf) ?_;by_cases k1:c.kf<at'
    .rw[By k1] at hv;rw[By (by simpa using k1)];exact fin hv
    rw[AT k1] at hv;rw[AT (by simpa using k1)];refine z.ld 0 (o:=6) (l:=li) (x:=c.kt) (z.ld 0 (o:=3) (l:=li) (x:=c.xG) ?_);by_cases k2:c.xG<c.kt
    .rw[By k2] at hv;rw[By (by simpa using k2)];exact fin hv
    rw[AT k2] at hv;rw[AT (by simpa using k2)];exact nxt hv
   |false=>
    rw[AT (by simp)] at hv;rw[AT (by simp)];refine z.ld 0 (o:=3) (l:=li) (x:=c.xG) ?_;by_cases k1:c.xG<at'
    .rw[By k1] at hv;rw[By (by simpa using k1)];exact fin hv
    rw[AT k1] at hv;rw[AT (by simpa using k1)];exact nxt hv
  .rw[AT (by simp;omega),af];have:xs.drop i=[]:=aaf (by omega);rw[this] at hv;cases hv;exact⟨rfl,z⟩
theorem agU (G:oj h0 dh N)(R:SR h0 cz S)(hB:S.length<=B)(hB2:B<1073741824){m:Nat}{MM:List bA}(hM:MmO MM m (mh 0 S)) :
  ∀(n i:Nat) (h:ab) (r:Bool),S.length-i+B+2<n->i<=S.length->Iv N S i (S.drop i)=some r->Z h0 h (DB x0 d1 src dh root cz tsl::MM) ->
   Wp (ij n (ai x0) (some m) cz (cz.len:Int) (i:Int)) h λy h'=>y=(if r then .inl () else .inr false)/\Z h0 h' (DB x0 d1 src dh root cz tsl::MM):=by
 intro n
 induction n with
 |zero=>intro i h r h1;omega
 |succ n ih=>
  intro i h r h1 h2 hv z;rw[AQ];unfold sy;rw[R.len];by_cases hi:i<S.length
  .rw[By (by simp;omega)];obtain⟨x,hx⟩:=dS hi;rw[drop_cons hx,Iv] at hv;refine R.at z (V6 hx) λa c1=>c1.fG ?_;refine z.span (x:=x) λb h2' z=>?_;have nxt:∀{h2'},Iv N S (i+1) (S.drop (i+1))=some r->Z h0 h2' (DB x0 d1 src dh root cz tsl::MM)->Wp (ij n (ai x0) (some m) cz (S.length:Int) (IntKind.i64.wrap ((i:Int)+1))) h2' λy h'=>y=(if r then .inl () else .inr false)/\Z h0 h' (DB x0 d1 src dh root cz tsl::MM):=λhv z=>by
    rw[rR h2 (by omega)];have:=ih (i+1) _ r (by omega) (by omega) hv z
    rwa [R.len] at this
   refine z.ld 0 (o:=8) (l:=.bool) (x:=x.whole) ?_;cases hw:x.whole with
   |false=>
    rw[By (.inl hw)] at hv;rw[By (by rfl)];exact nxt hv z.drop
   |true=>
   rw[AT (by simp)];refine z.ld 0 (o:=7) (l:=.bool) (x:=x.alias) ?_;cases ha:x.alias with
   |true=>
    rw[By (.inr ha)] at hv;rw[By rfl];exact nxt hv z.drop
   |false=>
   rw[AT (by simp[hw,ha])] at hv;rw[AT (by simp)];unfold oW;cases hn:gt N x.node with
   |none=>rw[hn] at hv;cases hv
   |some nd=>
   rw[hn] at hv;simp only at hv;cases ho:D2 S (List.replicate (mh 0 S (i:Int)).length 0) (mh 0 S (i:Int)) with
   |none=>rw[ho] at hv;cases hv
   |some l=>
   rw[ho] at hv;simp only at hv;cases hl:LS S (decide (nd.kind=10)) x.xG l with
   |none=>rw[hl] at hv;cases hv
   |some q=>
   rw[hl] at hv;have hcl:=yi (i:Int) S 0;refine z.ld 0 (o:=3) (l:=li) (x:=x.xG) ?_;refine z.ld 1 (o:=2) (l:=.sl) (x:=dh) ?_;refine z.ld 0 (o:=0) (l:=li) (x:=x.node) ?_;obtain⟨g1,g2⟩:=ay hn;refine G.at z g1 g2 λa3 ks is nd' _ _=>nd'.NT ?_;refine z.fG 1 (ls:=[li,.str,.sl,li,.sl,.sl]) (x:=(d1,src,dh,root,cz,tsl)) ?_;refine Z.Of (P':=[_,_]) z hM λbb sl hr=>?_;rw[ag];refine (Hp (L:=.av b x.enc bJ::DB x0 d1 src dh root cz tsl::MM) z R (by omega) (λ{h'} {P'} z'=>hr (P2:=P'++[_,_]) (by rw[abt];exact z')) (by omega) ho).mono λy h3 hy=>?_;obtain⟨b3,rfl,hll,z⟩:=hy;have z:=z.perm (L':=.av b3 (l.map vi) ar::DB x0 d1 src dh root cz tsl::.av b x.enc bJ::MM) (List.Perm.cons _ (List.Perm.swap _ _ _));rw[ag];refine (agT (L:=.av b x.enc bJ::MM) R (m:=(mh 0 S (i:Int)).length) hll (by omega) (decide (nd.kind=10)) (some m) (ai b) cz (S.length:Int) (i:Int) n 0 h3 x.xG q (by omega) (by omega) (by simpa using hl) z).mono λy h4 hy=>?_;obtain⟨rfl,z⟩:=hy;have z:=z.perm (L':=.av b x.enc bJ::DB x0 d1 src dh root cz tsl::.av b3 (l.map vi) ar::MM) ((List.Perm.cons _ (List.Perm.swap _ _ _)).trans ((List.Perm.swap _ _ _).trans (List.Perm.cons _ (List.Perm.swap _ _ _))));cases q with
   |none=>cases hv;exact af.2 ⟨rfl,(z.drop.perm (List.Perm.swap _ _ _)).drop⟩
   |some a'=>
    simp only at hv;show Wp (sh _ _) h4 _;refine z.ld 0 (o:=4) (l:=li) (x:=x.to) ?_;have z:=(z.drop.perm (List.Perm.swap _ _ _)).drop;by_cases k1:x.to<a'
    .rw[By k1] at hv;cases hv;rw[By (by simpa using k1),af];exact⟨rfl,z⟩
    .rw[AT k1] at hv;rw[AT (by simpa using k1)];exact nxt hv z
  .rw[AT (by simp;omega),af];have:S.drop i=[]:=aaf (by omega);rw[this] at hv;cases hv;exact⟨rfl,z⟩
theorem Vw (z:Z h0 h L)(G:oj h0 dh N)(R:SR h0 cz S)(hB:S.length<=B)(hB2:B<1073741824){n:Nat}(hn:2*B+3<n){r:Bool}(hv:Iv N S 0 S=some r) :
  Wp (vQ n (d1,src,dh,root,cz,tsl)) h λy h'=>y=r/\Z h0 h' L:=by
 unfold vQ;refine z.new λx0 h1 z _=>?_;refine z.fG 0 (ls:=[li,.str,.sl,li,.sl,.sl]) (x:=(d1,src,dh,root,cz,tsl)) ?_;rw[ag];refine (vY z R hB hB2 (by omega)).mono λy h2 hy=>?_;obtain⟨m,MM,rfl,hM,z⟩:=hy;have hM':MmO (MM++L) m (mh 0 S):=by
  obtain⟨f,c,h1,h2⟩:=hM;refine⟨f,c,adh _ h1,λp=>(h2 p).imp id λ⟨s,g,e,hm⟩=>⟨s,g,e,adh _ hm⟩⟩
 have z:=z.perm (L':=DB x0 d1 src dh root cz tsl::(MM++L)) aip;refine z.ld 0 (o:=4) (l:=.sl) (x:=cz) ?_;rw[ag];refine (agU G R hB hB2 hM' n 0 h2 r (by omega) (by omega) (by simpa using hv) z).mono λy h3 hy=>?_;obtain⟨rfl,z⟩:=hy;have z:=z.drop.sub (ag9 _ _);cases r with
 |false=>exact af.2 ⟨rfl,z⟩
 |true=>exact af.2 ⟨rfl,z⟩
end
end
section
variable {α β:Type}{h h' h0:ab}{L:List bA}{Q:β->ab->Prop}
def alJ (b1 b0 b2:Nat):ξ:=Value.func (Fn.func pq) #[] #[Value.pointer (some (ai b1)),Value.pointer (some (ai b0)),Value.pointer (some (ai b2))]
def Oi (b2 b1 b0 bm:Nat)(s:Sl)(root:Int)(cap:Nat)(ms:List Bool)(e:κ):List bA:=
 [.av b2 [alJ b1 b0 b2] rV,.av b1 [aM ⟨some ⟨bm,0,none⟩,ms.length,cap⟩] uH,.av b0 [aM s,vi root] ao,.av bm (ms.map .bool) e]
theorem aco {s:Sl}{root:Int}{N:List ah}(G:oj h0 s N){B:Nat}(hB:Bd N B){b2 b1 b0 bm cap:Nat}{e:κ} :
  ∀(k:Nat),(∀(n:Nat) (a:Int) (ms r:List Bool) (h:ab) (L:List bA),k<=n->yg k N a ms=some r->Z h0 h (Oi b2 b1 b0 bm s root cap ms e++L) ->
    Wp (gp n a (ai b1) (ai b0) (ai b2)) h λ_ h'=>Z h0 h' (Oi b2 b1 b0 bm s root cap r e++L)) /\
   (∀(n:Nat) (a:Int) (sl:Sl) (xs:ε) (i:Nat) (ms r:List Bool) (h:ab) (L:List bA),k<=n->o0 k N (xs.drop i) ms=some r->IL h0 sl xs->i<=xs.length->xs.length<=B->Z h0 h (Oi b2 b1 b0 bm s root cap ms e++L) ->
    Wp (gV n a (ai b0) (ai b2) sl (sl.len:Int) (i:Int)) h λ_ h'=>Z h0 h' (Oi b2 b1 b0 bm s root cap r e++L)) /\
   (∀(n:Nat) (sl:Sl) (xs:ε) (i:Nat) (ms r:List Bool) (h:ab) (L:List bA),k<=n->o0 k N (xs.drop i) ms=some r->IL h0 sl xs->i<=xs.length->xs.length<=B->Z h0 h (Oi b2 b1 b0 bm s root cap ms e++L) ->
    Wp (gW n (ai b2) sl (sl.len:Int) (i:Int)) h λ_ h'=>Z h0 h' (Oi b2 b1 b0 bm s root cap r e++L)):=by
 intro k
 induction k with
 |zero=>exact⟨λn a ms r h L _ hv=>by simp[yg] at hv,λn a sl xs i ms r h L _ hv=>by simp[o0] at hv,λn sl xs i ms r h L _ hv=>by simp[o0] at hv⟩
 |succ k ih=>
  obtain⟨ih1,ih2,ih3⟩:=ih;refine⟨λn a ms r h L hn hv z=>?_,λn a sl xs i ms r h L hn hv il hi hxB z=>?_,λn sl xs i ms r h L hn hv il hi hxB z=>?_⟩
  .obtain⟨n,rfl⟩:∃m,n=m+1:=⟨n-1,by omega⟩;rw[BA];unfold tI;rw[yg] at hv;have ix:∀{b:Bool} {f:Addr->M Unit} {h:ab} {ms:List Bool} {Q:Unit->ab->Prop},gt ms a=some b->Z h0 h (Oi b2 b1 b0 bm s root cap ms e++L)->Wp (f ⟨bm,a.toNat*1,none⟩) h Q->Wp (sh (an ⟨some ⟨bm,0,none⟩,ms.length,cap⟩ a 1) f) h Q:=by
    intro b f h ms Q hg z q;obtain⟨g1,g2⟩:=ay hg;exact JF g1 (by have:=(List.getElem?_eq_some_iff.1 g2).1;omega) q
   have mt:∀{b:Bool} {ms:List Bool},gt ms a=some b->(ms.map Value.bool)[a.toNat*1]?=some (.bool b):=by
    intro b ms hg;rw[adp,aal,(ay hg).2];rfl
   refine z.ld 1 (o:=0) (l:=.sl) ?_;cases hg:gt ms a with
   |none=>rw[hg] at hv;cases hv
   |some b=>
    refine ix hg z ?_;refine z.ld 3 (l:=.bool) (x:=b) ?_ rfl (mt hg) rfl;rw[hg] at hv;cases b with
    |true=>cases hv;rw[By rfl,af];exact z
    |false=>
     simp only at hv;rw[AT (by simp)];refine z.ld 1 (o:=0) (l:=.sl) ?_;refine ix hg z ?_;have hlt:a.toNat<ms.length:=(List.getElem?_eq_some_iff.1 (ay hg).2).1;rw[adp];refine z.A2 3 (enc:=Value.bool) (v:=true) hlt λh1 z=>?_;have z:Z h0 h1 (Oi b2 b1 b0 bm s root cap (ms.set a.toNat true) e++L):=by
      have:Oi b2 b1 b0 bm s root cap (ms.set a.toNat true) e++L=(Oi b2 b1 b0 bm s root cap ms e++L).set 3 (.av bm ((ms.set a.toNat true).map .bool) e):=by
       simp[Oi]
      rw[this];exact z
     cases hx:gt N a with
     |none=>rw[hx] at hv;cases hv
     |some x=>
      rw[hx] at hv;simp only at hv;obtain⟨x1,x2⟩:=ay hx;have hb:=hB.2.2 x (BY x2);cases hv1:o0 k N x.keys (ms.set a.toNat true) with
      |none=>rw[hv1] at hv;cases hv
      |some m2=>
       rw[hv1] at hv;simp only at hv;refine z.ld 2 (o:=0) (l:=.sl) ?_;refine G.at z x1 x2 λa1 ks is nd ik ii=>nd.Ip ?_;rw[ag];refine (ih2 n a ks x.keys 0 _ m2 _ L (by omega) hv1 ik (by omega) hb.1 z).mono λ_ h2 z=>?_;refine z.ld 2 (o:=0) (l:=.sl) ?_;refine G.at z x1 x2 λa2 ks2 is2 nd2 ik2 ii2=>nd2.CI ?_;rw[ag];refine (ih3 n is2 x.items 0 _ r _ L (by omega) hv ii2 (by omega) hb.2 z).mono λ_ h3 z=>?_;rw[af];exact z
  .obtain⟨n,rfl⟩:∃m,n=m+1:=⟨n-1,by omega⟩;rw[yO];unfold pP;rw[il.len];by_cases hi2:i<xs.length
   .rw[By (by simp;omega)];obtain⟨x,hx⟩:=dS hi2;rw[drop_cons hx,o0] at hv;cases hv1:yg k N x ms with
    |none=>rw[hv1] at hv;cases hv
    |some m2=>
     rw[hv1] at hv;simp only at hv;refine (il.fr z.fr).ix (by omega) (by simpa using hx) λa1 g c=>c.rz (l:=li) rfl rfl ?_;refine z.ld 0 (o:=0) (l:=.raw) ?_;unfold ja;rw[ag,By (by rfl),ag];refine kr (c:=(ai b1,ai b0,ai b2)) rfl ?_;refine (ih1 n x ms m2 h L (by omega) hv1 z).mono λ_ h2 z=>?_;rw[rR hi (by have:=hB.2.1;omega)];have:=ih2 n a sl xs (i+1) m2 r h2 L (by omega) hv il (by omega) hxB z
     rwa [il.len] at this
   .rw[AT (by simp;omega),af];have:xs.drop i=[]:=aaf (by omega);rw[this,o0] at hv;cases hv;exact z
  .obtain⟨n,rfl⟩:∃m,n=m+1:=⟨n-1,by omega⟩;rw[yP];unfold pQ;rw[il.len];by_cases hi2:i<xs.length
   .rw[By (by simp;omega)];obtain⟨x,hx⟩:=dS hi2;rw[drop_cons hx,o0] at hv;cases hv1:yg k N x ms with
    |none=>rw[hv1] at hv;cases hv
    |some m2=>
     rw[hv1] at hv;simp only at hv;refine (il.fr z.fr).ix (by omega) (by simpa using hx) λa1 g c=>c.rz (l:=li) rfl rfl ?_;refine z.ld 0 (o:=0) (l:=.raw) ?_;unfold oS ja;rw[ag,By (by rfl),ag];refine kr (c:=(ai b1,ai b0,ai b2)) rfl ?_;refine (ih1 n x ms m2 h L (by omega) hv1 z).mono λ_ h2 z=>?_;rw[rR hi (by have:=hB.2.1;omega)];have:=ih3 n sl xs (i+1) m2 r h2 L (by omega) hv il (by omega) hxB z
     rwa [il.len] at this
   .rw[AT (by simp;omega),af];have:xs.drop i=[]:=aaf (by omega);rw[this,o0] at hv;cases hv;exact z
theorem acp {s:Sl}{root:Int}{N:List ah}(G:oj h0 s N){B:Nat}(hB:Bd N B){b2 b1 b0 bm cap k:Nat}{e:κ}{sl:Sl}{xs:ε}(il:IL h0 sl xs)(hl:xs.length<=B)(a2:Sl)(a3 a4:Int) :
  ∀(n i:Nat) (c r:List Bool) (h:ab) (L:List bA),k+(xs.length-i)<n->i<=xs.length->AV k N (xs.drop i) c=some r->Z h0 h (Oi b2 b1 b0 bm s root cap c e++L) ->
   Wp (lQ n (ai b1) (ai b2) a2 a3 a4 sl (sl.len:Int) (i:Int)) h λ_ h'=>Z h0 h' (Oi b2 b1 b0 bm s root cap r e++L):=by
 intro n
 induction n with
 |zero=>intro i c r h L h1;omega
 |succ n ih=>
  intro i c r h L h1 h2 hb z;rw[AK];unfold sr;rw[il.len];by_cases hi:i<xs.length
  .rw[By (by simp;omega)];obtain⟨x,hx⟩:=dS hi;rw[drop_cons hx,AV] at hb;cases hb1:yg k N x c with
   |none=>rw[hb1] at hb;cases hb
   |some c1=>
    rw[hb1] at hb;refine (il.fr z.fr).ix (by omega) (by simpa using hx) λa g cl=>cl.rz (l:=li) rfl rfl ?_;refine z.ld 0 (o:=0) (l:=.raw) ?_;unfold tJ;rw[ag,By (by rfl),ag];refine kr (c:=(ai b1,ai b0,ai b2)) rfl ?_;refine ((aco G hB k).1 n x c c1 h L (by omega) hb1 z).mono λ_ h2' z=>?_;rw[rR h2 (by have:=hB.2.1;omega)];have:=ih (i+1) c1 r h2' L (by omega) (by omega) hb z
    rwa [il.len] at this
  .rw[AT (by simp;omega),af];have:xs.drop i=[]:=aaf (by omega);rw[this] at hb;cases hb;exact z
theorem acq {s:Sl}{root:Int}{N:List ah}(G:oj h0 s N){B:Nat}(hB:Bd N B){b2 b1 b0 bm cap k:Nat}{e:κ} :
  ∀(n i:Nat) (c r:List Bool) (h:ab) (L:List bA),k+(N.length-i)+B+5<n->i<=N.length->LG k N (N.drop i) c=some r->Z h0 h (Oi b2 b1 b0 bm s root cap c e++L) ->
   Wp (lR n (ai b1) (ai b2) s (s.len:Int) (i:Int)) h λ_ h'=>Z h0 h' (Oi b2 b1 b0 bm s root cap r e++L):=by
 intro n
 induction n with
 |zero=>intro i c r h L h1;omega
 |succ n ih=>
  intro i c r h L h1 h2 hb z;rw[AL];unfold su;rw[G.len];by_cases hi:i<N.length
  .rw[By (by simp;omega)];obtain⟨x,hx⟩:=dS hi;rw[drop_cons hx,LG] at hb;have hbd:=hB.2.2 x (BY hx);cases hb1:AV k N x.keys c with
   |none=>rw[hb1] at hb;cases hb
   |some c1=>
    rw[hb1] at hb;simp only[afQ] at hb;refine G.at z (by omega) (by simpa using hx) λa ks is nd ik ii=>nd.fG ?_;refine z.node λx2 h2' z=>?_;refine z.ld 0 (o:=3) (l:=.sl) (x:=ks) ?_;have z:=z.drop;rw[ag];refine (acp (k:=k) G hB ik hbd.1 _ _ _ n 0 c c1 _ L (by omega) (by omega) (by simpa using hb1) z).mono λ_ h3 z=>?_;have:=ih (i+1) c1 r h3 L (by omega) (by omega) hb z;rw[rR (ajx hi) (by have:=hB.1;have:=hB.2.1;omega)]
    rwa [G.len] at this
  .rw[AT (by simp;omega),af];have:N.drop i=[]:=aaf (by omega);rw[this] at hb;cases hb;exact z
theorem Q0 {s:Sl}{root:Int}{N:List ah}(z:Z h0 h L)(G:oj h0 s N){B:Nat}(hB:Bd N B){k n:Nat}(hn:k+2*B+6<n){r:List Bool}(hr:LG k N N (List.replicate N.length false)=some r) :
  Wp (vO n (s,root)) h λx h'=>∃b,x=arr b N.length/\r.length=N.length/\Z h0 h' (.av b (r.map .bool) nV::L):=by
 have hrl:r.length=N.length:=by have:=LH hr;simpa using this
 unfold vO;refine z.new λx0 h1' z f1=>?_;refine z.ld 0 (o:=0) (l:=.sl) (x:=s) ?_;rw[G.len];refine z.JE (by omega) (by have:=hB.1;have:=hB.2.1;unfold cT;omega) λbm h2 z f2=>?_;rw[aab] at z⊢;rw[lj (enc:=Value.bool)] at z;refine z.new λb1 h3 z _=>z.st 0 λh4 z=>z.new λb2 h5 z _=>z.st 0 λh6 z=>?_;refine z.ld 3 (o:=0) (l:=.sl) (x:=s) ?_;have z:=Z.rU (pre:=[_,_,_,_]) z [0,1,3,2] (by simp only[aac,adf];decide);have z:Z h0 h6 (Oi b2 b1 x0 bm s root (N.length+1) (List.replicate N.length false) nV++L):=by
  unfold Oi;rw[aeL];exact z
 rw[ag];refine (acq (k:=k) G hB n 0 _ r h6 L (by have:=hB.1;omega) (by omega) (by simpa using hr) z).mono λ_ h7 z=>?_;refine z.ld 1 (o:=0) (l:=.sl) (x:=⟨some ⟨bm,0,none⟩,r.length,N.length+1⟩) ?_;rw[af];refine⟨bm,by rw[hrl];rfl,hrl,z.drop.drop.drop⟩
end
section
variable {α β:Type}{h h' h0:ab}{L:List bA}{Q:β->ab->Prop}
def oB (r:Bool):Unit⊕Bool:=if r then .inl () else .inr false
def Q1 (N:List ah)(S:List aK):Nat->List aK->Option Bool
 |_,[]=>some true
 |i,x::xs=>if x.parent<0 then some false else if (i:Int)<x.parent then some false else match gt S x.parent with
  |none=>none
  |some p=>if p.alias then some false else match gt N p.node with
   |none=>none
   |some nd=>if x.entry<0 then some false else if (nd.items.length:Int)<=x.entry then some false else match gt nd.items x.entry with
    |none=>none
    |some v=>if x.node=v then Q1 N S (i+1) xs else some false
def Q2 (S:List aK):List Bool->ε->Option (Option (List Bool))
 |m,[]=>some (some m)
 |m,k::ks=>match gt S k with
  |none=>none
  |some c=>match gt m c.entry with
   |none=>none
   |some true=>some none
   |some false=>Q2 S (m.set c.entry.toNat true) ks
def Fa (N:List ah)(S:List aK):Nat->List aK->ε->Option (Option ε)
 |_,[],d=>some (some d)
 |i,x::xs,d=>if x.alias then Fa N S (i+1) xs d else match bump d x.node with
  |none=>none
  |some d1=>match gt N x.node with
   |none=>none
   |some nd=>match Q2 S (List.replicate nd.items.length false) (mh 0 S (i:Int)) with
    |none=>none
    |some none=>some none
    |some (some _)=>if (mh 0 S (i:Int)).length=nd.items.length then Fa N S (i+1) xs d1 else some none
def D3:List Bool->ε->Bool
 |b::bs,d::ds=>if b=false/\d≠1\/b=true/\d≠0 then false else D3 bs ds
 |_,_=>true
noncomputable def occs (k:Nat)(N:List ah)(root:Int)(S:List aK):Option Bool:=match me k N root with
 |none=>none
 |some e=>if e≠0 then some false else match S with
  |[]=>some false
  |f::fs=>if f.node≠root then some false else if f.parent≠-1 then some false else if f.entry≠0 then some false else if f.alias then some false else match Q1 N (f::fs) 0 fs with
   |none=>none
   |some false=>some false
   |some true=>match Fa N (f::fs) 0 (f::fs) (List.replicate N.length 0) with
    |none=>none
    |some none=>some false
    |some (some d)=>match LG k N N (List.replicate N.length false) with
     |none=>none
     |some ms=>some (D3 ms d)
theorem Hq {N:List ah}{S:List aK}:∀{xs:List aK} {i:Nat} {d r:ε},Fa N S i xs d=some (some r)->r.length=d.length
 |[],i,d,r,he=>by cases he;rfl
 |x::xs,i,d,r,he=>by
  rw[Fa] at he;split at he
  .exact Hq he
  .split at he
   .cases he
   .rename_i d1 hd;split at he
    .cases he
    .split at he
     .cases he
     .cases he
     .split at he
      .rw[Hq he,xd hd]
      .cases he
section
variable {d1:Int}{src:ζ}{dh cz tsl:Sl}{root:Int}{N:List ah}{S:List aK}{B x0 x2:Nat}
abbrev GB (b:Nat)(dh:Sl)(root:Int):bA:=.av b [aM dh,vi root] ao
theorem agV (G:oj h0 dh N)(hN:Bd N B)(R:SR h0 cz S){sl1:Sl}{X:List aK}(R1:SR h0 sl1 X)(hB:X.length<=B) :
  ∀(n i:Nat) (h:ab) (r:Bool),X.length-i<n->i<=X.length->Q1 N S i (X.drop i)=some r->Z h0 h (GB x2 dh root::DB x0 d1 src dh root cz tsl::L) ->
   Wp (ft n (ai x0) (ai x2) sl1 (sl1.len:Int) (i:Int)) h λy h'=>y=oB r/\Z h0 h' (GB x2 dh root::DB x0 d1 src dh root cz tsl::L):=by
 have hB2:=hN.2.1;intro n
 induction n with
 |zero=>intro i h r h1;omega
 |succ n ih=>
  intro i h r h1 h2 hv z;rw[wD];unfold nE;rw[R1.len];by_cases hi:i<X.length
  .rw[By (by simp;omega)];obtain⟨x,hx⟩:=dS hi;rw[drop_cons hx,Q1] at hv;refine R1.at z (V6 hx) λa c1=>c1.fG ?_;refine z.span (x:=x) λb h2' z=>?_;have fin:some false=some r->Wp (AI (Sum.inr false:Unit⊕Bool)) h2' λy h'=>y=oB r/\Z h0 h' (GB x2 dh root::DB x0 d1 src dh root cz tsl::L):=λe=>by
    cases e;rw[af];exact⟨rfl,z.drop⟩
   refine z.ld 0 (o:=1) (l:=li) (x:=x.parent) ?_;by_cases k1:x.parent<0
   .rw[By k1] at hv;rw[By (by simpa using k1)];exact fin hv
   rw[AT k1] at hv;rw[AT (by simpa using k1)];refine z.ld 0 (o:=1) (l:=li) (x:=x.parent) ?_;by_cases k2:(i:Int)<x.parent
   .rw[By k2] at hv;rw[By (by simpa using k2)];exact fin hv
   rw[AT k2] at hv;rw[AT (by simpa using k2)];cases hp:gt S x.parent with
   |none=>rw[hp] at hv;cases hv
   |some p=>
   rw[hp] at hv;simp only at hv;refine z.ld 2 (o:=4) (l:=.sl) (x:=cz) (z.ld 0 (o:=1) (l:=li) (x:=x.parent) ?_);refine R.at z hp λa2 c2=>c2.ld 7 (l:=.bool) (y:=p.alias) ?_;cases ha:p.alias with
   |true=>rw[ha,By rfl] at hv;rw[By rfl];exact fin hv
   |false=>
   rw[ha,AT (by simp)] at hv;rw[AT (by simp)];unfold kS;cases hn:gt N p.node with
   |none=>rw[hn] at hv;cases hv
   |some nd=>
   rw[hn] at hv;simp only at hv;refine z.ld 1 (o:=0) (l:=.sl) (x:=dh) (z.ld 2 (o:=4) (l:=.sl) (x:=cz) (z.ld 0 (o:=1) (l:=li) (x:=x.parent) ?_));refine R.at z hp λa2 c2=>c2.ld 0 (l:=li) (y:=p.node) ?_;obtain⟨g1,g2⟩:=ay hn;refine G.at z g1 g2 λa3 ks is nd' ik ii=>nd'.CI ?_;refine z.ld 0 (o:=2) (l:=li) (x:=x.entry) ?_;by_cases k3:x.entry<0
   .rw[By k3] at hv;rw[By (by simpa using k3)];exact fin hv
   rw[AT k3] at hv;rw[AT (by simpa using k3)];refine z.ld 0 (o:=2) (l:=li) (x:=x.entry) ?_;rw[ii.len];by_cases k4:(nd.items.length:Int)<=x.entry
   .rw[By k4] at hv;rw[By (by simpa using k4)];exact fin hv
   rw[AT k4] at hv;rw[AT (by simpa using k4)];cases hit:gt nd.items x.entry with
   |none=>rw[hit] at hv;cases hv
   |some v=>
   rw[hit] at hv;simp only at hv;obtain⟨q1,q2⟩:=ay hit;refine z.ld 0 (o:=0) (l:=li) (x:=x.node) (z.ld 0 (o:=2) (l:=li) (x:=x.entry) ?_);refine (ii.fr z.fr).ix q1 q2 λa4 g4 c4=>c4.rz (l:=li) rfl rfl ?_;by_cases k5:x.node=v
   .rw[By k5] at hv;rw[AT (by simpa using k5)];rw[rR h2 (by omega)];have:=ih (i+1) h2' r (by omega) (by omega) hv z.drop
    rwa [R1.len] at this
   .rw[AT k5] at hv;rw[By (by simpa using k5)];exact fin hv
  .rw[AT (by simp;omega),af];have:X.drop i=[]:=aaf (by omega);rw[this] at hv;cases hv;exact⟨rfl,z⟩
theorem agW (R:SR h0 cz S){bm m:Nat}{sl:Sl}{xs:ε}(hxB:xs.length<1073741824){MM:List bA}(hr:∀{h':ab} {P':List bA},Z h0 h' (P'++MM)->IL h' sl xs)(hsl:sl.len=xs.length)(a1:Addr)(a2:Sl)(a3:μ)(a4:Int)(a6:Sl)(a7 a8:Int){P1:List bA} :
  ∀(n i:Nat) (h:ab) (ms:List Bool) (r:Option (List Bool)),xs.length-i<n->i<=xs.length->ms.length=m->Q2 S ms (xs.drop i)=some r->Z h0 h (.av bm (ms.map .bool) nV::DB x0 d1 src dh root cz tsl::(P1++MM)) ->
   Wp (gF n (ai x0) a1 a2 a3 a4 (arr bm m) a6 a7 a8 sl (sl.len:Int) (i:Int)) h λy h'=>y=oB r.isSome/\∃ms:List Bool,Z h0 h' (.av bm (ms.map .bool) nV::DB x0 d1 src dh root cz tsl::(P1++MM)):=by
 intro n
 induction n with
 |zero=>intro i h ms r h1;omega
 |succ n ih=>
  intro i h ms r h1 h2 hm hv z;rw[wA];unfold nB;rw[hsl];by_cases hi:i<xs.length
  .rw[By (by simp;omega)];obtain⟨x,hx⟩:=dS hi;rw[drop_cons hx,Q2] at hv;refine (hr (P':=_::_::P1) z).ix (by omega) (by simpa using hx) λa g cl=>cl.rz (l:=li) rfl rfl ?_;cases hg:gt S x with
   |none=>rw[hg] at hv;cases hv
   |some c=>
   rw[hg] at hv;simp only at hv;refine z.ld 1 (o:=4) (l:=.sl) (x:=cz) ?_;refine R.at z hg λa2 c2=>c2.ld 2 (l:=li) (y:=c.entry) ?_;cases he:gt ms c.entry with
   |none=>rw[he] at hv;cases hv
   |some b=>
   rw[he] at hv;refine z.rdB (c:=ms) 0 (v:=b) he hm ?_;cases b with
   |true=>
    cases hv;rw[By rfl,af];exact⟨rfl,ms,z⟩
   |false=>
    simp only at hv;rw[AT (by simp)];refine z.ld 1 (o:=4) (l:=.sl) (x:=cz) ?_;refine R.at z hg λa2 c2=>c2.ld 2 (l:=li) (y:=c.entry) ?_;obtain⟨q1,q2⟩:=ay he;have hlt:=aP q2;refine It (b:=bm) (m:=m) q1 (by omega) ?_;refine z.A2 0 (xs:=ms) (enc:=Value.bool) (v:=true) hlt (λh3 z=>?_);rw[rR h2 (by omega)];have:=ih (i+1) h3 _ r (by omega) (by omega) (by simpa using hm) hv z
    rwa [hsl] at this
  .rw[AT (by simp;omega),af];have:xs.drop i=[]:=aaf (by omega);rw[this] at hv;cases hv;exact⟨rfl,ms,z⟩
theorem agX (G:oj h0 dh N)(hN:Bd N B)(R:SR h0 cz S)(hB:S.length<=B){bd m:Nat}{MM:List bA}(hM:MmO MM m (mh 0 S)) :
  ∀(n i:Nat) (h:ab) (d:ε) (r:Option ε),S.length-i+B+2<n->i<=S.length->d.length=N.length->Fa N S i (S.drop i) d=some r->Z h0 h (.av bd (d.map vi) ar::GB x2 dh root::DB x0 d1 src dh root cz tsl::MM) ->
   Wp (fq n (ai x0) (ai x2) (arr bd N.length) (some m) cz (cz.len:Int) (i:Int)) h λy h'=>y=oB r.isSome/\∃d',(∀d2,r=some d2->d'=d2)/\Z h0 h' (.av bd (d'.map vi) ar::GB x2 dh root::DB x0 d1 src dh root cz tsl::MM):=by
 have hB2:=hN.2.1;have hNB:=hN.1;intro n
 induction n with
 |zero=>intro i h d r h1;omega
 |succ n ih=>
  intro i h d r h1 h2 hd hv z;rw[wC];unfold nD;rw[R.len];by_cases hi:i<S.length
  .rw[By (by simp;omega)];obtain⟨x,hx⟩:=dS hi;rw[drop_cons hx,Fa] at hv;refine R.at z (V6 hx) λa c1=>c1.fG ?_;refine z.span (x:=x) λb h2' z=>?_;refine z.ld 0 (o:=7) (l:=.bool) (x:=x.alias) ?_;have nxt:∀{h2':ab} {d:ε},d.length=N.length->Fa N S (i+1) (S.drop (i+1)) d=some r->Z h0 h2' (.av bd (d.map vi) ar::GB x2 dh root::DB x0 d1 src dh root cz tsl::MM) ->
     Wp (fq n (ai x0) (ai x2) (arr bd N.length) (some m) cz (S.length:Int) (IntKind.i64.wrap ((i:Int)+1))) h2' λy h'=>y=oB r.isSome/\∃d',(∀d2,r=some d2->d'=d2)/\Z h0 h' (.av bd (d'.map vi) ar::GB x2 dh root::DB x0 d1 src dh root cz tsl::MM):=λhd hv z=>by
    rw[rR h2 (by omega)];have:=ih (i+1) _ _ r (by omega) (by omega) hd hv z
    rwa [R.len] at this
   cases ha:x.alias with
   |true=>
    rw[ha,By rfl] at hv;rw[By rfl];exact nxt hd hv z.drop
   |false=>
   rw[ha,AT (by simp)] at hv;rw[AT (by simp)];cases hb:bump d x.node with
   |none=>rw[hb] at hv;cases hv
   |some dd=>
   rw[hb] at hv;simp only at hv;cases hn:gt N x.node with
   |none=>rw[hn] at hv;cases hv
   |some nd=>
   rw[hn] at hv;simp only at hv;have hbd:=hN.2.2 nd (BY (ay hn).2);cases h2m:Q2 S (List.replicate nd.items.length false) (mh 0 S (i:Int)) with
   |none=>rw[h2m] at hv;cases hv
   |some q=>
   rw[h2m] at hv;refine z.ld 0 (o:=0) (l:=li) (x:=x.node) ?_;refine FW (i:=1) z rfl hb hd.symm λh3 z=>?_;have z:Z h0 h3 (.av b x.enc bJ::.av bd (dd.map vi) ar::GB x2 dh root::DB x0 d1 src dh root cz tsl::MM):=z;have hdd:dd.length=N.length:=by rw[xd hb];exact hd
   refine z.ld 2 (o:=0) (l:=.sl) (x:=dh) (z.ld 0 (o:=0) (l:=li) (x:=x.node) ?_);obtain⟨g1,g2⟩:=ay hn;refine G.at z g1 g2 λa3 ks is nd' ik ii=>nd'.CI ?_;rw[ii.len];refine z.JE (by omega) (by unfold cT;omega) λbm h4 z _=>?_;rw[aab] at z⊢;rw[lj (enc:=Value.bool)] at z;have hcl:=yi (i:Int) S 0;refine Z.Of (P':=[_,_,_,_,_]) z hM λbb sl hr=>?_;have hsl:sl.len=(mh 0 S (i:Int)).length:=(hr (P2:=[_,_,_,_,_]) z).len;have z:=Z.rU (pre:=[_,_,_,_,_]) z [0,4,1,2,3] (by simp only[aac,adf];decide);rw[ag];refine (agW R (m:=nd.items.length) (xs:=mh 0 S (i:Int)) (by omega) hr hsl (ai x2) (arr bd N.length) (some m) (i:Int) cz (S.length:Int) (i:Int) (P1:=[_,_,_]) n 0 h4 _ q (by omega) (by omega) (by simp) (by simpa using h2m) z).mono λy h5 hy=>?_;obtain⟨rfl,ms,z⟩:=hy;have z:=Z.rU (pre:=[_,_,_,_,_]) z [0,2,3,4,1] (by simp only[aac,adf];decide);cases q with
   |none=>
    cases hv;exact af.2 ⟨rfl,dd,by simp,z.drop.drop⟩
   |some q=>
    simp only at hv;show Wp (sh _ _) h5 _;refine Z.Of (P':=[_,_,_,_,_]) z hM λbb sl hr2=>?_;have hsl:sl.len=(mh 0 S (i:Int)).length:=(hr2 (P2:=[_,_,_,_,_]) z).len;simp only[hsl];by_cases k1:(mh 0 S (i:Int)).length=nd.items.length
    .rw[By k1] at hv;rw[AT (by simp[arr,k1])];exact nxt hdd hv z.drop.drop
    .rw[AT k1] at hv;cases hv;rw[By (by simp;omega),af];exact⟨rfl,dd,by simp,z.drop.drop⟩
  .rw[AT (by simp;omega),af];have:S.drop i=[]:=aaf (by omega);rw[this] at hv;cases hv;exact⟨rfl,d,λd2 e=>aas e,z⟩
theorem agY {bk bd m:Nat}{ks:List Bool}{d:ε}(hk:ks.length=m)(hc:d.length=m)(hb:m<1073741824)(z:Z h0 h (.av bk (ks.map .bool) nV::.av bd (d.map vi) ar::L)) :
  ∀(n i:Nat),m-i<n->i<=m->Wp (gG n (arr bd m) (arr bk m) (m:Int) (i:Int)) h λy h'=>y=oB (D3 (ks.drop i) (d.drop i))/\h'=h:=by
 intro n
 induction n with
 |zero=>intro i h1;omega
 |succ n ih=>
  intro i h1 h2;rw[wB];unfold nC;by_cases hi:i<m
  .rw[By (by simp;omega)];obtain⟨b,hb⟩:=dS (l:=ks) (i:=i) (by omega);obtain⟨v,hv⟩:=dS (l:=d) (i:=i) (by omega);have hg:D3 (ks.drop i) (d.drop i)=if b=false/\v≠1\/b=true/\v≠0 then false else D3 (ks.drop (i+1)) (d.drop (i+1)):=by rw[drop_cons hb,drop_cons hv,D3]
   rw[hg];clear hg;refine z.rdB (c:=ks) 0 (v:=b) (V6 hb) hk ?_;have hnx:=ih (i+1) (by omega) (by omega);rw[<-rR h2 (by omega)] at hnx;cases b with
   |false=>
    rw[By (by rfl)];refine z.HO (c:=d) 1 (v:=v) (V6 hv) hc ?_;by_cases h1:v=1
    .have e:(if false=false/\v≠1\/false=true/\v≠0 then false else D3 (ks.drop (i+1)) (d.drop (i+1)))=D3 (ks.drop (i+1)) (d.drop (i+1)):=AT (by simp[h1]);rw[e,AT (by simpa using h1),AT (by simp)];exact hnx
    .have e:(if false=false/\v≠1\/false=true/\v≠0 then false else D3 (ks.drop (i+1)) (d.drop (i+1)))=false:=By (by simp[h1]);rw[e,By (by simpa using h1),af];exact⟨rfl,rfl⟩
   |true=>
    rw[AT (by simp),By rfl];refine z.HO (c:=d) 1 (v:=v) (V6 hv) hc ?_;by_cases h1:v=0
    .have e:(if true=false/\v≠1\/true=true/\v≠0 then false else D3 (ks.drop (i+1)) (d.drop (i+1)))=D3 (ks.drop (i+1)) (d.drop (i+1)):=AT (by simp[h1]);rw[e,AT (by simpa using h1)];exact hnx
    .have e:(if true=false/\v≠1\/true=true/\v≠0 then false else D3 (ks.drop (i+1)) (d.drop (i+1)))=false:=By (by simp[h1]);rw[e,By (by simpa using h1),af];exact⟨rfl,rfl⟩
  .rw[AT (by simp;omega),af];have e1:ks.drop i=[]:=aaf (by omega);rw[e1];exact⟨rfl,rfl⟩
end
end
section
variable {α β:Type}{h h' h0:ab}{L:List bA}{Q:β->ab->Prop}
theorem Cl.sub {a:Addr}{vs:δ}{g o n:Nat}(c:Cl h a vs g)(ho:o+n<=vs.length):Cl h (a.plus o) ((vs.drop o).take n) g:=by
 obtain⟨h1,c,base,e,h2,h3,h4⟩:=c;have hl:((vs.drop o).take n).length=n:=by simp;omega
 refine⟨rfl,c,base,e,h2,?_,?_⟩
 .show a.off+o+_<=_;rw[hl];omega
 .show (c.drop (a.off+o)).take _=_;rw[hl]
  conv=>rhs;rw[<-h4]
  rw[List.drop_take,List.take_take,aha]
  congr 1;omega
theorem SR.tail {s:Sl}{x:aK}{X:List aK}{c:Nat}(r:SR h s (x::X)):SR h ⟨s.a.map (·.plus 9),s.len-1,c⟩ X:=by
 have hl:=r.len;obtain⟨g,h1,h2⟩:=r;have hlen:(X.flatMap aK.enc).length=X.length*9:=by rw[ic aK.kB]
 refine⟨g,by simp only;rw[hlen,hl,aac];simp,?_⟩;rcases h2 with h2|⟨a,h2,h3⟩
 .rw[hl] at h2;simp at h2
 .refine .inr ⟨a.plus 9,by simp[h2],?_⟩;have hd:((x::X).flatMap aK.enc).length=9+X.length*9:=by rw[ic aK.kB,aac];omega
  have:=Cl.sub (o:=9) (n:=X.length*9) h3 (by rw[hd];exact aae _);have e:(((x::X).flatMap aK.enc).drop 9).take (X.length*9)=X.flatMap aK.enc:=by
   rw[acS,List.drop_append_of_le_length (by simp[aK.kB]),show x.enc.drop 9=[] from rfl,acB,agw (by omega)]
  rw[e] at this;exact this
section
variable {d1:Int}{src:ζ}{dh cz tsl:Sl}{root:Int}{N:List ah}{S:List aK}{T:List jS}{B:Nat}
theorem Hr (z:Z h0 h L)(G:oj h0 dh N)(hN:Bd N B)(ht:∀x∈N,x.text.size<=65536)(R:SR h0 cz S)(hE:∀h',Fr (λ_=>False) h0 h'->cz.len≠0->jd h' cz bJ=true)(hB:S.length<=B){k n:Nat}(hn:k+4*B+65600<n){r:Bool}(hv:occs k N root S=some r) :
  Wp (oK n (d1,src,dh,root,cz,tsl)) h λy h'=>y=r/\Z h0 h' L:=by
 have hB2:=hN.2.1;have hNB:=hN.1;unfold oK;unfold occs at hv;refine z.new λx0 h1 z _=>?_;have cd:Cl h1 ⟨x0,0,none⟩ [vi d1,.string src,aM dh,vi root,aM cz,aM tsl] (x0+1):=z.cl 0 rfl;have cd2:Cl h1 ((ai x0).plus 2) [aM dh,vi root] (x0+1):=Cl.sub (n:=2) cd (by simp);refine cd2.fG (ls:=[.sl,li]) (x:=(dh,root)) rfl ?_;refine z.new λx2 h2 z _=>z.st 0 λh3 z=>?_;refine z.fG 0 (ls:=[.sl,li]) (x:=(dh,root)) ?_;cases hc:me k N root with
 |none=>rw[hc] at hv;cases hv
 |some e=>
 rw[hc] at hv;simp only at hv;rw[ag];refine (zT z G hN ht hn hc).mono λy h4 hy=>?_;obtain⟨rfl,z⟩:=hy;have fin:∀{h4:ab},Z h0 h4 (GB x2 dh root::DB x0 d1 src dh root cz tsl::L)->some false=some r->Wp (AI false) h4 λy h'=>y=r/\Z h0 h' L:=λz e=>by
  cases e;rw[af];exact⟨rfl,z.drop.drop⟩
 by_cases k0:y=0
 .rw[AT (by simpa using k0)] at hv;rw[AT (by simpa using k0)];refine z.ld 1 (o:=4) (l:=.sl) (x:=cz) ?_;rw[R.len];cases S with
  |nil=>
   rw[By (by simp)];exact fin z hv
  |cons f fs=>
   simp only at hv;rw[AT (by simp;omega)];unfold oU;refine z.ld 1 (o:=4) (l:=.sl) (x:=cz) ?_;refine R.at z (k:=0) (x:=f) rfl λa c1=>c1.fG ?_;refine z.span (x:=f) λb h5 z=>?_;have z0:=z;refine z.ld 0 (o:=0) (l:=li) (x:=f.node) (z.ld 1 (o:=1) (l:=li) (x:=root) ?_);by_cases k1:f.node=root
   .rw[AT (by simpa using k1)] at hv;rw[AT (by simpa using k1)];refine z.ld 0 (o:=1) (l:=li) (x:=f.parent) ?_;by_cases k2:f.parent=-1
    .rw[AT (by simpa using k2)] at hv;rw[AT (by simpa using k2)];refine z.ld 0 (o:=2) (l:=li) (x:=f.entry) ?_;by_cases k3:f.entry=0
     .rw[AT (by simpa using k3)] at hv;rw[AT (by simpa using k3)];refine z.ld 0 (o:=7) (l:=.bool) (x:=f.alias) ?_;cases ha:f.alias with
      |true=>rw[ha,By rfl] at hv;rw[By rfl];exact fin z.drop hv
      |false=>
      rw[ha,AT (by simp)] at hv;rw[AT (by simp)];have z:=z.drop;unfold oT;refine z.ld 1 (o:=4) (l:=.sl) (x:=cz) ?_;have hlen:=R.len;rw[aac] at hlen;rw[ag];refine wT (by decide) (by omega) (by omega) (hE _ z.fr (by omega)) ?_;have R1:SR h0 ⟨cz.a.map (·.plus ((1:Int).toNat*9)),((cz.len:Nat):Int).toNat-(1:Int).toNat,cz.cap-(if cz.cap=0 then 0 else (1:Int).toNat)⟩ fs:=SR.tail (c:=cz.cap-(if cz.cap=0 then 0 else (1:Int).toNat)) R
      cases h0c:Q1 N (f::fs) 0 fs with
      |none=>rw[h0c] at hv;cases hv
      |some b0=>
      rw[h0c] at hv;rw[ag];refine (agV G hN R R1 (B:=B) (by simp at hB;omega) n 0 h5 b0 (by simp at hB;omega) (by omega) (by simpa using h0c) z).mono λy h6 hy=>?_;obtain⟨rfl,z⟩:=hy;cases b0 with
      |false=>exact fin z hv
      |true=>
      simp only at hv;show Wp (sh _ _) h6 _;refine z.ld 0 (o:=0) (l:=.sl) (x:=dh) ?_;rw[G.len];refine z.JE (by omega) (by unfold cT;omega) λbd h7 z _=>?_;rw[aab] at z⊢;rw[lj (enc:=vi)] at z;refine z.fG 2 (ls:=[li,.str,.sl,li,.sl,.sl]) (x:=(d1,src,dh,root,cz,tsl)) ?_;rw[ag];refine (vY z R hB hB2 (by omega)).mono λy h8 hy=>?_;obtain⟨m,MM,rfl,hM,z⟩:=hy;have hM':MmO (MM++L) m (mh 0 (f::fs)):=by
       obtain⟨f,c,h1,h2⟩:=hM;exact⟨f,c,adh _ h1,λp=>(h2 p).imp id λ⟨s,g,e,hm⟩=>⟨s,g,e,adh _ hm⟩⟩
      have z:=z.perm (L':=.av bd ((List.replicate N.length 0).map vi) ar::GB x2 dh root::DB x0 d1 src dh root cz tsl::(MM++L)) (by
       refine List.perm_middle.trans (List.Perm.cons _ (List.perm_middle.trans (List.Perm.cons _ (List.perm_middle.trans (ak0 _)))))  )
      refine z.ld 2 (o:=4) (l:=.sl) (x:=cz) ?_;cases h1c:Fa N (f::fs) 0 (f::fs) (List.replicate N.length 0) with
      |none=>rw[h1c] at hv;cases hv
      |some q=>
      rw[h1c] at hv;rw[ag];refine (agX G hN R hB hM' n 0 h8 _ q (by omega) (by omega) (by simp) (by simpa using h1c) z).mono λy h9 hy=>?_;obtain⟨rfl,d',hd',z⟩:=hy;have sub:List.Sublist L (MM++L):=ag9 _ _;cases q with
      |none=>cases hv;exact af.2 ⟨rfl,(z.drop.drop.drop).sub sub⟩
      |some d2=>
      obtain rfl:=hd' d2 rfl;simp only at hv;show Wp (sh _ _) h9 _;refine z.fG 1 (ls:=[.sl,li]) (x:=(dh,root)) ?_;cases hik:LG k N N (List.replicate N.length false) with
      |none=>rw[hik] at hv;cases hv
      |some ms=>
      rw[hik] at hv;rw[ag];refine (Q0 (k:=k) z G hN (by omega) hik).mono λy h10 hy=>?_;obtain⟨bk,rfl,hml,z⟩:=hy;rw[ag];have hdl:d'.length=N.length:=(by rw[Hq h1c];simp);refine (agY hml hdl (by omega) z n 0 (by omega) (by omega)).mono λy h11 hy=>?_;obtain⟨rfl,rfl⟩:=hy;simp only[ahZ];cases hv;have zz:=(z.drop.drop.drop.drop).sub sub;cases D3 ms d' with
      |true=>exact af.2 ⟨rfl,zz⟩
      |false=>exact af.2 ⟨rfl,zz⟩
     .rw[By k3] at hv;rw[By (by simpa using k3)];exact fin z.drop hv
    .rw[By k2] at hv;rw[By (by simpa using k2)];exact fin z.drop hv
   .rw[By k1] at hv;rw[By (by simpa using k1)];exact fin z.drop hv
 .rw[By k0] at hv;rw[By (by simpa using k0)];exact fin z hv
noncomputable def sV (k:Nat)(d1:Int)(src:ζ)(N:List ah)(root:Int)(S:List aK)(T:List jS):Option Int:=
 if ¬(0<=d1/\d1<9) then some 1 else if ¬src.size<=65536 then some 6 else match occs k N root S with
  |none=>none
  |some false=>some 3
  |some true=>match Vu src N S T with
   |none=>none
   |some false=>some 2
   |some true=>match Iv N S 0 S with
    |none=>none
    |some false=>some 17
    |some true=>some 0
theorem LU (z:Z h0 h L)(G:oj h0 dh N)(hN:Bd N B)(ht:∀x∈N,x.text.size<=65536)(R:SR h0 cz S)(RT:Vs h0 tsl T)(hE:∀h',Fr (λ_=>False) h0 h'->cz.len≠0->jd h' cz bJ=true)(hB:S.length<=B)(hBT:T.length<=B){k n:Nat}(hn:k+4*B+65610<n){r:Int}(hv:sV k d1 src N root S T=some r) :
  Wp (iQ n (d1,src,dh,root,cz,tsl)) h λy h'=>y=r/\Z h0 h' L:=by
 have hB2:=hN.2.1;unfold iQ;unfold sV at hv;refine z.new λx0 h1 z _=>z.new λx1 h2 z _=>z.st 0 λh3 z=>?_
 let F (f:FuncId):ξ:=Value.func (Fn.func f) #[] #[Value.pointer (some (ai x0))]
 refine z.fG 0 (ls:=[.raw,.raw,.raw,.raw,.raw]) (x:=(F jz,F jA,F jB,F jC,F jD)) ?_;have z:=z.drop;obtain⟨n',rfl⟩:∃n',n=n'+6:=⟨n-6,by omega⟩;have fin:∀(r':Int) {h':ab},some r'=some r->Z h0 h' (DB x0 d1 src dh root cz tsl::L)->Wp (AI (Sum.inr r':Unit⊕Int)) h' λa h'=>Wp (bu (λ_=>AI 0) (λx4=>AI x4) a) h' λy h'=>y=r/\Z h0 h' L:=λr' h' e z=>by
  cases e;rw[af];exact af.2 ⟨rfl,z.drop⟩
 have round:∀(i:Nat) (f:FuncId) (m:Nat->Addr->M (Bool×Int)) (b:Bool) (e:Int) (k:Nat) {h3:ab},i<5->[F jz,F jA,F jB,F jC,F jD][i]?=some (F f) ->
   (∀n,vc n (F f)=sh (nU [.one (.ai)] (F f)) λ(c:Addr)=>m n c)->Wp (m k (ai x0)) h3 (λy h'=>y=(b,e)/\Z h0 h' (DB x0 d1 src dh root cz tsl::L)) ->
   (∀h',Z h0 h' (DB x0 d1 src dh root cz tsl::L)->Wp (if b=true then jq k (F jz,F jA,F jB,F jC,F jD) ((i:Int)+1) else AI (Sum.inr e)) h' λa h'=>Wp (bu (λ_=>AI 0) (λx4=>AI x4) a) h' λy h'=>y=r/\Z h0 h' L) ->
   Wp (jq (k+1) (F jz,F jA,F jB,F jC,F jD) (i:Int)) h3 λa h'=>Wp (bu (λ_=>AI 0) (λx4=>AI x4) a) h' λy h'=>y=r/\Z h0 h' L:=by
  intro i f m b e k h3 hi hf hD hm hq;rw[ve];unfold pE;rw[By (by simp;omega),ag];refine RF (v:=F f) (by omega) (by omega) (by rw[aab];exact hf) rfl ?_;rw[ag,hD,ag];refine kr (c:=ai x0) rfl ?_;refine hm.mono λy h4 hy=>?_;obtain⟨rfl,z⟩:=hy;have:=hq h4 z;cases b with
  |true=>
   rw[By rfl] at this;rw[AT (by simp),show IntKind.i64.wrap ((i:Int)+1)=(i:Int)+1 from aeH (by omega) (by omega)];exact this
  |false=>
   rw[AT (by simp)] at this;rw[By (by rfl)];exact this
 rw[ag];refine round 0 jz qu (decide (0<=d1/\d1<9)) 1 (n'+5) (by decide) rfl (λn=>rfl) ?_ λh4 z=>?_
 .unfold qu;refine z.ld 0 (o:=0) (l:=li) (x:=d1) ?_;by_cases k1:0<=d1
  .rw[By (by simpa using k1)];refine z.ld 0 (o:=0) (l:=li) (x:=d1) ?_;rw[af];exact⟨by simp[k1],z⟩
  .rw[AT (by simpa using k1),af];exact⟨by simp[k1],z⟩
 by_cases c1:0<=d1/\d1<9
 case neg=>
  rw[By c1] at hv;rw[AT (by simpa using c1)];exact fin 1 hv z
 rw[AT (by simpa using c1)] at hv;rw[By (by simpa using c1)];refine round 1 jA qv (decide ((src.size:Int)<=65536)) 6 (n'+4) (by decide) rfl (λn=>rfl) ?_ λh5 z=>?_
 .unfold qv;refine z.ld 0 (o:=1) (l:=.str) (x:=src) ?_;rw[af];exact⟨rfl,z⟩
 by_cases c2:src.size<=65536
 case neg=>
  rw[By c2] at hv;rw[AT (by simp;omega)];exact fin 6 hv z
 rw[AT (by simpa using c2)] at hv;rw[By (by simp;omega)];cases ho:occs k N root S with
 |none=>rw[ho] at hv;cases hv
 |some b3=>
 rw[ho] at hv;refine round 2 jB qJ b3 3 (n'+3) (by decide) rfl (λn=>rfl) ?_ λh6 z=>?_
 .unfold qJ;refine z.fG 0 (ls:=[li,.str,.sl,li,.sl,.sl]) (x:=(d1,src,dh,root,cz,tsl)) ?_;rw[ag];refine (Hr z G hN ht R hE hB (by omega) ho).mono λy h' hy=>?_;obtain⟨rfl,z⟩:=hy;rw[af];exact⟨rfl,z⟩
 cases b3 with
 |false=>exact fin 3 hv z
 |true=>
 rw[By rfl];simp only at hv;cases hr:Vu src N S T with
 |none=>rw[hr] at hv;cases hv
 |some b4=>
 rw[hr] at hv;refine round 3 jC qK b4 2 (n'+2) (by decide) rfl (λn=>rfl) ?_ λh7 z=>?_
 .unfold qK;refine z.fG 0 (ls:=[li,.str,.sl,li,.sl,.sl]) (x:=(d1,src,dh,root,cz,tsl)) ?_;rw[ag];refine (Vv z G R RT hB hBT hB2 (by omega) hr).mono λy h' hy=>?_;obtain⟨rfl,z⟩:=hy;rw[af];exact⟨rfl,z⟩
 cases b4 with
 |false=>exact fin 2 hv z
 |true=>
 rw[By rfl];simp only at hv;cases hs:Iv N S 0 S with
 |none=>rw[hs] at hv;cases hv
 |some b5=>
 rw[hs] at hv;refine round 4 jD qN b5 17 (n'+1) (by decide) rfl (λn=>rfl) ?_ λh8 z=>?_
 .unfold qN;refine z.fG 0 (ls:=[li,.str,.sl,li,.sl,.sl]) (x:=(d1,src,dh,root,cz,tsl)) ?_;rw[ag];refine (Vw z G R hB hB2 (by omega) hs).mono λy h' hy=>?_;obtain⟨rfl,z⟩:=hy;rw[af];exact⟨rfl,z⟩
 cases b5 with
 |false=>exact fin 17 hv z
 |true=>
 rw[By rfl];cases hv;show Wp (jq (n'+1) _ 5) h8 _;rw[ve];unfold pE;rw[AT (by decide),af];exact af.2 ⟨rfl,z.drop⟩
end
end
end Go.Sh
