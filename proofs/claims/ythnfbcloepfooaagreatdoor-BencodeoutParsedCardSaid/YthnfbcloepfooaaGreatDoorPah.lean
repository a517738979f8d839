
import Derived.Test.YthnfbcloepfooaaGreatDoorAgoZ
import Derived.Test.YthnfbcloepfooaaGreatDoorSh2
set_option linter.all false
namespace Go.Ago
open Go
variable {α β:Type}
def ins (k:Nat)(o:Option uK)(u:Bool)(t:Nat)(h:af):af:=
 { h with get:=λj=>if j=k then o else h.get j,jY:=λg=>if g=k+1 then t else h.jY g,used:=λj=>if j=k then u else h.used j }
structure Ok (k:Nat) (h:af):Prop where
 get:h.get k=none
 used:h.used k=false
 lt:k<h.next
 bG:∀j c g b e,h.get j=some (.cells c g b e)->g≠k+1
def Gk (k:Nat)(o:Option uK):Prop:=∀c g b e,o=some (.cells c g b e)->g=k+1
structure Mn (b:Nat) (m:M α):Prop where
 mn:∀k o u t h x h1,k<b->Gk k o->Ok k h->m h=some (x,h1)->m (ins k o u t h)=some (x,ins k o u t h1)/\Ok k h1
 wf:∀h x h1,WF h->m h=some (x,h1)->WF h1/\h.next<=h1.next
theorem oQ {a b:af}(h1:a.fj=b.fj)(h2:∀j,a.get j=b.get j)(h3:a.next=b.next)(h4:∀g,a.jY g=b.jY g)(h5:∀j,a.used j=b.used j):a=b:=by
 cases a;cases b;simp only at h1 h2 h3 h4 h5;obtain rfl:=h1;obtain rfl:=funext h2;obtain rfl:=h3;obtain rfl:=funext h4;obtain rfl:=funext h5
 congr 1
 funext p;exact Subsingleton.elim _ _
section
variable {k t b:Nat}{o:Option uK}{u:Bool}{h h1:af}
theorem rC {j:Nat}{c:uK}(O:Ok k h)(hj:h.get j=some c):(ins k o u t h).get j=some c:=by
 show (if j=k then o else h.get j)=_;rw[By (λe=>by subst e;rw[O.get] at hj;cases hj)];exact hj
theorem Sj {a:Addr}{v:ξ}(O:Ok k h)(hv:h.cell a=some v):(ins k o u t h).cell a=some v:=by
 unfold af.cell at hv⊢;cases hg:h.get a.block with
 |none=>rw[hg] at hv;cases hv
 |some c=>rw[hg] at hv;rw[rC O hg];exact hv
theorem pS {a:θ}{n:Nat}{v:δ}(O:Ok k h)(hv:bj h a n=some v):bj (ins k o u t h) a n=some v:=by
 unfold bj at hv⊢;cases a with
 |none=>exact hv
 |some a=>
  simp only at hv⊢;cases hg:h.get a.block with
  |none=>rw[hg] at hv;cases hv
  |some c=>rw[hg] at hv;rw[rC O hg];exact hv
theorem Mn.ro {m:M α}(r:af->Option α)(hm:∀h,m h=(r h).map λx=>(x,h))(hr:∀k o u t h x,Ok k h->r h=some x->r (ins k o u t h)=some x):Mn b m:=by
 have e:∀h x h1,m h=some (x,h1)->r h=some x/\h1=h:=λh x h1 hx=>by
  rw[hm] at hx;cases hq:r h with
  |none=>rw[hq] at hx;cases hx
  |some y=>rw[hq] at hx;cases hx;exact⟨rfl,rfl⟩
 refine⟨λk o u t h x h1 _ _ O hx=>?_,λh x h1 w hx=>?_⟩
 .obtain⟨e1,rfl⟩:=e _ _ _ hx;exact⟨by rw[hm,hr k o u t _ x O e1];rfl,O⟩
 .obtain⟨_,rfl⟩:=e _ _ _ hx;exact⟨w,aai _⟩
theorem Mn.fix {m:M α}(r:Option α)(hm:∀h,m h=r.map λx=>(x,h)):Mn b m:=.ro (λ_=>r) hm λ_ _ _ _ _ _ _ h=>h
theorem Mn.pure {x:α}:Mn b (AS x):=.fix (some x) λ_=>rfl
theorem Mn.fail:Mn b (AT:M α):=.fix none λ_=>rfl
theorem Mn.bind {m:M α}{f:α->M β}(a:Mn b m)(c:∀x,Mn b (f x)):Mn b (AI m f):=by
 have e:∀h y h2,(AI m f) h=some (y,h2)->∃x h1,m h=some (x,h1)/\f x h1=some (y,h2):=λh y h2 hx=>by
  unfold AI at hx;split at hx
  .exact⟨_,_,by assumption,hx⟩
  .cases hx
 refine⟨λk o u t h y h2 hb hg O hx=>?_,λh y h2 w hx=>?_⟩
 .obtain⟨x,h1,e1,e2⟩:=e _ _ _ hx;obtain⟨a1,a2⟩:=a.mn k o u t h x h1 hb hg O e1;obtain⟨c1,c2⟩:=(c x).mn k o u t h1 y h2 hb hg a2 e2;exact⟨by unfold AI;rw[a1];exact c1,c2⟩
 .obtain⟨x,h1,e1,e2⟩:=e _ _ _ hx;have a1:=a.wf h x h1 w e1;have c1:=(c x).wf h1 y h2 a1.1 e2;exact⟨c1.1,aaX a1.2 c1.2⟩
theorem Mn.ite {p:Prop}[Decidable p]{m m':M α}(a:Mn b m)(c:Mn b m'):Mn b (if p then m else m'):=by split<;>assumption
theorem Mn.sum {γ:Type}{f:α->M γ}{g:β->M γ}(a:∀x,Mn b (f x))(c:∀x,Mn b (g x)):∀x,Mn b (cn f g x)
 |.inl x=>a x
 |.inr x=>c x
theorem Mn.ar {l:eh}{a:Addr}:Mn b (ar l a):=by
 refine .ro (λh=>(h.cell a).bind (xi l)) (λh=>?_) λk o u t h x O hx=>?_
 .unfold Ago.ar;cases h.cell a with
  |none=>rfl
  |some v=>simp only[aaA];cases xi l v<;>rfl
 .cases hc:h.cell a with
  |none=>rw[hc] at hx;cases hx
  |some v=>rw[hc] at hx;rw[Sj O hc];exact hx
theorem Mn.bh {ls:List eh}{a:Addr}:Mn b (bh ls a):=by
 refine .ro (λh=>(bj h (some a) ls.length).bind (vX ls)) (λh=>?_) λk o u t h x O hx=>?_
 .unfold Ago.bh;cases bj h (some a) ls.length with
  |none=>rfl
  |some v=>simp only[aaA];cases vX ls v<;>rfl
 .cases hc:bj h (some a) ls.length with
  |none=>rw[hc] at hx;cases hx
  |some v=>rw[hc] at hx;rw[pS O hc];exact hx
theorem Mn.DD {s:Sl}{z:Nat}:Mn b (DD s z):=by
 refine .ro (λh=>bj h s.a (s.len*z)) (λh=>?_) λk o u t h x O hx=>pS O hx;unfold Ago.DD;cases bj h s.a (s.len*z)<;>rfl
theorem Mn.xZ {c:Bool}:Mn b (xZ c):=by cases c;exact .fix none λ_=>rfl;exact .fix (some ()) λ_=>rfl
theorem Mn.nn {p:θ}:Mn b (nn p):=by cases p;exact .fix none λ_=>rfl;exact .fix (some _) λ_=>rfl
theorem Mn.nr {cs:List Ty}{x:ξ}:Mn b (nr cs x):=.fix (sE cs (B5 x)) λh=>by unfold Ago.nr;cases sE cs (B5 x)<;>rfl
theorem Mn.ao {s:Sl}{i:Int}{z:Nat}:Mn b (ao s i z):=by
 refine .fix (s.a.bind λa=>if 0<=i/\i<s.len then some (a.plus (i.toNat*z)) else none) λh=>?_;unfold Ago.ao;cases s.a with
 |none=>rfl
 |some a=>simp only[aaA];split<;>rfl
theorem Mn.nO {s:ζ}{i:Int}:Mn b (nO s i):=.fix (if 0<=i then s[i.toNat]? else none) λh=>by unfold Ago.nO;split<;>simp_all
theorem Mn.ji {s:ζ}{i j:Int}:Mn b (ji s i j):=.fix (if 0<=i/\i<=j/\j<=s.size then some (Yo s i.toNat j.toNat) else none) λh=>by unfold Ago.ji;split<;>rfl
theorem Mn.yS {s s':ζ}:Mn b (yS s s'):=.fix (if s.size+s'.size<=cN then some (s++s') else none) λh=>by unfold Ago.yS;split<;>rfl
theorem Sk {s:Sl}{e:κ}(O:Ok k h)(he:gx h s e=true):gx (ins k o u t h) s e=true:=by
 obtain⟨sa,sl,sc⟩:=s;unfold gx at he⊢;cases sa with
 |none=>exact he
 |some a=>
  simp only at he⊢;cases hg:h.get a.block with
  |none=>rw[hg] at he;cases he
  |some c=>rw[hg] at he;rw[rC O hg];exact he
theorem Mn.gf {s:Sl}{i j:Int}{e:κ}{z:Nat}:Mn b (gf s i j e z):=by
 refine .ro (λh=>if 0<=i/\i<=j/\j<=s.len/\gx h s e=true then some ⟨s.a.map (·.plus (i.toNat*z)),j.toNat-i.toNat,s.cap-(if s.cap=0 then 0 else i.toNat)⟩ else none) (λh=>by unfold Ago.gf;split<;>rfl) λk o u t h x O hx=>?_
 split at hx
 .rename_i hc;rw[BY ⟨hc.1,hc.2.1,hc.2.2.1,Sk O hc.2.2.2⟩];exact hx
 .cases hx
theorem wX {nm nx:Nat}{e:κ}{cs:δ}(hn:nm≠k):(ins k o u t h).bt nm nx e cs=ins k o u t (h.bt nm nx e cs):=by
 refine oQ rfl (λj=>?_) rfl (λg=>?_) λj=>?_<;>simp only[af.bt,ins,ly,aQ]<;>grind
theorem Ok.bt {nm nx:Nat}{e:κ}{cs:δ}(O:Ok k h)(hn:nm≠k)(hx:h.next<=nx):Ok k (h.bt nm nx e cs):=by
 refine⟨?_,?_,aaC O.lt hx,λj c g b e' hj=>?_⟩
 .rw[ei (Ne.symm hn)];exact O.get
 .simp only[af.bt,aQ];rw[By (Ne.symm hn)];exact O.used
 .by_cases hjn:j=nm
  .subst hjn;rw[fy] at hj;cases hj;omega
  .rw[ei hjn] at hj;exact O.bG _ _ _ _ _ hj
theorem Vv {x:Nat}{e:κ}{cs:δ}(hx:aJ none e cs h=some (x,h1)):cs.all fi=true/\x=h.next/\h1=h.new e cs:=by
 unfold aJ at hx;split at hx
 .cases hx;exact⟨by assumption,rfl,rfl⟩
 .cases hx
theorem Mn.aJ {e:κ}{cs:δ}:Mn b (aJ none e cs):=by
 refine⟨λk o u t h x h1 _ _ O hx=>?_,λh x h1 w hx=>?_⟩
 .obtain⟨hs,rfl,rfl⟩:=Vv hx;have:=O.lt;refine⟨?_,O.bt (by omega) (aaU _)⟩;unfold Ago.aJ;rw[BY hs];simp only[af.new];rw[<-wX (by omega)];rfl
 .obtain⟨hs,rfl,rfl⟩:=Vv hx;exact⟨w.new,aaU _⟩
theorem Mw {e:κ}{cs:δ}{k2:Nat}(hs:cs.all fi=true)(h2:h.used k2=false/\k2<h.next/\(h.get k2).isNone=true):aJ (some k2) e cs h=some (k2,h.bt k2 h.next e cs):=by
 unfold Ago.aJ;rw[BY hs];simp only;rw[BY h2]
theorem Mn.Jr {e:κ}{cs:δ}{i:Nat}:Mn b (Ago.aJ (some (b+i)) e cs):=by
 refine⟨λk o u t h x h1 hk _ O hx=>?_,λh x h1 w hx=>?_⟩<;>unfold Ago.aJ at hx<;>split at hx
 .rename_i hs;simp only at hx;split at hx
  .rename_i hc;cases hx;refine⟨?_,O.bt (by omega) (aai _)⟩;rw[Mw hs,<-wX (by omega)]
   .rfl
   .simp only[ins];rw[By (by omega),By (by omega)];exact hc
  .cases hx
 .cases hx
 .simp only at hx;split at hx
  .rename_i hc;cases hx;exact⟨w.bt hc.2.1 (aai _),aai _⟩
  .cases hx
 .cases hx
theorem Mn.res {n:Nat}{f:Nat->M β}(c:∀x,Mn x (f x)):Mn b (AI (dT n) f):=by
 refine⟨λk o u t h y h2 hb hg O hx=>?_,λh y h2 w hx=>?_⟩
 .have hx:f h.next { h with next:=h.next+n }=some (y,h2):=hx
  exact (c h.next).mn k o u t { h with next:=h.next+n } y h2 O.lt hg ⟨O.get,O.used,by have:=O.lt;show k<h.next+n;omega,O.bG⟩ hx
 .have hx:f h.next { h with next:=h.next+n }=some (y,h2):=hx
  have:=(c h.next).wf _ y h2 w.dT hx
  exact⟨this.1,by have:=this.2;simp only at this;omega⟩
theorem Mn.DV {nm:μ}{e:κ}{z:δ}{l c:Int}(hn:∀cs,Mn b (Ago.aJ nm e cs)):Mn b (pT nm e z l c):=by
 have he:∀h,pT nm e z l c h=if 0<=l/\l<=c/\c<=cN then (AI (Ago.aJ nm e (List.replicate c.toNat z).flatten) λb=>AS ⟨some ⟨b,0,none⟩,l.toNat,c.toNat+1⟩) h else none:=λh=>by
  unfold pT AI AS;split
  .cases Ago.aJ nm e (List.replicate c.toNat z).flatten h<;>rfl
  .rfl
 by_cases hc:0<=l/\l<=c/\c<=cN
 .have:pT nm e z l c=AI (Ago.aJ nm e (List.replicate c.toNat z).flatten) λb=>AS ⟨some ⟨b,0,none⟩,l.toNat,c.toNat+1⟩:=funext λh=>by rw[he,BY hc]
  rw[this];exact .bind (hn _) λ_=>.pure
 .have:pT nm e z l c=AT:=funext λh=>by rw[he,By hc];rfl
  rw[this];exact .fail
theorem Mn.pT {e:κ}{z:δ}{l c:Int}:Mn b (Ago.pT none e z l c):=Mn.DV λ_=>Mn.aJ
theorem Mn.ZP {e:κ}{z:δ}{l c:Int}{i:Nat}:Mn b (Ago.pT (some (b+i)) e z l c):=Mn.DV λ_=>Mn.Jr
theorem Mx {j g base:Nat}{c:δ}{e:κ}(hk:j≠k)(hg:g≠k+1)(ho:Gk k o):(ins k o u t h).mY j c g base e=ins k o u t (h.mY j c g base e):=by
 refine oQ rfl (λi=>?_) rfl (λ_=>rfl) λ_=>rfl;simp only[af.mY,ins,aQ];by_cases hi:i=k
 .subst hi;rw[By (Ne.symm hk),BY rfl,BY rfl];cases o with
  |none=>rfl
  |some q=>
   cases q with
   |cells c' g' b' e'=>
    have:=ho _ _ _ _ rfl;simp only;rw[By (by omega)]
   |_=>rfl
 .rw[By hi,By hi]
theorem Ok.mY {j g base:Nat}{c:δ}{e:κ}(O:Ok k h)(hk:j≠k)(hg:g≠k+1):Ok k (h.mY j c g base e):=by
 refine⟨?_,O.used,O.lt,λi c' g' b' e' hi=>?_⟩
 .simp only[af.mY,aQ];rw[By (Ne.symm hk),O.get]
 .simp only[af.mY,aQ] at hi;split at hi
  .cases hi;exact hg
  .split at hi
   .rename_i c2 g2 b2 e2 h2;split at hi
    .cases hi
    .cases hi;exact O.bG _ _ _ _ _ h2
   .exact O.bG _ _ _ _ _ hi
theorem Ok.ne (O:Ok k h){j:Nat}{c:uK}(hj:h.get j=some c):j≠k:=λe=>by subst e;rw[O.get] at hj;cases hj
theorem Mn.bE {a:Addr}{vs:δ}:Mn b (bE a vs):=by
 have key:∀h h1 (x:Unit),Ago.bE a vs h=some (x,h1)->∃c g base e,h.get a.block=some (.cells c g base e)/\(g≠0/\a.off+vs.length<=c.length/\vs.all fi=true)/\h1=h.mY a.block (bB c a.off vs) g base e:=λh h1 x hx=>by
  unfold Ago.bE at hx;split at hx
  .rename_i c g base e hg;split at hx
   .rename_i hc;cases hx;exact⟨c,g,base,e,hg,hc,rfl⟩
   .cases hx
  .cases hx
 refine⟨λk o u t h x h1 hk ho O hx=>?_,λh x h1 w hx=>?_⟩
 .obtain⟨c,g,base,e,hg,hc,rfl⟩:=key _ _ _ hx;refine⟨?_,O.mY (O.ne hg) (O.bG _ _ _ _ _ hg)⟩;unfold Ago.bE;rw[rC O hg];simp only;rw[BY hc,Mx (O.ne hg) (O.bG _ _ _ _ _ hg) ho]
 .obtain⟨c,g,base,e,hg,hc,rfl⟩:=key _ _ _ hx;exact⟨w.mY hg,aai _⟩
theorem Mn.xL {d s:Sl}{z:Nat}:Mn b (xL d s z):=by
 have e:∀h,Ago.xL d s z h=AI (λh=>(bj h s.a (Nat.min s.len d.len*z)).map λx=>(x,h)) (λcs=>if cs=[] then AS (Nat.min s.len d.len) else match d.a with
   |none=>AT
   |some a=>AI (Ago.bE a cs) λ_=>AS (Nat.min s.len d.len)) h:=λh=>by
  unfold Ago.xL AI;cases hq:bj h s.a (Nat.min s.len d.len*z) with
  |none=>simp only[hq,Option.map]
  |some cs=>
   cases cs with
   |nil=>simp only[hq,Option.map,BY];rfl
   |cons v cs=>
    simp only[hq,Option.map];rw[By (by simp)];cases d.a with
    |none=>rfl
    |some a=>simp only;cases hw:Ago.bE a (v::cs) h with
     |none=>simp only[hw]
     |some y=>simp only[hw];rfl
 have:Ago.xL d s z=_:=funext e;rw[this];refine .bind (.ro (λh=>bj h s.a (Nat.min s.len d.len*z)) (λh=>rfl) λk o u t h x O hx=>pS O hx) λcs=>?_;split
 .exact .pure
 .split
  .exact .fail
  .exact .bind .bE λ_=>.pure
theorem Mn.kO {qs:List θ}{m:M α}(a:Mn b m):Mn b (kO qs m):=by
 have key:∀h x h1,Ago.kO qs m h=some (x,h1)->m h=some (x,h1)/\sameAt h h1 qs=true:=λh x h1 hx=>by
  unfold Ago.kO at hx;split at hx
  .rename_i y h2 e;split at hx
   .rename_i hs;cases hx;exact⟨e,hs⟩
   .cases hx
  .cases hx
 refine⟨λk o u t h x h1 hk ho O hx=>?_,λh x h1 w hx=>a.wf h x h1 w (key _ _ _ hx).1⟩;obtain⟨e1,e2⟩:=key _ _ _ hx;obtain⟨a1,a2⟩:=a.mn k o u t h x h1 hk ho O e1;refine⟨?_,a2⟩;have hs:sameAt (ins k o u t h) (ins k o u t h1) qs=true:=rD λc hc q hq=>by
  subst hq;have:=wi e2 _ hc q rfl;by_cases hqk:q.block=k
  .apply eL.of;simp only[ins];rw[BY hqk,BY hqk]
  .unfold eL at this⊢;simp only[ins];rw[By hqk,By hqk];exact this
 unfold Ago.kO;rw[a1];simp only;rw[hs]
theorem Mn.wb {ks:η}{a:Addr}{m:M α}(c:Mn b m):Mn b (wb ks a m):=by
 have key:∀h x h1,Ago.wb ks a m h=some (x,h1)->m h=some (x,h1)/\SD h a ks=true:=λh x h1 hx=>by
  unfold Ago.wb at hx;split at hx
  .rename_i e;exact⟨hx,e⟩
  .cases hx
 refine⟨λk o u t h x h1 hk ho O hx=>?_,λh x h1 w hx=>c.wf h x h1 w (key _ _ _ hx).1⟩;obtain⟨e1,e2⟩:=key _ _ _ hx;obtain⟨a1,a2⟩:=c.mn k o u t h x h1 hk ho O e1;refine⟨?_,a2⟩;have:SD (ins k o u t h) a ks=true:=by
  unfold SD at e2⊢;cases hg:h.get a.block with
  |none=>rw[hg] at e2;cases e2
  |some q=>rw[hg] at e2;rw[rC O hg];exact e2
 unfold Ago.wb;rw[this];exact a1
theorem Mn.rN {kt:κ}{T:Ty}{z:T.den}{m:μ}{q:ξ}:Mn b (rN kt T z m q):=by
 cases m with
 |none=>exact .fix (some (false,z)) λ_=>rfl
 |some m=>
  refine .ro (λh=>(h.p8 kt m).bind λx=>match sM q x.2 with
   |some v=>(DC T v).map λy=>(true,y)
   |none=>some (false,z)) (λh=>?_) λk o u t h x O hx=>hx
  unfold Ago.rN;cases hq:h.p8 kt m with
  |none=>simp only[hq];rfl
  |some x=>
   obtain⟨c,es⟩:=x;simp only[hq,aaA];cases hw:sM q es with
   |none=>rfl
   |some v=>simp only;cases DC T v<;>rfl
theorem Mn.vx {kt:κ}:Mn b (vx kt):=by
 refine⟨λk o u t h x h1 _ _ O hx=>?_,λh x h1 w hx=>?_⟩
 .cases hx;have:=O.lt;refine⟨?_,O.get,?_,aal O.lt,O.bG⟩
  .unfold Ago.vx;show some (h.next,_)=some (h.next,_)
   congr 2
   refine oQ rfl (λ_=>rfl) rfl (λ_=>rfl) λj=>?_;simp only[ins,af.iP,aQ];grind
  .simp only[aQ];rw[By (by omega)];exact O.used
 .obtain⟨y,h2,e,hw⟩:=Io (kt:=kt) w (Q:=λ_ h'=>WF h'/\h.next<=h'.next) λh' _ f=>⟨f.wf,f.next⟩
  rw[hx] at e;cases e;exact hw
theorem Mn.upM {m:M α}(r:af->Option (α×Nat×MA))(hm:∀h,m h=(r h).map λx=>(x.1,h.iP x.2.1 x.2.2))(hr:∀k o u t h,r (ins k o u t h)=r h)(hw:∀h x,r h=some x->∃y,h.fj x.2.1=some y):Mn b m:=by
 have e:∀h x h1,m h=some (x,h1)->∃j y,r h=some (x,j,y)/\h1=h.iP j y:=λh x h1 hx=>by
  rw[hm] at hx;cases hq:r h with
  |none=>rw[hq] at hx;cases hx
  |some z=>rw[hq] at hx;cases hx;exact⟨_,_,rfl,rfl⟩
 refine⟨λk o u t h x h1 _ _ O hx=>?_,λh x h1 w hx=>?_⟩
 .obtain⟨j,y,e1,rfl⟩:=e _ _ _ hx;exact⟨by rw[hm,hr,e1];rfl,O.get,O.used,O.lt,O.bG⟩
 .obtain⟨j,y,e1,rfl⟩:=e _ _ _ hx;obtain⟨y',e2⟩:=hw _ _ e1;exact⟨(Fr.iP w e2).wf,aai _⟩
theorem Mn.nW {m:μ}{st:Int}{v:ξ}:Mn b (nW m st v):=by
 cases m with
 |none=>exact .fix none λ_=>rfl
 |some m=>
  refine .upM (λh=>(h.fj m).bind λx=>if 0<=st then (yT st.toNat v x.es).map λes=>((),m,⟨x.kt,x.clock,es⟩) else none) (λh=>?_) (λ_ _ _ _ _=>rfl) λh x hx=>?_
  .unfold Ago.nW;cases hq:h.fj m with
   |none=>simp only[hq];rfl
   |some x=>
    simp only[hq,aaA];by_cases hs:0<=st
    .rw[BY hs,decide_eq_true hs];cases yT st.toNat v x.es<;>rfl
    .rw[By hs,abi hs];rfl
  .cases hq:h.fj m with
   |none=>rw[hq] at hx;cases hx
   |some y=>
    rw[hq] at hx;simp only[aaA] at hx;split at hx
    .cases hz:yT st.toNat v y.es with
     |none=>rw[hz] at hx;cases hx
     |some es=>rw[hz] at hx;cases hx;exact⟨y,hq⟩
    .cases hx
theorem Mn.lT {kt:κ}{T:Ty}{z:T.den}{m:μ}{q:ξ}:Mn b (lT kt T z m q):=by
 cases m with
 |none=>exact .fix none λ_=>rfl
 |some m=>
  have e:∀h,Ago.lT kt T z (some m) q h=AI (λh=>((h.p8 kt m).bind λx=>match eK q x.2 with
    |some e=>(DC T e.val).map λy=>((some (y,e.born):Option (T.den×Nat)),x)
    |none=>some (none,x)).map λx=>(x,h)) (λx=>match x.1 with
    |some y=>AS y
    |none=>λh=>((h.p8 kt m).map λx=>((z,x.1),m,(⟨kt,x.1+1,nq q (zL T z) x.1 x.2⟩:MA))).map λx=>(x.1,h.iP x.2.1 x.2.2)) h:=λh=>by
   unfold Ago.lT AI;cases hq:h.p8 kt m with
   |none=>simp only[hq];rfl
   |some x=>
    obtain⟨c,es⟩:=x;simp only[hq,aaA];cases hw:eK q es with
    |none=>simp only[aby,hq]
    |some v=>simp only;cases DC T v.val<;>rfl
  have:Ago.lT kt T z (some m) q=_:=funext e;rw[this];refine .bind (.ro _ (λ_=>rfl) λk o u t h x O hx=>hx) λx=>?_;split
  .exact .pure
  .refine .upM _ (λ_=>rfl) (λ_ _ _ _ _=>rfl) λh x hx=>?_;cases hq:h.p8 kt m with
   |none=>rw[hq] at hx;cases hx
   |some y=>
    rw[hq] at hx;cases hx;unfold af.p8 at hq;cases hz:h.fj m with
    |none=>rw[hz] at hq;cases hq
    |some w=>exact⟨w,rfl⟩
theorem Mn.kF {s : Sl} {z n : Nat} {e : κ} {new : δ} : Mn b (kF false s z e n new) :=by
  by_cases hn : n = 0
  · refine .fix (match s.a with
      |none => if s.len = 0 /\ s.cap = 0 /\ new = [] then some s else none
      |some _ => if new = [] then some s else none) λh => ?_
    unfold Ago.kF;rw[BY hn];cases s.a with
    |none => simp only; split<;>rfl
    |some a => simp only; split<;>rfl
  by_cases hb : s.len+n <= cN /\ new.length = n*z
  rotate_left
  · exact .fix none λh => by unfold Ago.kF; rw[By hn, BY hb]; rfl
  cases ha : s.a with
  |none=>
    by_cases hc : s.len = 0 /\ s.cap = 0
    · have e2 : ∀h, Ago.kF false s z e n new h = some (⟨some ⟨h.next, 0, none⟩, n, 0⟩, h.new e new) := λh => by unfold Ago.kF; rw[By hn, By (by simp[hb]), ha]; simp only; rw[BY hc]
      refine⟨λk o u t h x h1 _ _ O hx => ?_, λh x h1 w hx => ?_⟩
      · rw[e2] at hx; cases hx
        have := O.lt;refine⟨?_, O.bt (by omega) (aaU _)⟩;rw[e2];simp only[af.new];rw[<-wX (by omega)]; rfl
      · rw[e2] at hx; cases hx; exact⟨w.new, aaU _⟩
    · exact .fix none λh => by unfold Ago.kF; rw[By hn, By (by simp[hb]), ha]; simp only; rw[By hc]; rfl
  |some a=>
  -- the three ways
  have key : ∀h x h1, Ago.kF false s z e n new h = some (x, h1) -> ∃j7 c g base e', bj h (some a) (s.len*z) = some j7 /\ h.get a.block = some (.cells c g base e') /\ (
      ((s.cap ≠ 0 /\ s.len+n < s.cap) /\ (g ≠ 0 /\ a.off+(s.len*z+new.length) <= c.length) /\ x = ⟨some a, s.len+n, s.cap⟩ /\ h1 = h.mY a.block (bB c (a.off+s.len*z) new) g base e') \/
      (¬(s.cap ≠ 0 /\ s.len+n < s.cap) /\ s.cap ≠ 0 /\ x = ⟨some ⟨h.next, 0, none⟩, s.len+n, 0⟩ /\ h1 = h.new e (j7 ++ new)) \/
      (s.cap = 0 /\ (g ≠ 0 /\ e' = e) /\ x = ⟨some ⟨h.next, 0, none⟩, s.len+n, 0⟩ /\ h.jY g = base+a.off+s.len*z /\ h1 = { h with
              get := λj => cond (Nat.beq j h.next) (some (.cells (j7 ++ new) g (base+a.off) e)) (Xp (h.get j))
              next := h.next+1
              jY := λg' => cond (Nat.beq g' g) (base+a.off+s.len*z+new.length) (h.jY g')
              used := λj => cond (Nat.beq j h.next) true (h.used j) }) \/
      (s.cap = 0 /\ (g ≠ 0 /\ e' = e) /\ x = ⟨some ⟨h.next, 0, none⟩, s.len+n, 0⟩ /\ h.jY g ≠ base+a.off+s.len*z /\ h1 = { h with
              get := λj => cond (Nat.beq j h.next) (some (.cells (j7 ++ new) g (base+a.off) e)) (match h.get j with
                |some (.cells c' g' base' elem') => cond (Nat.beq g' g&&Nat.blt (base+a.off+s.len*z) (base'+c'.length)) none (some (.cells c' g' base' elem'))
                |o => o)
              next := h.next+1
              jY := λg' => cond (Nat.beq g' g) (base+a.off+s.len*z+new.length) (h.jY g')
              used := λj => cond (Nat.beq j h.next) true (h.used j) })) := λh x h1 hx =>by
    unfold Ago.kF at hx;rw[By hn, By (by simp[hb]), ha] at hx;simp only at hx;split at hx
    · rename_i j7 c g base e' ho hg
      refine⟨j7, c, g, base, e', ho, hg, ?_⟩;split at hx
      · rename_i h3
        split at hx
        · rename_i h4; cases hx; exact .inl ⟨h3, ⟨h4.1, h4.2.1⟩, rfl, rfl⟩
        · cases hx
      · rename_i h3
        split at hx
        · rename_i h4; cases hx; exact .inr (.inl ⟨h3, h4, rfl, rfl⟩)
        · rename_i h4
          have h4 : s.cap = 0 := abG h4;split at hx
          · rename_i h5
            split at hx
            · rename_i h6; cases hx; exact .inr (.inr (.inl ⟨h4, h5, rfl, h6, rfl⟩))
            · rename_i h6
              rw[BY trivial] at hx;cases hx; exact .inr (.inr (.inr ⟨h4, h5, rfl, h6, rfl⟩))
          · cases hx
    · cases hx
  refine⟨λk o u t h x h1 _ hgk O hx => ?_, λh x h1 w hx => ?_⟩
  · obtain⟨j7, c, g, base, e', ho, hg, hc⟩ := key h x h1 hx
    have hgn := O.bG _ _ _ _ _ hg;have hlt := O.lt;have ht : (ins k o u t h).jY g = h.jY g := (by simp only[ins]; rw[By hgn]);have hnx : (ins k o u t h).next = h.next := rfl
    rcases hc with⟨h3, h4, rfl, rfl⟩|⟨h3, h4, rfl, rfl⟩|⟨h4, h5, rfl, h6, rfl⟩|⟨h4, h5, rfl, h6, rfl⟩
    · refine⟨?_, O.mY (O.ne hg) hgn⟩
      unfold Ago.kF;rw[By hn, By (by simp[hb]), ha];simp only[pS O ho, rC O hg];rw[BY h3, BY ⟨h4.1, h4.2, trivial⟩, Mx (O.ne hg) hgn hgk]
    · refine⟨?_, O.bt (by omega) (aaU _)⟩
      unfold Ago.kF;rw[By hn, By (by simp[hb]), ha];simp only[pS O ho, rC O hg];rw[By h3, BY h4];simp only[af.new];rw[<-wX (by omega)]; rfl
    · refine⟨?_, ?_, ?_, aal O.lt, ?_⟩
      · unfold Ago.kF
        rw[By hn, By (by simp[hb]), ha];simp only[pS O ho, rC O hg, ht, hnx];rw[By (by omega), By (by omega), BY h5, BY h6]
        congr 2
        refine oQ rfl (λj => ?_) rfl (λg' => ?_) λj => ?_<;>simp only[ins, ly, aQ]<;>grind
      · simp only[aQ, ly]; rw[By (by omega)]; exact O.get
      · simp only[aQ]; rw[By (by omega)]; exact O.used
      · intro j c2 g2 b2 e2 hj
        simp only[aQ, ly] at hj;split at hj
        · cases hj; exact hgn
        · exact O.bG _ _ _ _ _ hj
    · refine⟨?_, ?_, ?_, aal O.lt, ?_⟩
      · unfold Ago.kF
        rw[By hn, By (by simp[hb]), ha];simp only[pS O ho, rC O hg, ht, hnx];rw[By (by omega), By (by omega), BY h5, By h6, BY trivial]
        congr 2
        refine oQ rfl (λj => ?_) rfl (λg' => ?_) λj => ?_
        · simp only[ins, aQ]
          by_cases hj : j = k
          · subst hj
            rw[By (by omega), BY rfl, BY rfl];cases o with
            |none => rfl
            |some q=>
              cases q with
              |cells c' g' b' e'=>
                have := hgk _ _ _ _ rfl;simp only;rw[bZ (show g' ≠ g by omega), aco]; rfl
              |_ => rfl
          · rw[By hj, By hj]; rfl
        · simp only[ins, aQ]; grind
        · simp only[ins, aQ]; grind
      · simp only[aQ]; rw[By (by omega), O.get]
      · simp only[aQ]; rw[By (by omega)]; exact O.used
      · intro j c2 g2 b2 e2 hj
        simp only[aQ] at hj;split at hj
        · cases hj; exact hgn
        · split at hj
          · rename_i c3 g3 b3 e3 hq
            cases hw : (Nat.beq g3 g&&Nat.blt (base+a.off+s.len*z) (b3+c3.length)) with
            |true => rw[hw] at hj; cases hj
            |false => rw[hw] at hj; cases hj; exact O.bG _ _ _ _ _ hq
          · exact O.bG _ _ _ _ _ hj
  · obtain⟨j7, c, g, base, e', ho, hg, hc⟩ := key h x h1 hx
    have hgl := w.bG _ _ _ _ _ hg;rcases hc with⟨h3, h4, rfl, rfl⟩|⟨h3, h4, rfl, rfl⟩|⟨h4, h5, rfl, h6, rfl⟩|⟨h4, h5, rfl, h6, rfl⟩
    · exact⟨w.mY hg, aai _⟩
    · exact⟨w.new, aaU _⟩
    · refine⟨⟨λj hj => ?_, λj hj => ?_, λj c2 g2 b2 e2 hj => ?_, λj hj => w.maps j (cu hj).2⟩, aaU _⟩
      · simp only at hj; simp only[aQ, ly]; rw[By (by omega)]; exact w.get j (by omega)
      · simp only at hj; simp only[aQ]; rw[By (by omega)]; exact w.used j (by omega)
      · simp only[aQ, ly] at hj
        split at hj
        · cases hj; exact abR hgl
        · exact abR (w.bG _ _ _ _ _ hj)
    · refine⟨⟨λj hj => ?_, λj hj => ?_, λj c2 g2 b2 e2 hj => ?_, λj hj => w.maps j (cu hj).2⟩, aaU _⟩
      · simp only at hj; simp only[aQ]; rw[By (by omega), w.get j (by omega)]
      · simp only at hj; simp only[aQ]; rw[By (by omega)]; exact w.used j (by omega)
      · simp only[aQ] at hj
        split at hj
        · cases hj; exact abR hgl
        · split at hj
          · rename_i c3 g3 b3 e3 hq
            cases hw : (Nat.beq g3 g&&Nat.blt (base+a.off+s.len*z) (b3+c3.length)) with
            |true => rw[hw] at hj; cases hj
            |false => rw[hw] at hj; cases hj; exact abR (w.bG _ _ _ _ _ hq)
          · exact abR (w.bG _ _ _ _ _ hj)
theorem Mn.app {s:Sl}{z n:Nat}{e:κ}{new:δ}:Mn b (app false s z e n new):=by
 have:Ago.app false s z e n new=Ago.kF false s z e n new:=funext λh=>by unfold Ago.app;rfl
 rw[this];exact .kF
theorem Mn.late {m:M α}{x:α}{k:Nat}{e:κ}{cs:δ}{qs:List θ}(a:Mn (k+1) m)(O:Ok k h)(hm:Ago.kO qs m h=some (x,h1)) :
  Ago.kO qs (vY k m) (h.bt k h.next e cs)=some (x,h1.bt k h1.next e cs)/\Ok k h1:=by
 have put:∀{h:af},h.bt k h.next e cs=ins k (some (.cells cs (k+1) 0 e)) true cs.length h:=λ{h}=>by
  refine oQ rfl (λj=>?_) rfl (λg=>?_) λj=>?_<;>simp only[af.bt,ins,ly,aQ]
 have G1:Gk k (some (.cells cs (k+1) 0 e)):=λc g b e hx=>by cases hx;rfl
 have c:=(Mn.kO (qs:=qs) a).mn k _ true cs.length h x h1 (aad k) G1 O hm;rw[<-put,<-put] at c;refine⟨?_,c.2⟩;have hm1:m h=some (x,h1)/\True:=by
  unfold Ago.kO at hm;split at hm
  .rename_i y h2 e2;split at hm
   .cases hm;exact⟨e2,trivial⟩
   .cases hm
  .cases hm
 have d:=a.mn k _ true cs.length h x h1 (aad k) G1 O hm1.1;rw[<-put,<-put] at d;have bp:BP k m (h.bt k h.next e cs) x (h1.bt k h1.next e cs):=λh0 t2 cs2 u1 u2 u3 eq=>by
  have e1:h0=ins k none false (h0.jY (k+1)) h:=by
   have q1:∀j,(h.bt k h.next e cs).get j=(h0.bt k h0.next t2 cs2).get j:=λj=>by rw[eq]
   have q2:∀j,(h.bt k h.next e cs).jY j=(h0.bt k h0.next t2 cs2).jY j:=λj=>by rw[eq]
   have q3:∀j,(h.bt k h.next e cs).used j=(h0.bt k h0.next t2 cs2).used j:=λj=>by rw[eq]
   have q4:(h.bt k h.next e cs).next=(h0.bt k h0.next t2 cs2).next:=by rw[eq]
   have q5:(h.bt k h.next e cs).fj=(h0.bt k h0.next t2 cs2).fj:=by rw[eq]
   refine oQ q5.symm (λj=>?_) q4.symm (λg=>?_) λj=>?_
   .simp only[ins];by_cases hj:j=k
    .subst hj;rw[BY rfl];exact u3
    .rw[By hj];have:=q1 j;rw[ei hj,ei hj] at this;exact this.symm
   .simp only[ins];by_cases hg:g=k+1
    .subst hg;rw[BY rfl]
    .rw[By hg];have:=q2 g;rw[qf hg,qf hg] at this;exact this.symm
   .simp only[ins];by_cases hj:j=k
    .subst hj;rw[BY rfl];exact u1
    .rw[By hj];have:=q3 j;simp only[af.bt,aQ] at this;rw[By hj,By hj] at this;exact this.symm
  have ecs:e=t2/\cs=cs2:=by
   have q1:(h.bt k h.next e cs).get k=(h0.bt k h0.next t2 cs2).get k:=by rw[eq]
   rw[fy,fy] at q1;cases q1;exact⟨rfl,rfl⟩
  obtain⟨rfl,rfl⟩:=ecs;have f:=a.mn k none false (h0.jY (k+1)) h x h1 (aad k) (λc g b e hx=>by cases hx) O hm1.1;rw[<-e1] at f;refine⟨_,f.1,?_,f.2.lt,?_,?_⟩
  .simp only[ins];rw[BY trivial]
  .simp only[ins];rw[BY trivial]
  .refine oQ rfl (λj=>?_) rfl (λg=>?_) λj=>?_<;>simp only[af.bt,ins,ly,aQ]<;>grind
 unfold Ago.kO at c⊢;unfold vY;rw[d.1] at c⊢;simp only at c⊢;cases (h.bt k h.next e cs).dec (BP k m (h.bt k h.next e cs) x (h1.bt k h1.next e cs)) with
 |isTrue _=>exact c.1
 |isFalse hn=>exact absurd bp hn
theorem tb {m:M α}{f:α->M β}{y:β}{h2:af}(hx:AI m f h=some (y,h2)):∃x h1,m h=some (x,h1)/\f x h1=some (y,h2):=by
 unfold AI at hx;split at hx
 .exact⟨_,_,by assumption,hx⟩
 .cases hx
theorem tc {m:M α}{f:α->M β}{x:α}{r:Option (β×af)}(h1':m h=some (x,h1))(h2:f x h1=r):AI m f h=r:=by unfold AI;rw[h1'];exact h2
theorem Ok.of (w:WF h){n i:Nat}(hi:i<n):Ok (h.next+i) { h with next:=h.next+n }:=
 ⟨w.get _ (acE _ _),w.used _ (acE _ _),by show h.next+i<h.next+n;omega,λj c g b e hj=>by have:=w.bG j c g b e hj;omega⟩
end
end Go.Ago
set_option maxRecDepth 100000
namespace Go.Sh
open Go Go.Ago
theorem sr:∀(n b:Nat) (a0:Addr) (a1:Addr) (a2:ζ) (a3:Int) (a4:Int),Mn b (eP n a0 a1 a2 a3 a4)
 |0,b,_,_,_,_,_=>Mn.fail
 |n+1,b,a0,a1,a2,a3,a4=>by
  show Mn b (jE (eP n) n a0 a1 a2 a3 a4);unfold jE
  try unfold jD
  repeat' first|exact sr n _ _ _ _ _ _|exact Mn.pure|exact Mn.fail|refine Mn.bind ?_ λ_=>?_|refine Mn.ite ?_ ?_|exact Mn.ar|exact Mn.ao|exact Mn.nO|exact Mn.bE
theorem su:∀(n b:Nat) (a0:Sl),Mn b (eO n a0)
 |0,b,_=>Mn.fail
 |n+1,b,a0=>by
  show Mn b (jC (eO n) n a0);unfold jC
  repeat' first|exact su n _ _|exact Mn.pure|exact Mn.fail|refine Mn.bind ?_ λ_=>?_|refine Mn.ite ?_ ?_|exact Mn.ar|exact Mn.ao|exact Mn.gf
theorem BA (b:Nat)(n:Nat)(a0:Sl):Mn b (oj n a0):=by
 unfold oj
 repeat' first|exact su _ _ _|exact Mn.pure|exact Mn.fail|refine Mn.bind ?_ λ_=>?_|refine Mn.ite ?_ ?_
theorem yO (b:Nat)(n:Nat)(a0:Addr)(a1:Addr)(a2:ζ):Mn b (fR n a0 a1 a2):=by
 unfold fR
 repeat' first|exact sr _ _ _ _ _ _ _|exact BA _ _ _|exact Mn.pure|exact Mn.fail|refine Mn.bind ?_ λ_=>?_|refine Mn.ite ?_ ?_|refine Mn.sum (λ_=>?_) (λ_=>?_) _|exact Mn.ar|exact Mn.bh|exact Mn.bE|exact Mn.pT
theorem yP (b:Nat)(n:Nat)(a0:ζ)(a1:Addr)(a2:Addr)(a3:ζ):Mn b (eQ n a0 a1 a2 a3):=by
 unfold eQ
 repeat' first|exact yO _ _ _ _ _|exact Mn.pure|exact Mn.fail|refine Mn.bind ?_ λ_=>?_|refine Mn.ite ?_ ?_|exact Mn.bh|exact Mn.nO|exact Mn.bE
theorem BB (b:Nat)(n:Nat)(a0:ζ):Mn b (jF n a0):=by
 unfold jF
 repeat' first|exact yP _ _ _ _ _ _|exact Mn.pure|exact Mn.fail|refine Mn.bind ?_ λ_=>?_|refine Mn.ite ?_ ?_|exact Mn.nO|exact Mn.bE|exact Mn.ji|exact Mn.aJ
theorem AJ (b:Nat)(n:Nat)(a0:ζ):Mn b (jR n a0):=by
 unfold jR
 repeat' first|exact BB _ _ _|exact Mn.pure|exact Mn.fail|refine Mn.bind ?_ λ_=>?_|refine Mn.ite ?_ ?_|exact Mn.bE|exact Mn.aJ
theorem vB (b:Nat)(n:Nat)(a0:Int)(a1:ζ):Mn b (kU n a0 a1):=by
 unfold kU
 repeat' first|exact AJ _ _ _|exact Mn.pure|exact Mn.fail|refine Mn.bind ?_ λ_=>?_|refine Mn.ite ?_ ?_
theorem yQ (b:Nat)(n:Nat)(a0:Int)(a1:ζ)(a2:Addr):Mn b (nj n a0 a1 a2):=by
 unfold nj
 repeat' first|exact vB _ _ _ _|exact Mn.pure|exact Mn.fail|refine Mn.bind ?_ λ_=>?_|refine Mn.ite ?_ ?_|exact Mn.bh|exact Mn.bE|exact Mn.aJ
theorem BC (b:Nat)(n:Nat)(a0:Int)(a1:ζ):Mn b (ru n a0 a1):=by
 unfold ru
 repeat' first|exact yQ _ _ _ _ _|exact Mn.pure|exact Mn.fail|refine Mn.bind ?_ λ_=>?_|refine Mn.ite ?_ ?_|exact Mn.bh|exact Mn.bE|exact Mn.aJ
theorem fL (b:Nat)(n:Nat)(a0:Int)(a1:ζ):Mn b (bq n a0 a1):=by
 unfold bq
 repeat' first|exact BC _ _ _ _|exact Mn.pure|exact Mn.fail|refine Mn.bind ?_ λ_=>?_|refine Mn.ite ?_ ?_|exact Mn.bh|exact Mn.bE|exact Mn.aJ
theorem qT:∀(n b:Nat) (a0:Addr) (a1:Bool) (a2:Sl) (a3:Int) (a4:Int) (a5:Sl) (a6:Int) (a7:Int) (a8:Sl) (a9:Int) (a10:Int),Mn b (eV n a0 a1 a2 a3 a4 a5 a6 a7 a8 a9 a10)
 |0,b,_,_,_,_,_,_,_,_,_,_,_=>Mn.fail
 |n+1,b,a0,a1,a2,a3,a4,a5,a6,a7,a8,a9,a10=>by
  show Mn b (iT (eV n) n a0 a1 a2 a3 a4 a5 a6 a7 a8 a9 a10);unfold iT
  repeat' first|exact qT n _ _ _ _ _ _ _ _ _ _ _ _|exact Mn.pure|exact Mn.fail|refine Mn.bind ?_ λ_=>?_|refine Mn.ite ?_ ?_|exact Mn.ar|exact Mn.ao
theorem qU:∀(n b:Nat) (a0:Addr) (a1:Bool) (a2:Sl) (a3:Int) (a4:Int) (a5:Sl) (a6:Int) (a7:Int),Mn b (eW n a0 a1 a2 a3 a4 a5 a6 a7)
 |0,b,_,_,_,_,_,_,_,_=>Mn.fail
 |n+1,b,a0,a1,a2,a3,a4,a5,a6,a7=>by
  show Mn b (eS (eW n) n a0 a1 a2 a3 a4 a5 a6 a7);unfold eS
  repeat' first|exact qU n _ _ _ _ _ _ _ _ _|exact qT _ _ _ _ _ _ _ _ _ _ _ _ _|exact Mn.pure|exact Mn.fail|refine Mn.bind ?_ λ_=>?_|refine Mn.ite ?_ ?_|exact Mn.ar|exact Mn.ao
theorem qV:∀(n b:Nat) (a0:Addr) (a1:Bool) (a2:Sl) (a3:Int) (a4:Int),Mn b (eX n a0 a1 a2 a3 a4)
 |0,b,_,_,_,_,_=>Mn.fail
 |n+1,b,a0,a1,a2,a3,a4=>by
  show Mn b (iU (eX n) n a0 a1 a2 a3 a4);unfold iU
  repeat' first|exact qV n _ _ _ _ _ _|exact qU _ _ _ _ _ _ _ _ _ _|exact Mn.pure|exact Mn.fail|refine Mn.bind ?_ λ_=>?_|refine Mn.ite ?_ ?_|exact Mn.ar|exact Mn.bh|exact Mn.ao|exact Mn.bE|exact Mn.aJ
theorem xH (b:Nat)(n:Nat)(a0:Addr)(a1:Bool):Mn b (gi n a0 a1):=by
 unfold gi
 repeat' first|exact qV _ _ _ _ _ _ _|exact Mn.pure|exact Mn.fail|refine Mn.bind ?_ λ_=>?_|refine Mn.ite ?_ ?_|exact Mn.ar
theorem AK (b:Nat)(n:Nat)(a0:Sl×Int):Mn b (lu n a0):=by
 unfold lu
 repeat' first|exact xH _ _ _ _|exact Mn.pure|exact Mn.fail|refine Mn.bind ?_ λ_=>?_|refine Mn.ite ?_ ?_|exact Mn.ar|exact Mn.aJ
theorem px:∀n:Nat,(∀(b:Nat) (a0:Int) (a1:Addr) (a2:Addr) (a3:Sl) (a4:Int) (a5:Int),Mn b ((aK.at n).ej a0 a1 a2 a3 a4 a5)) /\
  (∀(b:Nat) (a0:Addr) (a1:Sl) (a2:Int) (a3:Int),Mn b ((aK.at n).ek a0 a1 a2 a3)) /\
  (∀(b:Nat) (a0:Int) (a1:Addr) (a2:Addr) (a3:Addr),Mn b ((aK.at n).dQ a0 a1 a2 a3))
 |0=>⟨λ_ _ _ _ _ _ _=>Mn.fail,λ_ _ _ _ _=>Mn.fail,λ_ _ _ _ _=>Mn.fail⟩
 |n+1=>
  have H:=px n
  ⟨λb a0 a1 a2 a3 a4 a5=>by
   show Mn b (gE (aK.at n) n a0 a1 a2 a3 a4 a5);unfold gE
   try unfold di
   repeat' first|exact H.1 _ _ _ _ _ _ _|exact H.2.1 _ _ _ _ _|exact H.2.2 _ _ _ _ _|exact Mn.pure|exact Mn.fail|refine Mn.bind ?_ λ_=>?_|refine Mn.ite ?_ ?_|exact Mn.ar|exact Mn.ao|exact Mn.nr,
  λb a0 a1 a2 a3=>by
   show Mn b (gF (aK.at n) n a0 a1 a2 a3);unfold gF
   try unfold jc di
   try unfold di
   repeat' first|exact H.1 _ _ _ _ _ _ _|exact H.2.1 _ _ _ _ _|exact H.2.2 _ _ _ _ _|exact Mn.pure|exact Mn.fail|refine Mn.bind ?_ λ_=>?_|refine Mn.ite ?_ ?_|exact Mn.ar|exact Mn.ao|exact Mn.nr,
  λb a0 a1 a2 a3=>by
   show Mn b (jB (aK.at n) n a0 a1 a2 a3);unfold jB
   repeat' first|exact H.1 _ _ _ _ _ _ _|exact H.2.1 _ _ _ _ _|exact H.2.2 _ _ _ _ _|exact Mn.pure|exact Mn.fail|refine Mn.bind ?_ λ_=>?_|refine Mn.ite ?_ ?_|exact Mn.ar|exact Mn.ao|exact Mn.bE⟩
theorem xI (b:Nat)(n:Nat)(x:ξ)(a0:Int):Mn b (j8 n x a0):=by
 unfold j8
 repeat' first|exact (px _).2.2 _ _ _ _ _|exact Mn.pure|exact Mn.fail|refine Mn.bind ?_ λ_=>?_|refine Mn.ite ?_ ?_|exact Mn.nr
theorem uB (b:Nat)(n:Nat)(a0:Sl×Int)(a1:Int)(a2:Sl):Mn b (jQ n a0 a1 a2):=by
 unfold jQ
 repeat' first|exact xI _ _ _ _|exact Mn.pure|exact Mn.fail|refine Mn.bind ?_ λ_=>?_|refine Mn.ite ?_ ?_|exact Mn.ar|exact Mn.bE|exact Mn.aJ
theorem uC:∀(n b:Nat) (a0:ζ) (a1:Int) (a2:Int),Mn b (mJ n a0 a1 a2)
 |0,b,_,_,_=>Mn.fail
 |n+1,b,a0,a1,a2=>by
  show Mn b (qw (mJ n) n a0 a1 a2);unfold qw
  repeat' first|exact uC n _ _ _ _|exact Mn.pure|exact Mn.fail|refine Mn.bind ?_ λ_=>?_|refine Mn.ite ?_ ?_|exact Mn.nO
theorem D6 (b:Nat)(n:Nat)(a0:ζ):Mn b (u9 n a0):=by
 unfold u9
 repeat' first|exact uC _ _ _ _ _|exact Mn.pure|exact Mn.fail|refine Mn.bind ?_ λ_=>?_|refine Mn.ite ?_ ?_|refine Mn.sum (λ_=>?_) (λ_=>?_) _
theorem D7 (b:Nat)(n:Nat)(a0:Int×ζ×Bool×Sl×Sl):Mn b (pG n a0):=by
 unfold pG
 repeat' first|exact D6 _ _ _|exact vB _ _ _ _|exact Mn.pure|exact Mn.fail|refine Mn.bind ?_ λ_=>?_|refine Mn.ite ?_ ?_|exact Mn.ar|exact Mn.aJ
theorem td:∀(n b:Nat) (a0:Addr) (a1:Sl) (a2:Sl) (a3:Int) (a4:Int),Mn b (gP n a0 a1 a2 a3 a4)
 |0,b,_,_,_,_,_=>Mn.fail
 |n+1,b,a0,a1,a2,a3,a4=>by
  show Mn b (kr (gP n) n a0 a1 a2 a3 a4);unfold kr
  repeat' first|exact td n _ _ _ _ _ _|exact D7 _ _ _|exact Mn.pure|exact Mn.fail|refine Mn.bind ?_ λ_=>?_|refine Mn.ite ?_ ?_|exact Mn.ar|exact Mn.bh|exact Mn.ao|exact Mn.bE|exact Mn.aJ
theorem sv:∀(n b:Nat) (a0:Sl) (a1:Addr) (a2:Sl) (a3:Int) (a4:Int) (a5:Sl) (a6:Int) (a7:Int),Mn b (fS n a0 a1 a2 a3 a4 a5 a6 a7)
 |0,b,_,_,_,_,_,_,_,_=>Mn.fail
 |n+1,b,a0,a1,a2,a3,a4,a5,a6,a7=>by
  show Mn b (jG (fS n) n a0 a1 a2 a3 a4 a5 a6 a7);unfold jG
  repeat' first|exact sv n _ _ _ _ _ _ _ _ _|exact Mn.pure|exact Mn.fail|refine Mn.bind ?_ λ_=>?_|refine Mn.ite ?_ ?_|exact Mn.ar|exact Mn.ao|exact Mn.bE
theorem sw:∀(n b:Nat) (a0:Sl) (a1:Sl) (a2:Int) (a3:Int) (a4:Sl) (a5:Int) (a6:Int),Mn b (fT n a0 a1 a2 a3 a4 a5 a6)
 |0,b,_,_,_,_,_,_,_=>Mn.fail
 |n+1,b,a0,a1,a2,a3,a4,a5,a6=>by
  show Mn b (jH (fT n) n a0 a1 a2 a3 a4 a5 a6);unfold jH
  repeat' first|exact sw n _ _ _ _ _ _ _ _|exact Mn.pure|exact Mn.fail|refine Mn.bind ?_ λ_=>?_|refine Mn.ite ?_ ?_|exact Mn.ar|exact Mn.ao|exact Mn.bE
theorem sx:∀(n b:Nat) (a0:Sl) (a1:Sl) (a2:Int) (a3:Int),Mn b (fU n a0 a1 a2 a3)
 |0,b,_,_,_,_=>Mn.fail
 |n+1,b,a0,a1,a2,a3=>by
  show Mn b (jI (fU n) n a0 a1 a2 a3);unfold jI
  repeat' first|exact sx n _ _ _ _ _|exact sv _ _ _ _ _ _ _ _ _ _|exact sw _ _ _ _ _ _ _ _ _|exact Mn.pure|exact Mn.fail|refine Mn.bind ?_ λ_=>?_|refine Mn.ite ?_ ?_|exact Mn.ar|exact Mn.bh|exact Mn.ao|exact Mn.bE|exact Mn.aJ
theorem vC (b:Nat)(n:Nat)(a0:Sl×Int):Mn b (kV n a0):=by
 unfold kV
 repeat' first|exact sx _ _ _ _ _ _|exact Mn.pure|exact Mn.fail|refine Mn.bind ?_ λ_=>?_|refine Mn.ite ?_ ?_|exact Mn.ar|exact Mn.ao|exact Mn.bE|exact Mn.aJ|exact Mn.pT
theorem sy:∀(n b:Nat) (a0:Addr) (a1:Sl) (a2:Sl) (a3:Int) (a4:Int) (a5:Sl) (a6:Int) (a7:Int),Mn b (fV n a0 a1 a2 a3 a4 a5 a6 a7)
 |0,b,_,_,_,_,_,_,_,_=>Mn.fail
 |n+1,b,a0,a1,a2,a3,a4,a5,a6,a7=>by
  show Mn b (jJ (fV n) n a0 a1 a2 a3 a4 a5 a6 a7);unfold jJ
  repeat' first|exact sy n _ _ _ _ _ _ _ _ _|exact uB _ _ _ _ _|exact Mn.pure|exact Mn.fail|refine Mn.bind ?_ λ_=>?_|refine Mn.ite ?_ ?_|exact Mn.ar|exact Mn.bh|exact Mn.ao
theorem sA:∀(n b:Nat) (a0:Addr) (a1:Sl) (a2:Sl) (a3:Int) (a4:Int),Mn b (fW n a0 a1 a2 a3 a4)
 |0,b,_,_,_,_,_=>Mn.fail
 |n+1,b,a0,a1,a2,a3,a4=>by
  show Mn b (jK (fW n) n a0 a1 a2 a3 a4);unfold jK
  repeat' first|exact sA n _ _ _ _ _ _|exact sy _ _ _ _ _ _ _ _ _ _|exact Mn.pure|exact Mn.fail|refine Mn.bind ?_ λ_=>?_|refine Mn.ite ?_ ?_|exact Mn.ar|exact Mn.bh|exact Mn.ao|exact Mn.bE|exact Mn.aJ
theorem BE (b:Nat)(n:Nat)(a0:Sl×Int):Mn b (l7 n a0):=by
 unfold l7
 repeat' first|exact sA _ _ _ _ _ _ _|exact Mn.pure|exact Mn.fail|refine Mn.bind ?_ λ_=>?_|refine Mn.ite ?_ ?_|exact Mn.ar|exact Mn.aJ|exact Mn.pT
theorem tf:∀(n b:Nat) (a0:Addr) (a1:Sl) (a2:Sl) (a3:Int) (a4:Int),Mn b (gO n a0 a1 a2 a3 a4)
 |0,b,_,_,_,_,_=>Mn.fail
 |n+1,b,a0,a1,a2,a3,a4=>by
  show Mn b (kq (gO n) n a0 a1 a2 a3 a4);unfold kq
  repeat' first|exact tf n _ _ _ _ _ _|exact Mn.pure|exact Mn.fail|refine Mn.bind ?_ λ_=>?_|refine Mn.ite ?_ ?_|exact Mn.ar|exact Mn.ao
theorem uD:∀n:Nat,(∀(b:Nat) (a0:Addr) (a1:Addr) (a2:Addr) (a3:Int) (a4:Int) (a5:Bool) (a6:Sl) (a7:Int) (a8:Int) (a9:Sl) (a10:Int) (a11:Int),Mn b ((aX.at n).fA a0 a1 a2 a3 a4 a5 a6 a7 a8 a9 a10 a11)) /\
  (∀(b:Nat) (a0:Addr) (a1:Addr) (a2:Addr) (a3:Sl) (a4:Int) (a5:Int),Mn b ((aX.at n).iL a0 a1 a2 a3 a4 a5)) /\
  (∀(b:Nat) (a0:Addr) (a1:Addr) (a2:Addr) (a3:Int) (a4:Int),Mn b ((aX.at n).eM a0 a1 a2 a3 a4)) /\
  (∀(b:Nat) (a0:Sl×Int) (a1:Int) (a2:Int),Mn b ((aX.at n).gj a0 a1 a2))
 |0=>⟨λ_ _ _ _ _ _ _ _ _ _ _ _ _=>Mn.fail,λ_ _ _ _ _ _ _=>Mn.fail,λ_ _ _ _ _ _=>Mn.fail,λ_ _ _ _=>Mn.fail⟩
 |n+1=>
  have H:=uD n
  ⟨λb a0 a1 a2 a3 a4 a5 a6 a7 a8 a9 a10 a11=>by
   show Mn b (k9 (aX.at n) n a0 a1 a2 a3 a4 a5 a6 a7 a8 a9 a10 a11);unfold k9
   repeat' first|exact H.1 _ _ _ _ _ _ _ _ _ _ _ _ _|exact H.2.1 _ _ _ _ _ _ _|exact H.2.2.1 _ _ _ _ _ _|exact H.2.2.2 _ _ _ _|exact Mn.pure|exact Mn.fail|refine Mn.bind ?_ λ_=>?_|refine Mn.ite ?_ ?_|exact Mn.ar|exact Mn.bh|exact Mn.ao,
  λb a0 a1 a2 a3 a4 a5=>by
   show Mn b (la (aX.at n) n a0 a1 a2 a3 a4 a5);unfold la
   repeat' first|exact H.1 _ _ _ _ _ _ _ _ _ _ _ _ _|exact H.2.1 _ _ _ _ _ _ _|exact H.2.2.1 _ _ _ _ _ _|exact H.2.2.2 _ _ _ _|exact Mn.pure|exact Mn.fail|refine Mn.bind ?_ λ_=>?_|refine Mn.ite ?_ ?_|exact Mn.ar|exact Mn.ao,
  λb a0 a1 a2 a3 a4=>by
   show Mn b (lg (aX.at n) n a0 a1 a2 a3 a4);unfold lg
   repeat' first|exact H.1 _ _ _ _ _ _ _ _ _ _ _ _ _|exact H.2.1 _ _ _ _ _ _ _|exact H.2.2.1 _ _ _ _ _ _|exact H.2.2.2 _ _ _ _|exact Mn.pure|exact Mn.fail|refine Mn.bind ?_ λ_=>?_|refine Mn.ite ?_ ?_|exact Mn.ar|exact Mn.bh|exact Mn.ao,
  λb a0 a1 a2=>by
   show Mn b (om (aX.at n) n a0 a1 a2);unfold om
   try unfold ni
   repeat' first|exact H.1 _ _ _ _ _ _ _ _ _ _ _ _ _|exact H.2.1 _ _ _ _ _ _ _|exact H.2.2.1 _ _ _ _ _ _|exact H.2.2.2 _ _ _ _|exact Mn.pure|exact Mn.fail|refine Mn.res λ_=>?_|refine Mn.bind ?_ λ_=>?_|refine Mn.ite ?_ ?_|refine Mn.sum (λ_=>?_) (λ_=>?_) _|exact Mn.ar|exact Mn.bh|exact Mn.ao|exact Mn.bE|exact Mn.aJ|exact Mn.Jr|refine Mn.kO ?_⟩
theorem tg:∀(n b:Nat) (a0:Addr) (a1:μ) (a2:Int) (a3:Addr) (a4:Sl) (a5:Int) (a6:Int) (a7:Sl) (a8:Int) (a9:Int) (a10:Sl) (a11:Int) (a12:Int),Mn b (gG n a0 a1 a2 a3 a4 a5 a6 a7 a8 a9 a10 a11 a12)
 |0,b,_,_,_,_,_,_,_,_,_,_,_,_,_=>Mn.fail
 |n+1,b,a0,a1,a2,a3,a4,a5,a6,a7,a8,a9,a10,a11,a12=>by
  show Mn b (j9 (gG n) n a0 a1 a2 a3 a4 a5 a6 a7 a8 a9 a10 a11 a12);unfold j9
  repeat' first|exact tg n _ _ _ _ _ _ _ _ _ _ _ _ _ _|exact (uD _).2.2.2 _ _ _ _|exact Mn.pure|exact Mn.fail|refine Mn.bind ?_ λ_=>?_|refine Mn.ite ?_ ?_|exact Mn.ar|exact Mn.bh|exact Mn.ao
theorem th:∀(n b:Nat) (a0:Addr) (a1:μ) (a2:Sl) (a3:Int) (a4:Int) (a5:Sl) (a6:Int) (a7:Int),Mn b (fD n a0 a1 a2 a3 a4 a5 a6 a7)
 |0,b,_,_,_,_,_,_,_,_=>Mn.fail
 |n+1,b,a0,a1,a2,a3,a4,a5,a6,a7=>by
  show Mn b (kc (fD n) n a0 a1 a2 a3 a4 a5 a6 a7);unfold kc
  repeat' first|exact th n _ _ _ _ _ _ _ _ _|exact tg _ _ _ _ _ _ _ _ _ _ _ _ _ _ _|exact Mn.pure|exact Mn.fail|refine Mn.res λ_=>?_|refine Mn.bind ?_ λ_=>?_|refine Mn.ite ?_ ?_|refine Mn.sum (λ_=>?_) (λ_=>?_) _|exact Mn.ar|exact Mn.bh|exact Mn.ao|exact Mn.bE|exact Mn.app|exact Mn.rN|exact Mn.lT|exact Mn.nW|exact Mn.Jr
theorem tj:∀(n b:Nat) (a0:Addr) (a1:Sl) (a2:Int) (a3:Int),Mn b (fE n a0 a1 a2 a3)
 |0,b,_,_,_,_=>Mn.fail
 |n+1,b,a0,a1,a2,a3=>by
  show Mn b (ke (fE n) n a0 a1 a2 a3);unfold ke
  repeat' first|exact tj n _ _ _ _ _|exact th _ _ _ _ _ _ _ _ _ _|exact Mn.pure|exact Mn.fail|refine Mn.bind ?_ λ_=>?_|refine Mn.ite ?_ ?_|refine Mn.sum (λ_=>?_) (λ_=>?_) _|exact Mn.ar|exact Mn.bh|exact Mn.ao|exact Mn.bE|exact Mn.vx|exact Mn.aJ
theorem DA (b:Nat)(n:Nat)(a0:Sl×Int):Mn b (nL n a0):=by
 unfold nL
 repeat' first|exact tj _ _ _ _ _ _|exact Mn.pure|exact Mn.fail|refine Mn.bind ?_ λ_=>?_|refine Mn.ite ?_ ?_|refine Mn.sum (λ_=>?_) (λ_=>?_) _|exact Mn.ar|exact Mn.aJ
theorem oR:∀(n b:Nat) (a0:Addr) (a1:Int) (a2:Addr) (a3:Addr) (a4:Addr) (a5:Int) (a6:Int),Mn b (dY n a0 a1 a2 a3 a4 a5 a6)
 |0,b,_,_,_,_,_,_,_=>Mn.fail
 |n+1,b,a0,a1,a2,a3,a4,a5,a6=>by
  show Mn b (gb (dY n) n a0 a1 a2 a3 a4 a5 a6);unfold gb
  repeat' first|exact oR n _ _ _ _ _ _ _ _|exact Mn.pure|exact Mn.fail|refine Mn.bind ?_ λ_=>?_|refine Mn.ite ?_ ?_|exact Mn.ar|exact Mn.ao|exact Mn.bE
theorem mX:∀n:Nat,(∀(b:Nat) (a0:Addr) (a1:Addr) (a2:Addr) (a3:Addr) (a4:Addr) (a5:Int),Mn b ((al.at n).dj a0 a1 a2 a3 a4 a5)) /\
  (∀(b:Nat) (a0:Addr) (a1:Addr) (a2:Addr) (a3:Addr) (a4:Addr) (a5:Addr) (a6:Addr) (a7:ξ) (a8:Sl) (a9:Int) (a10:Int),Mn b ((al.at n).dk a0 a1 a2 a3 a4 a5 a6 a7 a8 a9 a10)) /\
  (∀(b:Nat) (a0:Addr) (a1:Addr) (a2:Addr) (a3:Addr) (a4:Addr) (a5:Addr) (a6:Addr) (a7:Addr) (a8:ξ) (a9:Sl) (a10:Int) (a11:Int),Mn b ((al.at n).dm a0 a1 a2 a3 a4 a5 a6 a7 a8 a9 a10 a11)) /\
  (∀(b:Nat) (a0:Int) (a1:Addr) (a2:Addr) (a3:Addr) (a4:Addr) (a5:Addr) (a6:Addr) (a7:Addr) (a8:Addr) (a9:Addr),Mn b ((al.at n).cW a0 a1 a2 a3 a4 a5 a6 a7 a8 a9)) /\
  (∀(b:Nat) (a0:Int) (a1:Addr) (a2:Addr) (a3:Addr) (a4:Addr) (a5:Addr),Mn b ((al.at n).cR a0 a1 a2 a3 a4 a5))
 |0=>⟨λ_ _ _ _ _ _ _=>Mn.fail,λ_ _ _ _ _ _ _ _ _ _ _ _=>Mn.fail,λ_ _ _ _ _ _ _ _ _ _ _ _ _=>Mn.fail,λ_ _ _ _ _ _ _ _ _ _ _=>Mn.fail,λ_ _ _ _ _ _ _=>Mn.fail⟩
 |n+1=>
  have H:=mX n
  ⟨λb a0 a1 a2 a3 a4 a5=>by
   show Mn b (eY (al.at n) n a0 a1 a2 a3 a4 a5);unfold eY
   repeat' first|exact H.1 _ _ _ _ _ _ _|exact H.2.1 _ _ _ _ _ _ _ _ _ _ _ _|exact H.2.2.1 _ _ _ _ _ _ _ _ _ _ _ _ _|exact H.2.2.2.1 _ _ _ _ _ _ _ _ _ _ _|exact H.2.2.2.2 _ _ _ _ _ _ _|exact Mn.pure|exact Mn.fail|refine Mn.bind ?_ λ_=>?_|refine Mn.ite ?_ ?_|exact Mn.ar|exact Mn.ao|exact Mn.bE|exact Mn.gf,
  λb a0 a1 a2 a3 a4 a5 a6 a7 a8 a9 a10=>by
   show Mn b (eZ (al.at n) n a0 a1 a2 a3 a4 a5 a6 a7 a8 a9 a10);unfold eZ
   try unfold gq cx
   try unfold cx
   repeat' first|exact H.1 _ _ _ _ _ _ _|exact H.2.1 _ _ _ _ _ _ _ _ _ _ _ _|exact H.2.2.1 _ _ _ _ _ _ _ _ _ _ _ _ _|exact H.2.2.2.1 _ _ _ _ _ _ _ _ _ _ _|exact H.2.2.2.2 _ _ _ _ _ _ _|exact Mn.pure|exact Mn.fail|refine Mn.bind ?_ λ_=>?_|refine Mn.ite ?_ ?_|exact Mn.ar|exact Mn.ao|exact Mn.nr,
  λb a0 a1 a2 a3 a4 a5 a6 a7 a8 a9 a10 a11=>by
   show Mn b (fb (al.at n) n a0 a1 a2 a3 a4 a5 a6 a7 a8 a9 a10 a11);unfold fb
   try unfold cx
   repeat' first|exact H.1 _ _ _ _ _ _ _|exact H.2.1 _ _ _ _ _ _ _ _ _ _ _ _|exact H.2.2.1 _ _ _ _ _ _ _ _ _ _ _ _ _|exact H.2.2.2.1 _ _ _ _ _ _ _ _ _ _ _|exact H.2.2.2.2 _ _ _ _ _ _ _|exact Mn.pure|exact Mn.fail|refine Mn.bind ?_ λ_=>?_|refine Mn.ite ?_ ?_|exact Mn.ar|exact Mn.ao|exact Mn.nr,
  λb a0 a1 a2 a3 a4 a5 a6 a7 a8 a9=>by
   show Mn b (gH (al.at n) n a0 a1 a2 a3 a4 a5 a6 a7 a8 a9);unfold gH
   repeat' first|exact H.1 _ _ _ _ _ _ _|exact H.2.1 _ _ _ _ _ _ _ _ _ _ _ _|exact H.2.2.1 _ _ _ _ _ _ _ _ _ _ _ _ _|exact H.2.2.2.1 _ _ _ _ _ _ _ _ _ _ _|exact H.2.2.2.2 _ _ _ _ _ _ _|exact Mn.pure|exact Mn.fail|refine Mn.bind ?_ λ_=>?_|refine Mn.ite ?_ ?_|exact Mn.ar|exact Mn.ao|exact Mn.bE|exact Mn.app|exact Mn.aJ|refine Mn.kO ?_,
  λb a0 a1 a2 a3 a4 a5=>by
   show Mn b (fG (al.at n) n a0 a1 a2 a3 a4 a5);unfold fG
   try unfold fF
   repeat' first|exact H.1 _ _ _ _ _ _ _|exact H.2.1 _ _ _ _ _ _ _ _ _ _ _ _|exact H.2.2.1 _ _ _ _ _ _ _ _ _ _ _ _ _|exact H.2.2.2.1 _ _ _ _ _ _ _ _ _ _ _|exact H.2.2.2.2 _ _ _ _ _ _ _|exact Mn.pure|exact Mn.fail|refine Mn.bind ?_ λ_=>?_|refine Mn.ite ?_ ?_|exact Mn.ar|exact Mn.ao|exact Mn.bE|exact Mn.nr⟩
theorem uE (b:Nat)(n:Nat)(x:ξ)(a0:Int):Mn b (gI n x a0):=by
 unfold gI
 repeat' first|exact (mX _).2.2.2.1 _ _ _ _ _ _ _ _ _ _ _|exact Mn.pure|exact Mn.fail|refine Mn.bind ?_ λ_=>?_|refine Mn.ite ?_ ?_|exact Mn.nr
theorem xJ (b:Nat)(n:Nat)(a0:Sl×Int):Mn b (iM n a0):=by
 unfold iM
 repeat' first|exact oR _ _ _ _ _ _ _ _ _|exact uE _ _ _ _|exact Mn.pure|exact Mn.fail|refine Mn.res λ_=>?_|refine Mn.bind ?_ λ_=>?_|refine Mn.ite ?_ ?_|exact Mn.ar|exact Mn.bE|exact Mn.aJ|exact Mn.Jr|exact Mn.pT|exact Mn.ZP|refine Mn.kO ?_|refine Mn.wb ?_
theorem tn:∀(n b:Nat) (a0:Addr) (a1:Sl) (a2:Sl) (a3:Bool) (a4:Sl) (a5:Sl) (a6:Sl) (a7:Int) (a8:Int),Mn b (gN n a0 a1 a2 a3 a4 a5 a6 a7 a8)
 |0,b,_,_,_,_,_,_,_,_,_=>Mn.fail
 |n+1,b,a0,a1,a2,a3,a4,a5,a6,a7,a8=>by
  show Mn b (kp (gN n) n a0 a1 a2 a3 a4 a5 a6 a7 a8);unfold kp
  repeat' first|exact tn n _ _ _ _ _ _ _ _ _ _|exact Mn.pure|exact Mn.fail|refine Mn.bind ?_ λ_=>?_|refine Mn.ite ?_ ?_|exact Mn.ar|exact Mn.ao|exact Mn.bE|exact Mn.app
theorem tq:∀(n b:Nat) (a0:Addr) (a1:Sl) (a2:Sl) (a3:Bool) (a4:Sl) (a5:Sl) (a6:Int) (a7:Int) (a8:Int) (a9:Sl) (a10:Int) (a11:Int) (a12:Sl) (a13:Int) (a14:Int) (a15:Sl) (a16:Int) (a17:Int),Mn b (gJ n a0 a1 a2 a3 a4 a5 a6 a7 a8 a9 a10 a11 a12 a13 a14 a15 a16 a17)
 |0,b,_,_,_,_,_,_,_,_,_,_,_,_,_,_,_,_,_,_=>Mn.fail
 |n+1,b,a0,a1,a2,a3,a4,a5,a6,a7,a8,a9,a10,a11,a12,a13,a14,a15,a16,a17=>by
  show Mn b (ki (gJ n) n a0 a1 a2 a3 a4 a5 a6 a7 a8 a9 a10 a11 a12 a13 a14 a15 a16 a17);unfold ki
  repeat' first|exact tq n _ _ _ _ _ _ _ _ _ _ _ _ _ _ _ _ _ _ _|exact Mn.pure|exact Mn.fail|refine Mn.bind ?_ λ_=>?_|refine Mn.ite ?_ ?_|exact Mn.ar|exact Mn.ao|exact Mn.bE
theorem tu:∀(n b:Nat) (a0:Addr) (a1:Sl) (a2:Sl) (a3:Bool) (a4:Sl) (a5:Sl) (a6:Int) (a7:Int) (a8:Int) (a9:Sl) (a10:Int) (a11:Int) (a12:Sl) (a13:Int) (a14:Int),Mn b (gK n a0 a1 a2 a3 a4 a5 a6 a7 a8 a9 a10 a11 a12 a13 a14)
 |0,b,_,_,_,_,_,_,_,_,_,_,_,_,_,_,_=>Mn.fail
 |n+1,b,a0,a1,a2,a3,a4,a5,a6,a7,a8,a9,a10,a11,a12,a13,a14=>by
  show Mn b (gk (gK n) n a0 a1 a2 a3 a4 a5 a6 a7 a8 a9 a10 a11 a12 a13 a14);unfold gk
  repeat' first|exact tu n _ _ _ _ _ _ _ _ _ _ _ _ _ _ _ _|exact tq _ _ _ _ _ _ _ _ _ _ _ _ _ _ _ _ _ _ _ _|exact Mn.pure|exact Mn.fail|refine Mn.bind ?_ λ_=>?_|refine Mn.ite ?_ ?_|exact Mn.ar|exact Mn.ao
theorem tw:∀(n b:Nat) (a0:Addr) (a1:Sl) (a2:Sl) (a3:Bool) (a4:Sl) (a5:Sl) (a6:Int) (a7:Int) (a8:Int) (a9:Sl) (a10:Int) (a11:Int),Mn b (gL n a0 a1 a2 a3 a4 a5 a6 a7 a8 a9 a10 a11)
 |0,b,_,_,_,_,_,_,_,_,_,_,_,_=>Mn.fail
 |n+1,b,a0,a1,a2,a3,a4,a5,a6,a7,a8,a9,a10,a11=>by
  show Mn b (kj (gL n) n a0 a1 a2 a3 a4 a5 a6 a7 a8 a9 a10 a11);unfold kj
  repeat' first|exact tw n _ _ _ _ _ _ _ _ _ _ _ _ _|exact tu _ _ _ _ _ _ _ _ _ _ _ _ _ _ _ _ _|exact Mn.pure|exact Mn.fail|refine Mn.res λ_=>?_|refine Mn.bind ?_ λ_=>?_|refine Mn.ite ?_ ?_|exact Mn.ar|exact Mn.ao|exact Mn.Jr
theorem tA:∀(n b:Nat) (a0:Addr) (a1:Sl) (a2:Sl) (a3:Bool) (a4:Sl) (a5:Sl) (a6:Int) (a7:Int),Mn b (gM n a0 a1 a2 a3 a4 a5 a6 a7)
 |0,b,_,_,_,_,_,_,_,_=>Mn.fail
 |n+1,b,a0,a1,a2,a3,a4,a5,a6,a7=>by
  show Mn b (ko (gM n) n a0 a1 a2 a3 a4 a5 a6 a7);unfold ko
  repeat' first|exact tA n _ _ _ _ _ _ _ _ _|exact tw _ _ _ _ _ _ _ _ _ _ _ _ _ _|exact Mn.pure|exact Mn.fail|refine Mn.bind ?_ λ_=>?_|refine Mn.ite ?_ ?_|exact Mn.ar|exact Mn.ao|exact Mn.bE
theorem DB (b:Nat)(n:Nat)(a0:Sl×Int):Mn b (lN n a0):=by
 unfold lN
 repeat' first|exact xJ _ _ _|exact tn _ _ _ _ _ _ _ _ _ _ _|exact tA _ _ _ _ _ _ _ _ _ _|exact Mn.pure|exact Mn.fail|refine Mn.bind ?_ λ_=>?_|refine Mn.ite ?_ ?_|exact Mn.ar|exact Mn.bh|exact Mn.ao|exact Mn.aJ|exact Mn.pT
theorem zK (b:Nat)(n:Nat)(a0:Addr):Mn b (lO n a0):=by
 unfold lO
 repeat' first|exact uB _ _ _ _ _|exact td _ _ _ _ _ _ _|exact vC _ _ _|exact BE _ _ _|exact tf _ _ _ _ _ _ _|exact DA _ _ _|exact DB _ _ _|exact Mn.pure|exact Mn.fail|refine Mn.bind ?_ λ_=>?_|refine Mn.ite ?_ ?_|refine Mn.sum (λ_=>?_) (λ_=>?_) _|exact Mn.ar|exact Mn.bh|exact Mn.pT
theorem sB (b:Nat)(n:Nat)(a0:Sl×Int):Mn b (dD n a0):=by
 unfold dD
 repeat' first|exact AK _ _ _|exact zK _ _ _|exact Mn.pure|exact Mn.fail|refine Mn.bind ?_ λ_=>?_|refine Mn.ite ?_ ?_|exact Mn.ar|exact Mn.bh|exact Mn.aJ
theorem vD:∀(n b:Nat) (a0:Bool) (a1:Sl) (a2:Addr) (a3:Sl) (a4:Int) (a5:Int),Mn b (oO n a0 a1 a2 a3 a4 a5)
 |0,b,_,_,_,_,_,_=>Mn.fail
 |n+1,b,a0,a1,a2,a3,a4,a5=>by
  show Mn b (sf (oO n) n a0 a1 a2 a3 a4 a5);unfold sf
  repeat' first|exact vD n _ _ _ _ _ _ _|exact sB _ _ _|exact Mn.pure|exact Mn.fail|refine Mn.bind ?_ λ_=>?_|refine Mn.ite ?_ ?_|exact Mn.bh|exact Mn.ao|exact Mn.bE|exact Mn.aJ
theorem sC:∀(n b:Nat) (a0:Sl) (a1:Int) (a2:Int),Mn b (lp n a0 a1 a2)
 |0,b,_,_,_=>Mn.fail
 |n+1,b,a0,a1,a2=>by
  show Mn b (oM (lp n) n a0 a1 a2);unfold oM
  repeat' first|exact sC n _ _ _ _|exact Mn.pure|exact Mn.fail|refine Mn.bind ?_ λ_=>?_|refine Mn.ite ?_ ?_|exact Mn.ar|exact Mn.ao
theorem BF (b:Nat)(n:Nat)(a0:Sl×Int):Mn b (ry n a0):=by
 unfold ry
 repeat' first|exact vC _ _ _|exact sC _ _ _ _ _|exact Mn.pure|exact Mn.fail|refine Mn.bind ?_ λ_=>?_|refine Mn.ite ?_ ?_|refine Mn.sum (λ_=>?_) (λ_=>?_) _|exact Mn.bh|exact Mn.aJ
theorem qW:∀(n b:Nat) (a0:Int) (a1:Sl) (a2:Int) (a3:Int),Mn b (kB n a0 a1 a2 a3)
 |0,b,_,_,_,_=>Mn.fail
 |n+1,b,a0,a1,a2,a3=>by
  show Mn b (nC (kB n) n a0 a1 a2 a3);unfold nC
  repeat' first|exact qW n _ _ _ _ _|exact Mn.pure|exact Mn.fail|refine Mn.bind ?_ λ_=>?_|refine Mn.ite ?_ ?_|exact Mn.ar|exact Mn.ao|exact Mn.bE
theorem AL (b:Nat)(n:Nat)(a0:Sl)(a1:Int):Mn b (mR n a0 a1):=by
 unfold mR
 repeat' first|exact qW _ _ _ _ _ _|exact Mn.pure|exact Mn.fail|refine Mn.bind ?_ λ_=>?_|refine Mn.ite ?_ ?_|exact Mn.xL|exact Mn.pT
theorem qp:∀(n b:Nat) (a0:Sl) (a1:Addr) (a2:Int) (a3:Sl) (a4:Int) (a5:Int),Mn b (jP n a0 a1 a2 a3 a4 a5)
 |0,b,_,_,_,_,_,_=>Mn.fail
 |n+1,b,a0,a1,a2,a3,a4,a5=>by
  show Mn b (mC (jP n) n a0 a1 a2 a3 a4 a5);unfold mC
  repeat' first|exact qp n _ _ _ _ _ _ _|exact AL _ _ _ _|exact Mn.pure|exact Mn.fail|refine Mn.bind ?_ λ_=>?_|refine Mn.ite ?_ ?_|exact Mn.ar|exact Mn.bh|exact Mn.ao|exact Mn.bE|exact Mn.app|exact Mn.aJ|refine Mn.kO ?_
theorem tB (b:Nat)(n:Nat)(a0:Sl)(a1:Sl×Int):Mn b (kC n a0 a1):=by
 unfold kC
 repeat' first|exact qp _ _ _ _ _ _ _ _|exact Mn.pure|exact Mn.fail|refine Mn.bind ?_ λ_=>?_|refine Mn.ite ?_ ?_|exact Mn.ar|exact Mn.aJ
theorem vE:∀(n b:Nat) (a0:Addr) (a1:Sl) (a2:Sl) (a3:Int) (a4:Int),Mn b (oN n a0 a1 a2 a3 a4)
 |0,b,_,_,_,_,_=>Mn.fail
 |n+1,b,a0,a1,a2,a3,a4=>by
  show Mn b (se (oN n) n a0 a1 a2 a3 a4);unfold se
  repeat' first|exact vE n _ _ _ _ _ _|exact BF _ _ _|exact tB _ _ _ _|exact Mn.pure|exact Mn.fail|refine Mn.bind ?_ λ_=>?_|refine Mn.ite ?_ ?_|exact Mn.ar|exact Mn.bh|exact Mn.ao|exact Mn.bE|exact Mn.app|exact Mn.aJ
theorem uF (b:Nat)(n:Nat)(a0:Sl×Int):Mn b (mS n a0):=by
 unfold mS
 repeat' first|exact sB _ _ _|exact Mn.pure|exact Mn.fail|refine Mn.bind ?_ λ_=>?_|refine Mn.ite ?_ ?_|exact Mn.bh|exact Mn.bE|exact Mn.aJ
theorem Hg (b:Nat)(n:Nat)(a0:Bool)(a1:Sl):Mn b (uq n a0 a1):=by
 unfold uq
 repeat' first|exact vD _ _ _ _ _ _ _ _|exact vE _ _ _ _ _ _ _|exact uF _ _ _|exact Mn.pure|exact Mn.fail|refine Mn.bind ?_ λ_=>?_|refine Mn.ite ?_ ?_|refine Mn.sum (λ_=>?_) (λ_=>?_) _|exact Mn.bh|exact Mn.bE|exact Mn.aJ
theorem uG:∀(n b:Nat) (a0:Sl) (a1:Addr) (a2:Sl) (a3:Sl) (a4:Int) (a5:Int),Mn b (mU n a0 a1 a2 a3 a4 a5)
 |0,b,_,_,_,_,_,_=>Mn.fail
 |n+1,b,a0,a1,a2,a3,a4,a5=>by
  show Mn b (qK (mU n) n a0 a1 a2 a3 a4 a5);unfold qK
  repeat' first|exact uG n _ _ _ _ _ _ _|exact sB _ _ _|exact Mn.pure|exact Mn.fail|refine Mn.bind ?_ λ_=>?_|refine Mn.ite ?_ ?_|exact Mn.bh|exact Mn.ao|exact Mn.bE|exact Mn.aJ
theorem uH:∀(n b:Nat) (a0:Addr) (a1:Sl) (a2:Sl) (a3:Int) (a4:Int),Mn b (mT n a0 a1 a2 a3 a4)
 |0,b,_,_,_,_,_=>Mn.fail
 |n+1,b,a0,a1,a2,a3,a4=>by
  show Mn b (qJ (mT n) n a0 a1 a2 a3 a4);unfold qJ
  repeat' first|exact uH n _ _ _ _ _ _|exact tB _ _ _ _|exact Mn.pure|exact Mn.fail|refine Mn.bind ?_ λ_=>?_|refine Mn.ite ?_ ?_|exact Mn.ar|exact Mn.bh|exact Mn.ao|exact Mn.bE|exact Mn.app|exact Mn.aJ
theorem D8 (b:Nat)(n:Nat)(a0:Sl):Mn b (sd n a0):=by
 unfold sd
 repeat' first|exact uG _ _ _ _ _ _ _ _|exact uH _ _ _ _ _ _ _|exact uF _ _ _|exact Mn.pure|exact Mn.fail|refine Mn.bind ?_ λ_=>?_|refine Mn.ite ?_ ?_|refine Mn.sum (λ_=>?_) (λ_=>?_) _|exact Mn.bh|exact Mn.bE|exact Mn.aJ
end Go.Sh
