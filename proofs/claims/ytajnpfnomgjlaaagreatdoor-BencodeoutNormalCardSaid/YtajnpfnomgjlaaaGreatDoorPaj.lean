
import Derived.Test.YtajnpfnomgjlaaaGreatDoorAgoZ
import Derived.Test.YtajnpfnomgjlaaaGreatDoorBa
set_option linter.all false
namespace Go.Ago
open Go
variable {α β:Type}
def ins (k:Nat)(o:Option Ev)(u:Bool)(t:Nat)(h:ai):ai:=
 { h with get:=λj=>if j=k then o else h.get j,lN:=λg=>if g=k+1 then t else h.lN g,used:=λj=>if j=k then u else h.used j }
structure Ok (k:Nat) (h:ai):Prop where
 get:h.get k=none
 used:h.used k=false
 lt:k<h.next
 eI:∀j c g b e,h.get j=some (.cells c g b e)->g≠k+1
def Gk (k:Nat)(o:Option Ev):Prop:=∀c g b e,o=some (.cells c g b e)->g=k+1
class Mn (b:Nat) (m:M α):Prop where
 mn:∀k o u t h x h1,k<b->Gk k o->Ok k h->m h=some (x,h1)->m (ins k o u t h)=some (x,ins k o u t h1)/\Ok k h1
 wf:∀h x h1,WF h->m h=some (x,h1)->WF h1/\h.next<=h1.next
theorem oC {a b:ai}(h1:a.gH=b.gH)(h2:∀j,a.get j=b.get j)(h3:a.next=b.next)(h4:∀g,a.lN g=b.lN g)(h5:∀j,a.used j=b.used j):a=b:=by
 cases a;cases b;simp at h1 h2 h3 h4 h5;obtain rfl:=h1;obtain rfl:=funext h2;obtain rfl:=h3;obtain rfl:=funext h4;obtain rfl:=funext h5
 congr 1
 grind
section
variable {k t b:Nat}{o:Option Ev}{u:Bool}{h h1:ai}
theorem vo {j c}(O:Ok k h)(hj:h.get j=some c):(ins k o u t h).get j=some c:=by
 show (if j=k then o else h.get j)=_;rw[AT (λe=>by subst e;rw[O.get] at hj;cases hj)];exact hj
theorem Zs {a v}(O:Ok k h)(hv:h.cell a=some v):(ins k o u t h).cell a=some v:=by
 unfold ai.cell at hv⊢
 grind [vo]
theorem rB {a n v}(O:Ok k h)(hv:aQ h a n=some v):aQ (ins k o u t h) a n=some v:=by
 unfold aQ at hv⊢
 grind [vo]
theorem Mn.ro {m}(r:ai->Option α)(hm:∀h,m h=(r h).map λx=>(x,h))(hr:∀k o u t h x,Ok k h->r h=some x->r (ins k o u t h)=some x):Mn b m:=by
 have e:∀h x h1,m h=some (x,h1)->r h=some x/\h1=h:=λh x h1 hx=>by
  rw[hm] at hx;cases hq:r h with
  |none=>rw[hq] at hx;cases hx
  |some y=>grind
 refine⟨λk o u t h x h1 _ _ O hx=>?_,λh x h1 w hx=>?_⟩
 .grind
 grind
theorem Mn.fix {m}(r:Option α)(hm:∀h,m h=r.map λx=>(x,h)):Mn b m:=.ro (λ_=>r) hm λ_ _ _ _ _ _ _ h=>h
theorem Mn.pure {x:α}:Mn b (AI x):=.fix (some x) λ_=>rfl
theorem Mn.fail:Mn b (AS:M α):=.fix none λ_=>rfl
theorem Mn.bind {m}{f:α->M β}(a:Mn b m)(c:∀x,Mn b (f x)):Mn b (sh m f):=by
 have e:∀h y h2,(sh m f) h=some (y,h2)->∃x h1,m h=some (x,h1)/\f x h1=some (y,h2):=λh y h2 hx=>by
  unfold sh at hx
  grind
 refine⟨λk o u t h y h2 hb hg O hx=>?_,λh y h2 w hx=>?_⟩
 .obtain⟨x,h1,e1,e2⟩:=e _ _ _ hx;obtain⟨a1,a2⟩:=a.mn k o u t h x h1 hb hg O e1;obtain⟨c1,c2⟩:=(c x).mn k o u t h1 y h2 hb hg a2 e2;exact⟨by unfold sh;rw[a1];exact c1,c2⟩
 .obtain⟨x,h1,e1,e2⟩:=e _ _ _ hx;have a1:=a.wf h x h1 w e1;have c1:=(c x).wf h1 y h2 a1.1 e2
  grind
theorem Mn.ite {p}[Decidable p]{m m':M α}(a:Mn b m)(c:Mn b m'):Mn b (if p then m else m'):=by split<;>assumption
theorem Mn.sum {γ}{f:α->M γ}{g:β->M γ}(a:∀x,Mn b (f x))(c:∀x,Mn b (g x)):∀x,Mn b (cz f g x)
 |.inl x=>a x
 |.inr x=>c x
theorem Mn.aq {l a}:Mn b (aq l a):=by
 refine .ro (λh=>(h.cell a).bind (Ae l)) (λh=>?_) λk o u t h x O hx=>?_
 .unfold Ago.aq
  grind
 .cases hc:h.cell a with
  |none=>rw[hc] at hx;cases hx
  |some v=>grind [Zs]
theorem Mn.aE {ls a}:Mn b (aE ls a):=by
 refine .ro (λh=>(aQ h (some a) ls.length).bind (yL ls)) (λh=>?_) λk o u t h x O hx=>?_
 .unfold Ago.aE
  grind
 grind [aQ,rB]
theorem Mn.BW {s z}:Mn b (BW s z):=by
 refine .ro (λh=>aQ h s.a (s.len*z)) (λh=>?_) λk o u t h x O hx=>rB O hx;unfold Ago.BW
 grind
theorem Mn.px {c}:Mn b (px c):=by cases c;exact .fix none λ_=>rfl;exact .fix (some ()) λ_=>rfl
theorem Mn.nn {p}:Mn b (nn p):=by cases p;exact .fix none λ_=>rfl;exact .fix (some _) λ_=>rfl
theorem Mn.k7 {cs x}:Mn b (k7 cs x):=.fix (wv cs (FO x)) λh=>by unfold Ago.k7;grind
theorem Mn.ar {s i z}:Mn b (ar s i z):=by
 refine .fix (s.a.bind λa=>if 0<=i/\i<s.len then some (a.plus (i.toNat*z)) else none) λh=>?_;unfold Ago.ar
 grind
theorem Mn.oL {s i}:Mn b (oL s i):=.fix (if 0<=i then s[i.toNat]? else none) λh=>by unfold Ago.oL;split<;>simp_all
theorem Mn.iq {s i j}:Mn b (iq s i j):=.fix (if 0<=i/\i<=j/\j<=s.size then some (exS s i.toNat j.toNat) else none) λh=>by unfold Ago.iq;split<;>rfl
theorem Mn.nN {s s'}:Mn b (nN s s'):=.fix (if s.size+s'.size<=cF then some (s++s') else none) λh=>by unfold Ago.nN;split<;>rfl
theorem Zt {s e}(O:Ok k h)(he:kc h s e=true):kc (ins k o u t h) s e=true:=by
 grind [kc,vo]
theorem Mn.gm {s i j e z}:Mn b (gm s i j e z):=by
 refine .ro (λh=>if 0<=i/\i<=j/\j<=s.len/\kc h s e=true then some ⟨s.a.map (·.plus (i.toNat*z)),j.toNat-i.toNat,s.cap-(if s.cap=0 then 0 else i.toNat)⟩ else none) (λh=>by unfold Ago.gm;split<;>rfl) λk o u t h x O hx=>?_
 split at hx
 .rename_i hc;rw[By ⟨hc.1,hc.2.1,hc.2.2.1,Zt O hc.2.2.2⟩];exact hx
 .cases hx
theorem xE {nm nx e cs}(hn:nm≠k):(ins k o u t h).aX nm nx e cs=ins k o u t (h.aX nm nx e cs):=by
 refine oC rfl (λj=>?_) rfl (λg=>?_) λj=>?_<;>simp[ai.aX,ins,nL,aN]<;>grind
theorem Ok.aX {nm nx e cs}(O:Ok k h)(hn:nm≠k)(hx:h.next<=nx):Ok k (h.aX nm nx e cs):=by
 refine⟨?_,?_,ahb O.lt hx,λj c g b e' hj=>?_⟩
 .rw[ff (ai3 hn)];exact O.get
 .simp only[ai.aX,aN];rw[AT (ai3 hn)];exact O.used
 .by_cases hjn:j=nm
  .grind [kU]
  .rw[ff hjn] at hj;exact O.eI _ _ _ _ _ hj
theorem ad3 {x e cs}(hx:aF none e cs h=some (x,h1)):cs.all eS=true/\x=h.next/\h1=h.new e cs:=by
 unfold aF at hx
 grind
theorem Mn.aF {e cs}:Mn b (aF none e cs):=by
 refine⟨λk o u t h x h1 _ _ O hx=>?_,λh x h1 w hx=>?_⟩
 .obtain⟨hs,rfl,rfl⟩:=ad3 hx;have:=O.lt;refine⟨?_,O.aX (by omega) (ags _)⟩;unfold Ago.aF;rw[By hs];simp only[ai.new];rw[<-xE (by omega)];rfl
 .obtain⟨hs,rfl,rfl⟩:=ad3 hx;exact⟨w.new,ags _⟩
theorem RV {e cs k2}(hs:cs.all eS=true)(h2:h.used k2=false/\k2<h.next/\(h.get k2).isNone=true):aF (some k2) e cs h=some (k2,h.aX k2 h.next e cs):=by
 unfold Ago.aF;grind
theorem Mn.ad4 {e cs i}:Mn b (Ago.aF (some (b+i)) e cs):=by
 refine⟨λk o u t h x h1 hk _ O hx=>?_,λh x h1 w hx=>?_⟩<;>unfold Ago.aF at hx<;>split at hx
 .rename_i hs;simp only at hx;split at hx
  .rename_i hc;cases hx;refine⟨?_,O.aX (by omega) (abi _)⟩
   grind [RV,xE,ins]
  .cases hx
 .cases hx
 .simp only at hx;split at hx
  .rename_i hc;cases hx;exact⟨w.aX hc.2.1 (abi _),abi _⟩
  .cases hx
 .cases hx
theorem Mn.res {n}{f:Nat->M β}(c:∀x,Mn x (f x)):Mn b (sh (dz n) f):=by
 refine⟨λk o u t h y h2 hb hg O hx=>?_,λh y h2 w hx=>?_⟩
 .have hx:f h.next { h with next:=h.next+n }=some (y,h2):=hx
  exact (c h.next).mn k o u t { h with next:=h.next+n } y h2 O.lt hg ⟨O.get,O.used,by have:=O.lt;grind,O.eI⟩ hx
 .have hx:f h.next { h with next:=h.next+n }=some (y,h2):=hx
  have:=(c h.next).wf _ y h2 w.dz hx
  grind
theorem Mn.EC {nm e z l c}(hn:∀cs,Mn b (Ago.aF nm e cs)):Mn b (qM nm e z l c):=by
 have he:∀h,qM nm e z l c h=if 0<=l/\l<=c/\c<=cF then (sh (Ago.aF nm e (List.replicate c.toNat z).flatten) λb=>AI ⟨some ⟨b,0,none⟩,l.toNat,c.toNat+1⟩) h else none:=λh=>by
  unfold qM sh AI
  grind
 by_cases hc:0<=l/\l<=c/\c<=cF
 .have:qM nm e z l c=sh (Ago.aF nm e (List.replicate c.toNat z).flatten) λb=>AI ⟨some ⟨b,0,none⟩,l.toNat,c.toNat+1⟩:=funext λh=>by rw[he,By hc]
  rw[this];exact .bind (hn _) λ_=>.pure
 .have:qM nm e z l c=AS:=funext λh=>by rw[he,AT hc];rfl
  rw[this];exact .fail
theorem Mn.qM {e z l c}:Mn b (Ago.qM none e z l c):=Mn.EC λ_=>Mn.aF
theorem Mn.ai5 {e z l c i}:Mn b (Ago.qM (some (b+i)) e z l c):=Mn.EC λ_=>Mn.ad4
theorem RW {j g base c e}(hk:j≠k)(hg:g≠k+1)(ho:Gk k o):(ins k o u t h).qf j c g base e=ins k o u t (h.qf j c g base e):=by
 refine oC rfl (λi=>?_) rfl (λ_=>rfl) λ_=>rfl;simp[ai.qf,ins,aN];by_cases hi:i=k
 .subst hi;rw[AT (ai3 hk),By rfl,By rfl];cases o with
  |none=>rfl
  |some q=>
   cases q with
   |cells c' g' b' e'=>
    have:=ho _ _ _ _ rfl
    grind
   |_=>rfl
 grind
theorem Ok.qf {j g base c e}(O:Ok k h)(hk:j≠k)(hg:g≠k+1):Ok k (h.qf j c g base e):=by
 refine⟨?_,O.used,O.lt,λi c' g' b' e' hi=>?_⟩
 .simp[ai.qf,aN];rw[AT (ai3 hk),O.get]
 .simp[ai.qf,aN] at hi;split at hi
  .cases hi;exact hg
  .split at hi
   .rename_i c2 g2 b2 e2 h2;split at hi
    .cases hi
    .cases hi;exact O.eI _ _ _ _ _ h2
   grind
theorem Ok.ne (O:Ok k h){j c}(hj:h.get j=some c):j≠k:=λe=>by subst e;rw[O.get] at hj;cases hj
theorem Mn.bh {a vs}:Mn b (bh a vs):=by
 have key:∀h h1 (x:Unit),Ago.bh a vs h=some (x,h1)->∃c g base e,h.get a.block=some (.cells c g base e)/\(g≠0/\a.off+vs.length<=c.length/\vs.all eS=true)/\h1=h.qf a.block (aU c a.off vs) g base e:=λh h1 x hx=>by
  unfold Ago.bh at hx
  grind
 refine⟨λk o u t h x h1 hk ho O hx=>?_,λh x h1 w hx=>?_⟩
 .obtain⟨c,g,base,e,hg,hc,rfl⟩:=key _ _ _ hx;refine⟨?_,O.qf (O.ne hg) (O.eI _ _ _ _ _ hg)⟩;unfold Ago.bh;rw[vo O hg];simp only;rw[By hc,RW (O.ne hg) (O.eI _ _ _ _ _ hg) ho]
 .obtain⟨c,g,base,e,hg,hc,rfl⟩:=key _ _ _ hx;exact⟨w.qf hg,abi _⟩
theorem Mn.rh {d s z}:Mn b (rh d s z):=by
 have e:∀h,Ago.rh d s z h=sh (λh=>(aQ h s.a (Nat.min s.len d.len*z)).map λx=>(x,h)) (λcs=>if cs=[] then AI (Nat.min s.len d.len) else match d.a with
   |none=>AS
   |some a=>sh (Ago.bh a cs) λ_=>AI (Nat.min s.len d.len)) h:=λh=>by
  unfold Ago.rh sh;cases hq:aQ h s.a (Nat.min s.len d.len*z) with
  |none=>simp[hq,Option.map]
  |some cs=>
   cases cs with
   |nil=>simp[hq,Option.map,By];rfl
   |cons v cs=>
    simp only[hq,Option.map];rw[AT (by simp)];cases d.a with
    |none=>rfl
    |some a=>simp;cases hw:Ago.bh a (v::cs) h with
     |none=>simp
     |some y=>simp;rfl
 have:Ago.rh d s z=_:=funext e;rw[this];refine .bind (.ro (λh=>aQ h s.a (Nat.min s.len d.len*z)) (λh=>rfl) λk o u t h x O hx=>rB O hx) λcs=>?_;split
 .exact .pure
 .split
  .exact .fail
  .exact .bind .bh λ_=>.pure
theorem Mn.k8 {qs}{m:M α}(a:Mn b m):Mn b (k8 qs m):=by
 have key:∀h x h1,Ago.k8 qs m h=some (x,h1)->m h=some (x,h1)/\sameAt h h1 qs=true:=λh x h1 hx=>by
  unfold Ago.k8 at hx
  grind
 refine⟨λk o u t h x h1 hk ho O hx=>?_,λh x h1 w hx=>a.wf h x h1 w (key _ _ _ hx).1⟩;obtain⟨e1,e2⟩:=key _ _ _ hx;obtain⟨a1,a2⟩:=a.mn k o u t h x h1 hk ho O e1;refine⟨?_,a2⟩;have hs:sameAt (ins k o u t h) (ins k o u t h1) qs=true:=vq λc hc q hq=>by
  subst hq;have:=zk e2 _ hc q rfl;by_cases hqk:q.block=k
  .apply gb.of;simp[ins];grind
  .unfold gb at this⊢;simp[ins]
   grind
 unfold Ago.k8;rw[a1];simp;rw[hs]
theorem Mn.yN {ks a}{m:M α}(c:Mn b m):Mn b (yN ks a m):=by
 have key:∀h x h1,Ago.yN ks a m h=some (x,h1)->m h=some (x,h1)/\ZO h a ks=true:=λh x h1 hx=>by
  unfold Ago.yN at hx
  grind
 refine⟨λk o u t h x h1 hk ho O hx=>?_,λh x h1 w hx=>c.wf h x h1 w (key _ _ _ hx).1⟩;obtain⟨e1,e2⟩:=key _ _ _ hx;obtain⟨a1,a2⟩:=c.mn k o u t h x h1 hk ho O e1;refine⟨?_,a2⟩;have:ZO (ins k o u t h) a ks=true:=by
  grind [ZO,vo]
 unfold Ago.yN;rw[this];exact a1
theorem Mn.um {kt T z m q}:Mn b (um kt T z m q):=by
 cases m with
 |none=>exact .fix (some (false,z)) λ_=>rfl
 |some m=>
  refine .ro (λh=>(h.vC kt m).bind λx=>match yD q x.2 with
   |some v=>(Ic T v).map λy=>(true,y)
   |none=>some (false,z)) (λh=>?_) λk o u t h x O hx=>hx
  unfold Ago.um
  grind
theorem Mn.xc {kt}:Mn b (xc kt):=by
 refine⟨λk o u t h x h1 _ _ O hx=>?_,λh x h1 w hx=>?_⟩
 .cases hx;have:=O.lt;refine⟨?_,O.get,?_,adf O.lt,O.eI⟩
  .unfold Ago.xc;show some (h.next,_)=some (h.next,_)
   congr 2
   refine oC rfl (λ_=>rfl) rfl (λ_=>rfl) λj=>?_;simp only[ins,ai.mE,aN];grind
  .simp only[aN];rw[AT (by omega)];exact O.used
 .obtain⟨y,h2,e,hw⟩:=MY (kt:=kt) w (Q:=λ_ h'=>WF h'/\h.next<=h'.next) λh' _ f=>⟨f.wf,f.next⟩
  grind
theorem Mn.upM {m}(r:ai->Option (α×Nat×ZH))(hm:∀h,m h=(r h).map λx=>(x.1,h.mE x.2.1 x.2.2))(hr:∀k o u t h,r (ins k o u t h)=r h)(hw:∀h x,r h=some x->∃y,h.gH x.2.1=some y):Mn b m:=by
 have e:∀h x h1,m h=some (x,h1)->∃j y,r h=some (x,j,y)/\h1=h.mE j y:=λh x h1 hx=>by
  rw[hm] at hx;cases hq:r h with
  |none=>rw[hq] at hx;cases hx
  |some z=>grind
 refine⟨λk o u t h x h1 _ _ O hx=>?_,λh x h1 w hx=>?_⟩
 .obtain⟨j,y,e1,rfl⟩:=e _ _ _ hx;exact⟨by rw[hm,hr,e1];rfl,O.get,O.used,O.lt,O.eI⟩
 .obtain⟨j,y,e1,rfl⟩:=e _ _ _ hx;obtain⟨y',e2⟩:=hw _ _ e1;exact⟨(Fr.mE w e2).wf,abi _⟩
theorem Mn.qF {m st v}:Mn b (qF m st v):=by
 cases m with
 |none=>exact .fix none λ_=>rfl
 |some m=>
  refine .upM (λh=>(h.gH m).bind λx=>if 0<=st then (B3 st.toNat v x.es).map λes=>((),m,⟨x.kt,x.clock,es⟩) else none) (λh=>?_) (λ_ _ _ _ _=>rfl) λh x hx=>?_
  .unfold Ago.qF;cases hq:h.gH m with
   |none=>simp only[hq];rfl
   |some x=>
    simp[hq,ah6];by_cases hs:0<=st
    .rw[By hs,decide_eq_true hs];cases B3 st.toNat v x.es<;>rfl
    grind
  .cases hq:h.gH m with
   |none=>rw[hq] at hx;cases hx
   |some y=>
    rw[hq] at hx;simp only[ah6] at hx;split at hx
    .cases hz:B3 st.toNat v y.es with
     |none=>rw[hz] at hx;cases hx
     |some es=>grind
    .cases hx
theorem Mn.oM {kt T z m q}:Mn b (oM kt T z m q):=by
 cases m with
 |none=>exact .fix none λ_=>rfl
 |some m=>
  have e:∀h,Ago.oM kt T z (some m) q h=sh (λh=>((h.vC kt m).bind λx=>match hC q x.2 with
    |some e=>(Ic T e.val).map λy=>((some (y,e.born):Option (T.den×Nat)),x)
    |none=>some (none,x)).map λx=>(x,h)) (λx=>match x.1 with
    |some y=>AI y
    |none=>λh=>((h.vC kt m).map λx=>((z,x.1),m,(⟨kt,x.1+1,rC q (CR T z) x.1 x.2⟩:ZH))).map λx=>(x.1,h.mE x.2.1 x.2.2)) h:=λh=>by
   unfold Ago.oM sh;cases hq:h.vC kt m with
   |none=>simp only[hq];rfl
   |some x=>
    obtain⟨c,es⟩:=x;simp only[hq,ah6];cases hw:hC q es with
    |none=>grind
    |some v=>simp only;cases Ic T v.val<;>rfl
  have:Ago.oM kt T z (some m) q=_:=funext e;rw[this];refine .bind (.ro _ (λ_=>rfl) λk o u t h x O hx=>hx) λx=>?_;split
  .exact .pure
  .refine .upM _ (λ_=>rfl) (λ_ _ _ _ _=>rfl) λh x hx=>?_;cases hq:h.vC kt m with
   |none=>rw[hq] at hx;cases hx
   |some y=>
    rw[hq] at hx;cases hx;unfold ai.vC at hq
    grind
theorem Mn.oK {s z n e new} : Mn b (oK false s z e n new) :=by
  by_cases hn : n = 0
  · refine .fix (match s.a with
      |none => if s.len = 0 /\ s.cap = 0 /\ new = [] then some s else none
      |some _ => if new = [] then some s else none) λh => ?_
    unfold Ago.oK
    grind
  by_cases hb : s.len+n <= cF /\ new.length = n*z
  rotate_left
  · exact .fix none λh => by unfold Ago.oK; grind
  cases ha : s.a with
  |none=>
    by_cases hc : s.len = 0 /\ s.cap = 0
    · have e2 : ∀h, Ago.oK false s z e n new h = some (⟨some ⟨h.next, 0, none⟩, n, 0⟩, h.new e new) := λh => by unfold Ago.oK; grind
      refine⟨λk o u t h x h1 _ _ O hx => ?_, λh x h1 w hx => ?_⟩
      · rw[e2] at hx; cases hx
        have := O.lt;refine⟨?_, O.aX (by omega) (ags _)⟩;rw[e2];simp only[ai.new];rw[<-xE (by omega)]; rfl
      · rw[e2] at hx; cases hx; exact⟨w.new, ags _⟩
    · exact .fix none λh => by unfold Ago.oK; grind
  |some a=>
  -- the three ways
  have key : ∀h x h1, Ago.oK false s z e n new h = some (x, h1) -> ∃nF c g base e', aQ h (some a) (s.len*z) = some nF /\ h.get a.block = some (.cells c g base e') /\ (
      ((s.cap ≠ 0 /\ s.len+n < s.cap) /\ (g ≠ 0 /\ a.off+(s.len*z+new.length) <= c.length) /\ x = ⟨some a, s.len+n, s.cap⟩ /\ h1 = h.qf a.block (aU c (a.off+s.len*z) new) g base e') \/
      (¬(s.cap ≠ 0 /\ s.len+n < s.cap) /\ s.cap ≠ 0 /\ x = ⟨some ⟨h.next, 0, none⟩, s.len+n, 0⟩ /\ h1 = h.new e (nF ++ new)) \/
      (s.cap = 0 /\ (g ≠ 0 /\ e' = e) /\ x = ⟨some ⟨h.next, 0, none⟩, s.len+n, 0⟩ /\ h.lN g = base+a.off+s.len*z /\ h1 = { h with
              get := λj => cond (Nat.beq j h.next) (some (.cells (nF ++ new) g (base+a.off) e)) (idO (h.get j))
              next := h.next+1
              lN := λg' => cond (Nat.beq g' g) (base+a.off+s.len*z+new.length) (h.lN g')
              used := λj => cond (Nat.beq j h.next) true (h.used j) }) \/
      (s.cap = 0 /\ (g ≠ 0 /\ e' = e) /\ x = ⟨some ⟨h.next, 0, none⟩, s.len+n, 0⟩ /\ h.lN g ≠ base+a.off+s.len*z /\ h1 = { h with
              get := λj => cond (Nat.beq j h.next) (some (.cells (nF ++ new) g (base+a.off) e)) (match h.get j with
                |some (.cells c' g' base' elem') => cond (Nat.beq g' g&&Nat.blt (base+a.off+s.len*z) (base'+c'.length)) none (some (.cells c' g' base' elem'))
                |o => o)
              next := h.next+1
              lN := λg' => cond (Nat.beq g' g) (base+a.off+s.len*z+new.length) (h.lN g')
              used := λj => cond (Nat.beq j h.next) true (h.used j) })) := λh x h1 hx =>by
    unfold Ago.oK at hx;rw[AT hn, AT (by simp[hb]), ha] at hx;simp only at hx;split at hx
    · rename_i nF c g base e' ho hg
      refine⟨nF, c, g, base, e', ho, hg, ?_⟩;split at hx
      · grind
      · rename_i h3
        split at hx
        · grind
        · rename_i h4
          have h4 : s.cap = 0 := afO h4;split at hx
          · grind
          · cases hx
    · cases hx
  refine⟨λk o u t h x h1 _ hgk O hx => ?_, λh x h1 w hx => ?_⟩
  · obtain⟨nF, c, g, base, e', ho, hg, hc⟩ := key h x h1 hx
    have hgn := O.eI _ _ _ _ _ hg;have hlt := O.lt;have ht : (ins k o u t h).lN g = h.lN g := (by simp only[ins]; rw[AT hgn]);have hnx : (ins k o u t h).next = h.next := rfl
    rcases hc with⟨h3, h4, rfl, rfl⟩|⟨h3, h4, rfl, rfl⟩|⟨h4, h5, rfl, h6, rfl⟩|⟨h4, h5, rfl, h6, rfl⟩
    · refine⟨?_, O.qf (O.ne hg) hgn⟩
      unfold Ago.oK;rw[AT hn, AT (by simp[hb]), ha];simp only[rB O ho, vo O hg];rw[By h3, By ⟨h4.1, h4.2, trivial⟩, RW (O.ne hg) hgn hgk]
    · refine⟨?_, O.aX (by omega) (ags _)⟩
      unfold Ago.oK;rw[AT hn, AT (by simp[hb]), ha];simp only[rB O ho, vo O hg];rw[AT h3, By h4];simp only[ai.new];rw[<-xE (by omega)]; rfl
    · refine⟨?_, ?_, ?_, adf O.lt, ?_⟩
      · unfold Ago.oK
        rw[AT hn, AT (by simp[hb]), ha];simp only[rB O ho, vo O hg, ht, hnx];rw[AT (by omega), AT (by omega), By h5, By h6]
        congr 2
        refine oC rfl (λj => ?_) rfl (λg' => ?_) λj => ?_<;>simp[ins, nL, aN]<;>grind
      · simp[aN, nL]; rw[AT (by omega)]; exact O.get
      · simp only[aN]; rw[AT (by omega)]; exact O.used
      · intro j c2 g2 b2 e2 hj
        simp[aN, nL] at hj;split at hj
        · cases hj; exact hgn
        · exact O.eI _ _ _ _ _ hj
    · refine⟨?_, ?_, ?_, adf O.lt, ?_⟩
      · unfold Ago.oK
        rw[AT hn, AT (by simp[hb]), ha];simp only[rB O ho, vo O hg, ht, hnx];rw[AT (by omega), AT (by omega), By h5, AT h6, By trivial]
        congr 2
        refine oC rfl (λj => ?_) rfl (λg' => ?_) λj => ?_
        · simp[ins, aN]
          by_cases hj : j = k
          · subst hj
            rw[AT (by omega), By rfl, By rfl];cases o with
            |none => rfl
            |some q=>
              cases q with
              |cells c' g' b' e'=>
                have := hgk _ _ _ _ rfl;simp;rw[bB (show g' ≠ g by omega), ai2]; rfl
              |_ => rfl
          · rw[AT hj, AT hj]; rfl
        · simp[ins, aN]; grind
        · simp only[ins, aN]; grind
      · simp[aN]; rw[AT (by omega), O.get]
      · simp only[aN]; rw[AT (by omega)]; exact O.used
      · intro j c2 g2 b2 e2 hj
        simp[aN] at hj;split at hj
        · cases hj; exact hgn
        · split at hj
          · rename_i c3 g3 b3 e3 hq
            cases hw : (Nat.beq g3 g&&Nat.blt (base+a.off+s.len*z) (b3+c3.length)) with
            |true => rw[hw] at hj; cases hj
            |false => rw[hw] at hj; cases hj; exact O.eI _ _ _ _ _ hq
          · exact O.eI _ _ _ _ _ hj
  · obtain⟨nF, c, g, base, e', ho, hg, hc⟩ := key h x h1 hx
    have hgl := w.eI _ _ _ _ _ hg;rcases hc with⟨h3, h4, rfl, rfl⟩|⟨h3, h4, rfl, rfl⟩|⟨h4, h5, rfl, h6, rfl⟩|⟨h4, h5, rfl, h6, rfl⟩
    · exact⟨w.qf hg, abi _⟩
    · exact⟨w.new, ags _⟩
    · refine⟨⟨λj hj => ?_, λj hj => ?_, λj c2 g2 b2 e2 hj => ?_, λj hj => w.maps j (cu hj).2⟩, ags _⟩
      · simp at hj; simp[aN, nL]; rw[AT (by omega)]; exact w.get j (by omega)
      · simp at hj; simp only[aN]; rw[AT (by omega)]; exact w.used j (by omega)
      · simp[aN, nL] at hj
        split at hj
        · cases hj; exact aiC hgl
        · exact aiC (w.eI _ _ _ _ _ hj)
    · refine⟨⟨λj hj => ?_, λj hj => ?_, λj c2 g2 b2 e2 hj => ?_, λj hj => w.maps j (cu hj).2⟩, ags _⟩
      · simp at hj; simp[aN]; rw[AT (by omega), w.get j (by omega)]
      · simp at hj; simp only[aN]; rw[AT (by omega)]; exact w.used j (by omega)
      · simp[aN] at hj
        split at hj
        · cases hj; exact aiC hgl
        · split at hj
          · rename_i c3 g3 b3 e3 hq
            cases hw : (Nat.beq g3 g&&Nat.blt (base+a.off+s.len*z) (b3+c3.length)) with
            |true => rw[hw] at hj; cases hj
            |false => rw[hw] at hj; cases hj; exact aiC (w.eI _ _ _ _ _ hq)
          · exact aiC (w.eI _ _ _ _ _ hj)
theorem Mn.app {s z n e new}:Mn b (app false s z e n new):=by
 have:Ago.app false s z e n new=Ago.oK false s z e n new:=funext λh=>by unfold Ago.app;rfl
 rw[this];exact .oK
theorem Mn.late {m:M α}{x k e cs qs}(a:Mn (k+1) m)(O:Ok k h)(hm:Ago.k8 qs m h=some (x,h1)) :
  Ago.k8 qs (rH k m) (h.aX k h.next e cs)=some (x,h1.aX k h1.next e cs)/\Ok k h1:=by
 have put:∀{h:ai},h.aX k h.next e cs=ins k (some (.cells cs (k+1) 0 e)) true cs.length h:=λ{h}=>by
  refine oC rfl (λj=>?_) rfl (λg=>?_) λj=>?_<;>simp[ai.aX,ins,nL,aN]
 have G1:Gk k (some (.cells cs (k+1) 0 e)):=λc g b e hx=>by cases hx;rfl
 have c:=(Mn.k8 a).mn k _ true cs.length h x h1 (IT k) G1 O hm;rw[<-put,<-put] at c;refine⟨?_,c.2⟩;have hm1:m h=some (x,h1)/\True:=by
  unfold Ago.k8 at hm
  grind
 have d:=a.mn k _ true cs.length h x h1 (IT k) G1 O hm1.1;rw[<-put,<-put] at d;have bp:BP k m (h.aX k h.next e cs) x (h1.aX k h1.next e cs):=λh0 t2 cs2 u1 u2 u3 eq=>by
  have e1:h0=ins k none false (h0.lN (k+1)) h:=by
   have q1:∀j,(h.aX k h.next e cs).get j=(h0.aX k h0.next t2 cs2).get j:=λj=>by rw[eq]
   have q2:∀j,(h.aX k h.next e cs).lN j=(h0.aX k h0.next t2 cs2).lN j:=λj=>by rw[eq]
   have q3:∀j,(h.aX k h.next e cs).used j=(h0.aX k h0.next t2 cs2).used j:=λj=>by rw[eq]
   have q4:(h.aX k h.next e cs).next=(h0.aX k h0.next t2 cs2).next:=by rw[eq]
   have q5:(h.aX k h.next e cs).gH=(h0.aX k h0.next t2 cs2).gH:=by rw[eq]
   refine oC q5.symm (λj=>?_) q4.symm (λg=>?_) λj=>?_
   .simp[ins];by_cases hj:j=k
    .grind
    .rw[AT hj];have:=q1 j;grind [ff]
   .simp[ins];by_cases hg:g=k+1
    .subst hg;rw[By rfl]
    .rw[AT hg];have:=q2 g;grind [wE]
   .simp only[ins];by_cases hj:j=k
    .grind
    .rw[AT hj];have:=q3 j;simp only[ai.aX,aN] at this;grind
  have ecs:e=t2/\cs=cs2:=by
   have q1:(h.aX k h.next e cs).get k=(h0.aX k h0.next t2 cs2).get k:=by rw[eq]
   rw[kU,kU] at q1
   grind
  obtain⟨rfl,rfl⟩:=ecs;have f:=a.mn k none false (h0.lN (k+1)) h x h1 (IT k) (λc g b e hx=>by cases hx) O hm1.1;rw[<-e1] at f;refine⟨_,f.1,?_,f.2.lt,?_,?_⟩
  .simp only[ins];rw[By trivial]
  .simp only[ins];rw[By trivial]
  .refine oC rfl (λj=>?_) rfl (λg=>?_) λj=>?_<;>simp[ai.aX,ins,nL,aN]<;>grind
 unfold Ago.k8 at c⊢;unfold rH;rw[d.1] at c⊢;simp at c⊢;cases (h.aX k h.next e cs).dec (BP k m (h.aX k h.next e cs) x (h1.aX k h1.next e cs)) with
 |isTrue _=>exact c.1
 |isFalse hn=>exact absurd bp hn
theorem wP {m}{f:α->M β}{y h2}(hx:sh m f h=some (y,h2)):∃x h1,m h=some (x,h1)/\f x h1=some (y,h2):=by
 unfold sh at hx
 grind
theorem wQ {m}{f:α->M β}{x r}(h1':m h=some (x,h1))(h2:f x h1=r):sh m f h=r:=by unfold sh;rw[h1'];exact h2
theorem Ok.of (w:WF h){n i}(hi:i<n):Ok (h.next+i) { h with next:=h.next+n }:=
 ⟨w.get _ (ajm _ _),w.used _ (ajm _ _),by grind,λj c g b e hj=>by have:=w.eI j c g b e hj;omega⟩
end
end Go.Ago
namespace Go.Ago
open Go
variable {α β:Type}{b:Nat}
theorem Mn.strOf {s}:Mn b (strOf s):=by
 refine .ro (λh=>(aQ h s.a s.len).bind λcs=>(bytesOf cs).map ofBytes) (λh=>?_) λk o u t h x O hx=>?_
 .unfold Ago.strOf
  grind
 .cases hc:aQ h s.a s.len with
  |none=>rw[hc] at hx;cases hx
  |some v=>grind [rB]
theorem Mn.ke {v}:Mn b (ke v):=by
 cases v
 case nilIface=>exact .fix (some true) λ_=>rfl
 case iface=>exact .fix (some false) λ_=>rfl
 all_goals exact .fix none λ_=>rfl
theorem Mn.At {r}:Mn b (At r):=by cases r;exact .fix none λ_=>rfl;exact .fix (some _) λ_=>rfl
theorem Mn.Ex {x y}:Mn b (Ex x y):=Mn.At
theorem Mn.R4 {x y}:Mn b (R4 x y):=Mn.At
theorem Mn.RY {x y}:Mn b (RY x y):=Mn.At
theorem Mn.RZ {x y}:Mn b (RZ x y):=Mn.At
theorem Mn.A9 {l n cs j}:Mn b (A9 l n cs j):=
 .fix (if 0<=j/\j<(n:Int) then (cs[j.toNat]?).bind (Ae l) else none) λh=>by
  unfold Ago.A9
  grind
theorem Mn.V2:Mn b V2:=by
 refine⟨λk o u t h x h1 hk ho O hx=>?_,λh x h1 w hx=>?_⟩
 .cases hx;have hlt:=O.lt;refine⟨?_,O.get,?_,by grind,O.eI⟩
  .unfold Ago.V2;simp only[adA,air];refine⟨rfl,oC rfl (λ_=>rfl) rfl (λ_=>rfl) λj=>?_⟩;simp only[ins,aN]
   grind
  .show cond (Nat.beq k h.next) true (h.used k)=false
   rw[aN,AT (by omega)];exact O.used
 .cases hx;obtain⟨_,h2,e,f⟩:=(Go.Sh.GY (h:=h) (Q:=λ_ h'=>Fr (λ_=>False) h h') λh' f=>f w);cases e;exact⟨f.wf,f.next⟩
theorem Zu {k nx h e cs}(hx:nx=h.next):h.aX k nx e cs=ins k (some (.cells cs (k+1) 0 e)) true cs.length h:=by
 subst hx;refine oC rfl (λj=>?_) rfl (λg=>?_) λj=>?_<;>simp[ai.aX,ins,nL,aN]
theorem Mn.rH {m:M α}{i}(a:Mn b m):Mn b (rH (b+i) m):=by
 have key:∀k2 h x h1,Ago.rH k2 m h=some (x,h1)->m h=some (x,h1)/\BP k2 m h x h1:=λk2 h x h1 hx=>by
  unfold Ago.rH at hx;cases hm:m h with
  |none=>rw[hm] at hx;cases hx
  |some p=>
   obtain⟨y,h2⟩:=p;rw[hm] at hx;simp at hx;split at hx
   .grind
   .cases hx
 refine⟨λk o u t h x h1 hk ho O hx=>?_,λh x h1 w hx=>a.wf h x h1 w (key _ _ _ _ hx).1⟩;obtain⟨e1,e2⟩:=key _ _ _ _ hx;obtain⟨a1,a2⟩:=a.mn k o u t h x h1 hk ho O e1;refine⟨?_,a2⟩;have hne:b+i≠k:=by omega
 have bp:BP (b+i) m (ins k o u t h) x (ins k o u t h1):=by
  intro h0 t' cs' q1 q2 q3 q4;rw[Zu rfl] at q4;have G:∀j,(ins k o u t h).get j=(ins (b+i) (some (.cells cs' (b+i+1) 0 t')) true cs'.length h0).get j:=λj=>by rw[q4]
  have T:∀j,(ins k o u t h).lN j=(ins (b+i) (some (.cells cs' (b+i+1) 0 t')) true cs'.length h0).lN j:=λj=>by rw[q4]
  have U:∀j,(ins k o u t h).used j=(ins (b+i) (some (.cells cs' (b+i+1) 0 t')) true cs'.length h0).used j:=λj=>by rw[q4]
  have X:h.next=h0.next:=by have:=ah7 ai.next q4;exact this
  have Y:h.gH=h0.gH:=by have:=ah7 ai.gH q4;exact this
  simp only[ins] at G T U;have r1:h=(ins k none false (h.lN (k+1)) h0).aX (b+i) (ins k none false (h.lN (k+1)) h0).next t' cs':=by
   rw[Zu rfl];refine oC Y (λj=>?_) X (λg=>?_) λj=>?_<;>simp only[ins]
   .have:=G j;have:=O.get
    grind
   .have:=T g
    grind
   .have:=U j;have:=O.used
    grind
  have r2:ins k o u t (ins k none false (h.lN (k+1)) h0)=h0:=by
   refine oC rfl (λj=>?_) rfl (λg=>?_) λj=>?_<;>simp only[ins]
   .have:=G j
    grind
   .have:=T g
    grind
   grind
  obtain⟨h3,f1,f2,f3,f4,f5⟩:=e2 (ins k none false (h.lN (k+1)) h0) t' cs' (by simp only[ins];rw[AT hne];exact q1) q2 (by simp only[ins];rw[AT hne];exact q3) r1;have Ok':Ok k (ins k none false (h.lN (k+1)) h0):=by
   refine⟨by simp[ins],by simp[ins],by show k<h0.next;rw[<-X];exact O.lt,λj c g b2 e hj=>?_⟩
   simp only[ins] at hj;split at hj
   .cases hj
   .rename_i hjk;by_cases hj2:j=b+i
    .grind
    .have:=G j;rw[AT hjk,AT hj2] at this;exact O.eI j c g b2 e (this.trans hj)
  obtain⟨c1,c2⟩:=a.mn k o u t _ x h3 hk ho Ok' f1;rw[r2] at c1;refine⟨ins k o u t h3,c1,by simp only[ins];rw[AT hne];exact f2,f3,by simp[ins];rw[AT hne];exact f4,?_⟩;rw[f5];exact (xE hne).symm
 unfold Ago.rH;rw[a1];simp;split
 .rfl
 grind
section
variable {b n:Nat}{α β γ:Type}{m m':M α}
instance {x:α}:Mn b (AI x):=Mn.pure
instance:Mn b (AS:M α):=Mn.fail
instance {f:α->M β}[a:Mn b m] [c:∀x,Mn b (f x)]:Mn b (sh m f):=Mn.bind a c
instance {p:Prop}[Decidable p] [a:Mn b m] [c:Mn b m']:Mn b (if p then m else m'):=Mn.ite a c
instance {f:α->M γ}{g:β->M γ}[a:∀x,Mn b (f x)] [c:∀x,Mn b (g x)] {x:α⊕β}:Mn b (cz f g x):=Mn.sum a c x
instance {f:Nat->M β}[c:∀x,Mn x (f x)]:Mn b (sh (dz n) f):=Mn.res c
instance {qs:List θ}[a:Mn b m]:Mn b (k8 qs m):=Mn.k8 a
instance {i}[a:Mn b m]:Mn b (rH (b+i) m):=Mn.rH a
instance {ks:η}{a}[c:Mn b m]:Mn b (yN ks a m):=Mn.yN c
instance {l a}:Mn b (aq l a):=Mn.aq
instance {l a}:Mn b (aE l a):=Mn.aE
instance {s z}:Mn b (BW s z):=Mn.BW
instance {c}:Mn b (px c):=Mn.px
instance {p}:Mn b (nn p):=Mn.nn
instance {c x}:Mn b (k7 c x):=Mn.k7
instance {s i z}:Mn b (ar s i z):=Mn.ar
instance {s i}:Mn b (oL s i):=Mn.oL
instance {s i j}:Mn b (iq s i j):=Mn.iq
instance {s t}:Mn b (nN s t):=Mn.nN
instance {s i j e z}:Mn b (gm s i j e z):=Mn.gm
instance {e c}:Mn b (aF none e c):=Mn.aF
instance {e c i}:Mn b (aF (some (b+i)) e c):=Mn.ad4
instance {e z l c}:Mn b (qM none e z l c):=Mn.qM
instance {e z l c i}:Mn b (qM (some (b+i)) e z l c):=Mn.ai5
instance {a v}:Mn b (bh a v):=Mn.bh
instance {d s z}:Mn b (rh d s z):=Mn.rh
instance {k T z m q}:Mn b (um k T z m q):=Mn.um
instance {k}:Mn b (xc k):=Mn.xc
instance {m s v}:Mn b (qF m s v):=Mn.qF
instance {k T z m q}:Mn b (oM k T z m q):=Mn.oM
instance {s z n e v}:Mn b (app false s z e n v):=Mn.app
instance {s}:Mn b (strOf s):=Mn.strOf
instance {a l i j z}:Mn b (nM a l i j z):=.fix (if 0<=i/\i<=j/\j<=(l:Int) then some ⟨some (a.plus (i.toNat*z)),j.toNat-i.toNat,l-i.toNat+1⟩ else none) λh=>by grind [nM]
instance {v}:Mn b (ke v):=Mn.ke
instance {x y}:Mn b (Ex x y):=Mn.Ex
instance {x y}:Mn b (R4 x y):=Mn.R4
instance {x y}:Mn b (RY x y):=Mn.RY
instance {x y}:Mn b (RZ x y):=Mn.RZ
instance {l n c j}:Mn b (A9 l n c j):=Mn.A9
end
end Go.Ago
namespace Go.Sh
open Go Go.Ago
variable {b n:Nat}
theorem FL {v}:Mn b (yc v):=Mn.bind Mn.V2 λ_=>Mn.pure
instance U5 {s:ζ}:Mn b (strconv_Atoi n s):=by
 unfold strconv_Atoi;refine Mn.ite ?_ Mn.fail;cases Lib.atoiAll s.data.toList with
 |ok v=>exact Mn.pure
 |range=>exact FL
 |_=>exact FL
instance Oa {s:ζ}{x y:Int}:Mn b (eG n s x y):=by
 unfold eG;refine Mn.ite ?_ Mn.fail;cases Lib.parseUintB 64 s.data.toList with
 |ok v=>exact Mn.pure
 |range=>exact FL
 |_=>exact FL
instance LP {s t:ζ}:Mn b (fV n s t):=by
 unfold fV;split
 .exact Mn.pure
 .exact Mn.fail
instance Ob {s t:ζ}:Mn b (fq n s t):=by
 unfold fq;split
 .exact Mn.ite Mn.pure Mn.fail
 .exact Mn.fail
end Go.Sh
set_option maxRecDepth 100000
namespace Go.Sh
open Go Go.Ago
instance {b x}:Mn b (k7 [aB,aB,aB,aB,aB,aB,aB,aB,aB] x:M (Addr×Addr×Addr×Addr×Addr×Addr×Addr×Addr×Addr)):=Mn.k7
instance {b x}:Mn b (k7 [aB,aB,aB,aB,aB] x:M (Addr×Addr×Addr×Addr×Addr)):=Mn.k7
instance {b x}:Mn b (k7 [aB,aB,aB] x:M (Addr×Addr×Addr)):=Mn.k7
instance {b x}:Mn b (k7 [aB,aB] x:M (Addr×Addr)):=Mn.k7
instance {b k a}:Mn b (aq (.int k) a:M Int):=Mn.aq
instance {b a}:Mn b (aq .bool a:M (Bool)):=Mn.aq
instance {b a}:Mn b (aq .raw a:M ξ):=Mn.aq
instance {b a}:Mn b (aq .sl a:M (Sl)):=Mn.aq
instance {b a}:Mn b (aq .str a:M ζ):=Mn.aq
instance {b a}:Mn b (aE [.bool,.sl,li] a:M (Bool×Sl×Int)):=Mn.aE
instance {b a}:Mn b (aE [.bool,.sl] a:M (Bool×Sl)):=Mn.aE
instance {b a}:Mn b (aE [.sl,li,.sl,li] a:M (Sl×Int×Sl×Int)):=Mn.aE
instance {b a}:Mn b (aE [.sl,li] a:M (Sl×Int)):=Mn.aE
instance {b a}:Mn b (aE [li,.str,.bool,.sl,.sl] a:M (Int×ζ×Bool×Sl×Sl)):=Mn.aE
instance {b a}:Mn b (aE [li,.str] a:M (Int×ζ)):=Mn.aE
instance {b a}:Mn b (aE [li,li,li,li,li,li,li,li,li,li,.int IntKind.u8] a:M (Int×Int×Int×Int×Int×Int×Int×Int×Int×Int×Int)):=Mn.aE
instance {b a}:Mn b (aE [li,li,li,li,li] a:M (Int×Int×Int×Int×Int)):=Mn.aE
instance {bb nn s c}:Mn bb (strings_IndexByte nn s c):=by unfold strings_IndexByte;infer_instance
instance {bb nn s}:Mn bb (ma nn s):=by unfold ma;infer_instance
instance {bb nn n}:Mn bb (strconv_Itoa nn n):=by unfold strconv_Itoa;infer_instance
instance {bb nn u base}:Mn bb (eK nn u base):=by unfold eK;infer_instance
instance {bb nn s c}:Mn bb (strings_Repeat nn s c):=by unfold strings_Repeat;infer_instance
instance {bb nn s p}:Mn bb (strings_TrimPrefix nn s p):=by unfold strings_TrimPrefix;infer_instance
instance {bb nn s p}:Mn bb (strings_CutPrefix nn s p):=by unfold strings_CutPrefix;infer_instance
instance {bb nn x}:Mn bb (eT nn x):=by unfold eT;infer_instance
instance {bb nn x}:Mn bb (bN nn x):=by unfold bN;infer_instance
instance {bb nn b}:Mn bb (ep nn b):=by unfold ep;infer_instance
instance {bb nn n}:Mn bb (bY nn n):=by unfold bY;infer_instance
instance {b n}:∀{a0 a1 a2 a3 a4},Mn b (gw n a0 a1 a2 a3 a4):=by
 induction n generalizing b with
 |zero=>intros;exact Mn.fail
 |succ n ih=>intros;show Mn b (mT (gw n) n _ _ _ _ _);unfold mT;(try unfold mS);infer_instance
instance {b n}:∀{a0},Mn b (gu n a0):=by
 induction n generalizing b with
 |zero=>intros;exact Mn.fail
 |succ n ih=>intros;show Mn b (mJ (gu n) n _);unfold mJ;infer_instance
instance {b n a0}:Mn b (rW n a0):=by unfold rW;infer_instance
instance {b n a0 a1 a2}:Mn b (iT n a0 a1 a2):=by unfold iT;repeat' first|infer_instance|refine Mn.res λ_=>?_|refine Mn.bind ?_ λ_=>?_|refine Mn.ite ?_ ?_|refine Mn.sum (λ_=>?_) (λ_=>?_) _
instance {b n a0 a1 a2 a3}:Mn b (gC n a0 a1 a2 a3):=by unfold gC;infer_instance
instance {b n a0}:Mn b (mU n a0):=by unfold mU;infer_instance
instance {b n a0}:Mn b (nA n a0):=by unfold nA;infer_instance
instance {b n}:∀{a0 a1 a2 a3},Mn b (gR n a0 a1 a2 a3):=by
 induction n generalizing b with
 |zero=>intros;exact Mn.fail
 |succ n ih=>intros;show Mn b (lD (gR n) n _ _ _ _);unfold lD;infer_instance
instance {b n a0}:Mn b (pg n a0):=by unfold pg;infer_instance
instance {b n}:∀{a0 a1 a2 a3},Mn b (iP n a0 a1 a2 a3):=by
 induction n generalizing b with
 |zero=>intros;exact Mn.fail
 |succ n ih=>intros;show Mn b (mM (iP n) n _ _ _ _);unfold mM;infer_instance
instance {b n}:∀{a0 a1 a2 a3},Mn b (iO n a0 a1 a2 a3):=by
 induction n generalizing b with
 |zero=>intros;exact Mn.fail
 |succ n ih=>intros;show Mn b (mK (iO n) n _ _ _ _);unfold mK;infer_instance
instance {b n a0 a1 a2}:Mn b (p8 n a0 a1 a2):=by unfold p8;infer_instance
instance {b n a0}:Mn b (j5 n a0):=by unfold j5;infer_instance
instance {b n a0}:Mn b (lh n a0):=by unfold lh;infer_instance
instance {b n}:∀{a0 a1 a2 a3},Mn b (dY n a0 a1 a2 a3):=by
 induction n generalizing b with
 |zero=>intros;exact Mn.fail
 |succ n ih=>intros;show Mn b (gS (dY n) n _ _ _ _);unfold gS;infer_instance
instance {b n a0}:Mn b (jg n a0):=by unfold jg;infer_instance
instance {b n a0}:Mn b (lj n a0):=by unfold lj;infer_instance
instance {b n a0}:Mn b (lu n a0):=by unfold lu;infer_instance
instance {b n a0 a1 a2}:Mn b (mw n a0 a1 a2):=by unfold mw;repeat' first|infer_instance|refine Mn.res λ_=>?_|refine Mn.bind ?_ λ_=>?_|refine Mn.ite ?_ ?_
instance {b n a0}:Mn b (nh n a0):=by unfold nh;infer_instance
instance {b n a0}:Mn b (po n a0):=by unfold po;infer_instance
instance {b n}:Mn b (zI n):=by unfold zI;infer_instance
instance {b n a0}:Mn b (vR n a0):=by unfold vR;infer_instance
instance {b n a0 a1}:Mn b (kZ n a0 a1):=by unfold kZ;infer_instance
instance {b n a0 a1}:Mn b (mV n a0 a1):=by unfold mV;infer_instance
instance {b n a0 a1}:Mn b (strings_Cut n a0 a1):=by unfold strings_Cut;infer_instance
instance {b n a0 a1}:Mn b (mW n a0 a1):=by unfold mW;infer_instance
instance {b n a0}:Mn b (vS n a0):=by unfold vS;infer_instance
instance {b n a0 a1}:Mn b (tI n a0 a1):=by unfold tI;infer_instance
instance {b n a0}:Mn b (yf n a0):=by unfold yf;infer_instance
instance {b n a0}:Mn b (pM n a0):=by unfold pM;infer_instance
instance {b n a0 a1 a2}:Mn b (pn n a0 a1 a2):=by unfold pn;infer_instance
instance {b n a0 a1}:Mn b (ui n a0 a1):=by unfold ui;infer_instance
instance {b n a0 a1}:Mn b (yl n a0 a1):=by unfold yl;infer_instance
instance {b n a0 a1}:Mn b (vZ n a0 a1):=by unfold vZ;infer_instance
instance {b n a0}:Mn b (se n a0):=by unfold se;infer_instance
instance {b n a0 a1}:Mn b (mi n a0 a1):=by unfold mi;infer_instance
instance {b n a0}:Mn b (sq n a0):=by unfold sq;infer_instance
instance {b n a0 a1}:Mn b (lG n a0 a1):=by unfold lG;infer_instance
instance {b n a0 a1}:Mn b (oj n a0 a1):=by unfold oj;infer_instance
instance {b n a0}:Mn b (uy n a0):=by unfold uy;infer_instance
instance {b n a0 a1 a2 a3}:Mn b (gE n a0 a1 a2 a3):=by unfold gE;infer_instance
instance {b n a0}:Mn b (kR n a0):=by unfold kR;infer_instance
instance {b n a0}:Mn b (oU n a0):=by unfold oU;infer_instance
instance {b n}:∀{a0 a1 a2 a3 a4},Mn b (fu n a0 a1 a2 a3 a4):=by
 induction n generalizing b with
 |zero=>intros;exact Mn.fail
 |succ n ih=>intros;show Mn b (fX (fu n) n _ _ _ _ _);unfold fX;(try unfold kL);repeat' first|infer_instance|refine Mn.res λ_=>?_|refine Mn.bind ?_ λ_=>?_|refine Mn.ite ?_ ?_
instance {b n a0 a1 a2}:Mn b (jz n a0 a1 a2):=by unfold jz;infer_instance
instance {b n x a0}:Mn b (gJ n x a0):=by unfold gJ;infer_instance
instance {b n}:∀{a0 a1 a2 a3 a4 a5 a6 a7},Mn b (eH n a0 a1 a2 a3 a4 a5 a6 a7):=by
 induction n generalizing b with
 |zero=>intros;exact Mn.fail
 |succ n ih=>intros;show Mn b (fY (eH n) n _ _ _ _ _ _ _ _);unfold fY;(try unfold dB);repeat' first|infer_instance|refine Mn.res λ_=>?_|refine Mn.bind ?_ λ_=>?_|refine Mn.ite ?_ ?_
instance {b n a0 a1 a2 a3 a4 a5}:Mn b (eA n a0 a1 a2 a3 a4 a5):=by unfold eA;infer_instance
instance {b n x a0 a1 a2}:Mn b (n7 n x a0 a1 a2):=by unfold n7;infer_instance
instance {b n x a0 a1 a2}:Mn b (n8 n x a0 a1 a2):=by unfold n8;infer_instance
instance {b n}:∀{a0 a1 a2 a3 a4 a5},Mn b (gD n a0 a1 a2 a3 a4 a5):=by
 induction n generalizing b with
 |zero=>intros;exact Mn.fail
 |succ n ih=>intros;show Mn b (iG (gD n) n _ _ _ _ _ _);unfold iG;(try unfold mZ);repeat' first|infer_instance|refine Mn.res λ_=>?_|refine Mn.bind ?_ λ_=>?_|refine Mn.ite ?_ ?_
instance {b n}:∀{a0 a1 a2 a3 a4 a5},Mn b (iV n a0 a1 a2 a3 a4 a5):=by
 induction n generalizing b with
 |zero=>intros;exact Mn.fail
 |succ n ih=>intros;show Mn b (iF (iV n) n _ _ _ _ _ _);unfold iF;infer_instance
instance {b n x a0 a1 a2}:Mn b (mY n x a0 a1 a2):=by unfold mY;infer_instance
instance {b n a0 a1 a2 a3 a4}:Mn b (mj n a0 a1 a2 a3 a4):=by unfold mj;repeat' first|infer_instance|refine Mn.res λ_=>?_|refine Mn.bind ?_ λ_=>?_|refine Mn.ite ?_ ?_
instance {b n a0 a1 a2 a3 a4}:Mn b (iW n a0 a1 a2 a3 a4):=by unfold iW;infer_instance
instance {b n a0 a1 a2 a3 a4}:Mn b (ml n a0 a1 a2 a3 a4):=by unfold ml;infer_instance
instance {b n a0 a1 a2 a3 a4}:Mn b (eU n a0 a1 a2 a3 a4):=by unfold eU;repeat' first|infer_instance|refine Mn.res λ_=>?_|refine Mn.bind ?_ λ_=>?_|refine Mn.ite ?_ ?_
instance {b n a0 a1 a2 a3 a4}:Mn b (ko n a0 a1 a2 a3 a4):=by unfold ko;repeat' first|infer_instance|refine Mn.res λ_=>?_|refine Mn.bind ?_ λ_=>?_|refine Mn.ite ?_ ?_
instance {b n a0}:Mn b (kQ n a0):=by unfold kQ;repeat' first|infer_instance|refine Mn.res λ_=>?_|refine Mn.bind ?_ λ_=>?_|refine Mn.ite ?_ ?_
instance {b n a0}:Mn b (tE n a0):=by unfold tE;infer_instance
instance {b n a0 a1}:Mn b (kO n a0 a1):=by unfold kO;infer_instance
instance {b n a0}:Mn b (pL n a0):=by unfold pL;infer_instance
instance {b n}:∀{a0 a1 a2 a3},Mn b (gq n a0 a1 a2 a3):=by
 induction n generalizing b with
 |zero=>intros;exact Mn.fail
 |succ n ih=>intros;show Mn b (kp (gq n) n _ _ _ _);unfold kp;infer_instance
instance {b n a0 a1 a2}:Mn b (uh n a0 a1 a2):=by unfold uh;infer_instance
instance {b n a0 a1 a2}:Mn b (tJ n a0 a1 a2):=by unfold tJ;infer_instance
instance {b n}:∀{a0 a1 a2},Mn b (cJ n a0 a1 a2):=by
 induction n generalizing b with
 |zero=>intros;exact Mn.fail
 |succ n ih=>intros;show Mn b (cV (cJ n) n _ _ _);unfold cV;repeat' first|infer_instance|refine Mn.res λ_=>?_|refine Mn.bind ?_ λ_=>?_|refine Mn.ite ?_ ?_|exact Mn.A9
instance {b n a0}:Mn b (dK n a0):=by unfold dK;infer_instance
instance {b n a0}:Mn b (fj n a0):=by unfold fj;repeat' first|infer_instance|refine Mn.res λ_=>?_|refine Mn.bind ?_ λ_=>?_|refine Mn.ite ?_ ?_
instance {b n a0}:Mn b (fR n a0):=by unfold fR;repeat' first|infer_instance|refine Mn.res λ_=>?_|refine Mn.bind ?_ λ_=>?_|refine Mn.ite ?_ ?_
instance {b n}:∀{a0 a1},Mn b (ie n a0 a1):=by
 induction n generalizing b with
 |zero=>intros;exact Mn.fail
 |succ n ih=>intros;show Mn b (mu (ie n) n _ _);unfold mu;infer_instance
instance {b n}:∀{a0 a1 a2},Mn b (ic n a0 a1 a2):=by
 induction n generalizing b with
 |zero=>intros;exact Mn.fail
 |succ n ih=>intros;show Mn b (mr (ic n) n _ _ _);unfold mr;infer_instance
instance {b n a0}:Mn b (qw n a0):=by unfold qw;infer_instance
instance {b n a0}:Mn b (vX n a0):=by unfold vX;infer_instance
instance {b n a0 a1}:Mn b (iU n a0 a1):=by unfold iU;infer_instance
instance {b n a0 a1}:Mn b (eQ n a0 a1):=by unfold eQ;infer_instance
instance {b n a0 a1}:Mn b (cD n a0 a1):=by unfold cD;repeat' first|infer_instance|refine Mn.res λ_=>?_|refine Mn.bind ?_ λ_=>?_|refine Mn.ite ?_ ?_
instance {b n a0}:Mn b (fZ n a0):=by unfold fZ;repeat' first|infer_instance|refine Mn.res λ_=>?_|refine Mn.bind ?_ λ_=>?_|refine Mn.ite ?_ ?_
instance {b n a0 a1 a2}:Mn b (fI n a0 a1 a2):=by unfold fI;repeat' first|infer_instance|refine Mn.res λ_=>?_|refine Mn.bind ?_ λ_=>?_|refine Mn.ite ?_ ?_
instance {b n a0 a1}:Mn b (jJ n a0 a1):=by unfold jJ;infer_instance
instance {b n a0 a1}:Mn b (j7 n a0 a1):=by unfold j7;infer_instance
instance {b n a0}:Mn b (ji n a0):=by unfold ji;infer_instance
instance {b n a0}:Mn b (kq n a0):=by unfold kq;infer_instance
instance {b n a0}:Mn b (pq n a0):=by unfold pq;repeat' first|infer_instance|refine Mn.res λ_=>?_|refine Mn.bind ?_ λ_=>?_|refine Mn.ite ?_ ?_
instance {b n a0}:Mn b (nB n a0):=by unfold nB;infer_instance
instance {b n a0 a1}:Mn b (oV n a0 a1):=by unfold oV;infer_instance
instance {b n a0 a1 a2}:Mn b (qK n a0 a1 a2):=by unfold qK;infer_instance
instance {b n a0 a1}:Mn b (vf n a0 a1):=by unfold vf;infer_instance
instance iL {b n a0 a1}:Mn b (aZ n a0 a1):=by unfold aZ;infer_instance
instance {b n}:∀{a0 a1 a2 a3 a4 a5 a6 a7 a8 a9 a10},Mn b (gO n a0 a1 a2 a3 a4 a5 a6 a7 a8 a9 a10):=by
 induction n generalizing b with
 |zero=>intros;exact Mn.fail
 |succ n ih=>intros;show Mn b (lB (gO n) n _ _ _ _ _ _ _ _ _ _ _);unfold lB;infer_instance
instance {b n}:∀{a0 a1 a2 a3 a4 a5 a6 a7},Mn b (gP n a0 a1 a2 a3 a4 a5 a6 a7):=by
 induction n generalizing b with
 |zero=>intros;exact Mn.fail
 |succ n ih=>intros;show Mn b (gI (gP n) n _ _ _ _ _ _ _ _);unfold gI;infer_instance
instance {b n}:∀{a0 a1 a2 a3 a4},Mn b (gQ n a0 a1 a2 a3 a4):=by
 induction n generalizing b with
 |zero=>intros;exact Mn.fail
 |succ n ih=>intros;show Mn b (lC (gQ n) n _ _ _ _ _);unfold lC;infer_instance
instance {b n a0 a1}:Mn b (jf n a0 a1):=by unfold jf;infer_instance
instance {b n a0}:Mn b (pf n a0):=by unfold pf;infer_instance
theorem lQ:∀n:Nat,(∀b a0 a1 a2 a3 a4 a5,Mn b ((aM.at n).eO a0 a1 a2 a3 a4 a5))/\(∀b a0 a1 a2 a3,Mn b ((aM.at n).eP a0 a1 a2 a3))/\(∀b a0 a1 a2 a3,Mn b ((aM.at n).ef a0 a1 a2 a3))
 |0=>⟨(by intros;exact Mn.fail),(by intros;exact Mn.fail),(by intros;exact Mn.fail)⟩
 |n+1=>
  have H:=lQ n
  ⟨(by intros;have:=H.1;have:=H.2.1;have:=H.2.2;show Mn _ (jx (aM.at n) n _ _ _ _ _ _);unfold jx;(try unfold dX);infer_instance),
  (by intros;have:=H.1;have:=H.2.1;have:=H.2.2;show Mn _ (jy (aM.at n) n _ _ _ _);unfold jy;(try unfold lO dX);(try unfold dX);infer_instance),
  (by intros;have:=H.1;have:=H.2.1;have:=H.2.2;show Mn _ (mI (aM.at n) n _ _ _ _);unfold mI;repeat' first|infer_instance|refine Mn.res λ_=>?_|refine Mn.bind ?_ λ_=>?_|refine Mn.ite ?_ ?_)⟩
instance {b n a0 a1 a2 a3 a4 a5}:Mn b (eO n a0 a1 a2 a3 a4 a5):=(lQ n).1 _ _ _ _ _ _ _
instance {b n a0 a1 a2 a3}:Mn b (eP n a0 a1 a2 a3):=(lQ n).2.1 _ _ _ _ _
instance {b n a0 a1 a2 a3}:Mn b (ef n a0 a1 a2 a3):=(lQ n).2.2 _ _ _ _ _
instance {b n x a0}:Mn b (nU n x a0):=by unfold nU;infer_instance
instance {b n a0 a1 a2}:Mn b (nz n a0 a1 a2):=by unfold nz;infer_instance
instance {b n}:∀{a0 a1 a2},Mn b (kX n a0 a1 a2):=by
 induction n generalizing b with
 |zero=>intros;exact Mn.fail
 |succ n ih=>intros;show Mn b (kj (kX n) n _ _ _);unfold kj;infer_instance
instance {b n a0}:Mn b (tF n a0):=by unfold tF;infer_instance
instance {b n a0}:Mn b (tL n a0):=by unfold tL;repeat' first|infer_instance|refine Mn.res λ_=>?_|refine Mn.bind ?_ λ_=>?_|refine Mn.ite ?_ ?_
instance {b n}:∀{a0 a1 a2 a3 a4},Mn b (jO n a0 a1 a2 a3 a4):=by
 induction n generalizing b with
 |zero=>intros;exact Mn.fail
 |succ n ih=>intros;show Mn b (ov (jO n) n _ _ _ _ _);unfold ov;repeat' first|infer_instance|refine Mn.res λ_=>?_|refine Mn.bind ?_ λ_=>?_|refine Mn.ite ?_ ?_
instance {b n}:∀{a0 a1 a2 a3 a4 a5 a6 a7},Mn b (iQ n a0 a1 a2 a3 a4 a5 a6 a7):=by
 induction n generalizing b with
 |zero=>intros;exact Mn.fail
 |succ n ih=>intros;show Mn b (mN (iQ n) n _ _ _ _ _ _ _ _);unfold mN;infer_instance
instance {b n}:∀{a0 a1 a2 a3 a4 a5 a6},Mn b (iR n a0 a1 a2 a3 a4 a5 a6):=by
 induction n generalizing b with
 |zero=>intros;exact Mn.fail
 |succ n ih=>intros;show Mn b (mO (iR n) n _ _ _ _ _ _ _);unfold mO;infer_instance
instance {b n}:∀{a0 a1 a2 a3},Mn b (iS n a0 a1 a2 a3):=by
 induction n generalizing b with
 |zero=>intros;exact Mn.fail
 |succ n ih=>intros;show Mn b (mP (iS n) n _ _ _ _);unfold mP;infer_instance
instance {b n a0}:Mn b (oQ n a0):=by unfold oQ;repeat' first|infer_instance|refine Mn.res λ_=>?_|refine Mn.bind ?_ λ_=>?_|refine Mn.ite ?_ ?_
instance {b n}:∀{a0 a1 a2 a3 a4 a5 a6 a7},Mn b (iX n a0 a1 a2 a3 a4 a5 a6 a7):=by
 induction n generalizing b with
 |zero=>intros;exact Mn.fail
 |succ n ih=>intros;show Mn b (na (iX n) n _ _ _ _ _ _ _ _);unfold na;infer_instance
instance {b n}:∀{a0 a1 a2 a3 a4},Mn b (iY n a0 a1 a2 a3 a4):=by
 induction n generalizing b with
 |zero=>intros;exact Mn.fail
 |succ n ih=>intros;show Mn b (nf (iY n) n _ _ _ _ _);unfold nf;infer_instance
instance {b n a0}:Mn b (qa n a0):=by unfold qa;infer_instance
instance {b n}:∀{a0 a1 a2 a3 a4},Mn b (jN n a0 a1 a2 a3 a4):=by
 induction n generalizing b with
 |zero=>intros;exact Mn.fail
 |succ n ih=>intros;show Mn b (ou (jN n) n _ _ _ _ _);unfold ou;infer_instance
theorem oD:∀n:Nat,(∀b a0 a1 a2 a3 a4 a5 a6 a7 a8 a9 a10 a11,Mn b ((aT.at n).gp a0 a1 a2 a3 a4 a5 a6 a7 a8 a9 a10 a11))/\(∀b a0 a1 a2 a3 a4 a5,Mn b ((aT.at n).jo a0 a1 a2 a3 a4 a5))/\(∀b a0 a1 a2 a3 a4,Mn b ((aT.at n).fN a0 a1 a2 a3 a4))/\(∀b a0 a1 a2,Mn b ((aT.at n).iA a0 a1 a2))
 |0=>⟨(by intros;exact Mn.fail),(by intros;exact Mn.fail),(by intros;exact Mn.fail),(by intros;exact Mn.fail)⟩
 |n+1=>
  have H:=oD n
  ⟨(by intros;have:=H.1;have:=H.2.1;have:=H.2.2.1;have:=H.2.2.2;show Mn _ (o0 (aT.at n) n _ _ _ _ _ _ _ _ _ _ _ _);unfold o0;repeat' first|infer_instance|refine Mn.res λ_=>?_|refine Mn.bind ?_ λ_=>?_|refine Mn.ite ?_ ?_),
  (by intros;have:=H.1;have:=H.2.1;have:=H.2.2.1;have:=H.2.2.2;show Mn _ (o5 (aT.at n) n _ _ _ _ _ _);unfold o5;infer_instance),
  (by intros;have:=H.1;have:=H.2.1;have:=H.2.2.1;have:=H.2.2.2;show Mn _ (o6 (aT.at n) n _ _ _ _ _);unfold o6;repeat' first|infer_instance|refine Mn.res λ_=>?_|refine Mn.bind ?_ λ_=>?_|refine Mn.ite ?_ ?_),
  (by intros;have:=H.1;have:=H.2.1;have:=H.2.2.1;have:=H.2.2.2;show Mn _ (rX (aT.at n) n _ _ _);unfold rX;(try unfold qI);repeat' first|infer_instance|refine Mn.res λ_=>?_|refine Mn.bind ?_ λ_=>?_|refine Mn.ite ?_ ?_|refine Mn.sum (λ_=>?_) (λ_=>?_) _)⟩
instance {b n a0 a1 a2 a3 a4 a5 a6 a7 a8 a9 a10 a11}:Mn b (gp n a0 a1 a2 a3 a4 a5 a6 a7 a8 a9 a10 a11):=(oD n).1 _ _ _ _ _ _ _ _ _ _ _ _ _
instance {b n a0 a1 a2 a3 a4 a5}:Mn b (jo n a0 a1 a2 a3 a4 a5):=(oD n).2.1 _ _ _ _ _ _ _
instance {b n a0 a1 a2 a3 a4}:Mn b (fN n a0 a1 a2 a3 a4):=(oD n).2.2.1 _ _ _ _ _ _
instance {b n a0 a1 a2}:Mn b (iA n a0 a1 a2):=(oD n).2.2.2 _ _ _ _
instance {b n}:∀{a0 a1 a2 a3 a4 a5 a6 a7 a8 a9 a10 a11 a12},Mn b (jB n a0 a1 a2 a3 a4 a5 a6 a7 a8 a9 a10 a11 a12):=by
 induction n generalizing b with
 |zero=>intros;exact Mn.fail
 |succ n ih=>intros;show Mn b (nV (jB n) n _ _ _ _ _ _ _ _ _ _ _ _ _);unfold nV;infer_instance
instance {b n}:∀{a0 a1 a2 a3 a4 a5 a6 a7},Mn b (iD n a0 a1 a2 a3 a4 a5 a6 a7):=by
 induction n generalizing b with
 |zero=>intros;exact Mn.fail
 |succ n ih=>intros;show Mn b (nW (iD n) n _ _ _ _ _ _ _ _);unfold nW;repeat' first|infer_instance|refine Mn.res λ_=>?_|refine Mn.bind ?_ λ_=>?_|refine Mn.ite ?_ ?_|refine Mn.sum (λ_=>?_) (λ_=>?_) _|exact Mn.um|exact Mn.oM
instance {b n}:∀{a0 a1 a2 a3},Mn b (iE n a0 a1 a2 a3):=by
 induction n generalizing b with
 |zero=>intros;exact Mn.fail
 |succ n ih=>intros;show Mn b (nX (iE n) n _ _ _ _);unfold nX;repeat' first|infer_instance|refine Mn.res λ_=>?_|refine Mn.bind ?_ λ_=>?_|refine Mn.ite ?_ ?_|refine Mn.sum (λ_=>?_) (λ_=>?_) _
instance {b n a0}:Mn b (rr n a0):=by unfold rr;infer_instance
instance {b n}:∀{a0 a1 a2 a3 a4 a5 a6},Mn b (fh n a0 a1 a2 a3 a4 a5 a6):=by
 induction n generalizing b with
 |zero=>intros;exact Mn.fail
 |succ n ih=>intros;show Mn b (jd (fh n) n _ _ _ _ _ _ _);unfold jd;infer_instance
theorem eZ:∀n:Nat,(∀b a0 a1 a2 a3 a4 a5,Mn b ((ao.at n).cZ a0 a1 a2 a3 a4 a5))/\(∀b a0 a1 a2 a3 a4 a5 a6 a7 a8 a9 a10,Mn b ((ao.at n).da a0 a1 a2 a3 a4 a5 a6 a7 a8 a9 a10))/\(∀b a0 a1 a2 a3 a4 a5 a6 a7 a8 a9 a10 a11,Mn b ((ao.at n).db a0 a1 a2 a3 a4 a5 a6 a7 a8 a9 a10 a11))/\(∀b a0 a1 a2 a3 a4 a5 a6 a7 a8 a9,Mn b ((ao.at n).cU a0 a1 a2 a3 a4 a5 a6 a7 a8 a9))/\(∀b a0 a1 a2 a3 a4 a5,Mn b ((ao.at n).cH a0 a1 a2 a3 a4 a5))
 |0=>⟨(by intros;exact Mn.fail),(by intros;exact Mn.fail),(by intros;exact Mn.fail),(by intros;exact Mn.fail),(by intros;exact Mn.fail)⟩
 |n+1=>
  have H:=eZ n
  ⟨(by intros;have:=H.1;have:=H.2.1;have:=H.2.2.1;have:=H.2.2.2.1;have:=H.2.2.2.2;show Mn _ (gT (ao.at n) n _ _ _ _ _ _);unfold gT;repeat' first|infer_instance|refine Mn.res λ_=>?_|refine Mn.bind ?_ λ_=>?_|refine Mn.ite ?_ ?_),
  (by intros;have:=H.1;have:=H.2.1;have:=H.2.2.1;have:=H.2.2.2.1;have:=H.2.2.2.2;show Mn _ (gU (ao.at n) n _ _ _ _ _ _ _ _ _ _ _);unfold gU;(try unfold jq cG);(try unfold cG);infer_instance),
  (by intros;have:=H.1;have:=H.2.1;have:=H.2.2.1;have:=H.2.2.2.1;have:=H.2.2.2.2;show Mn _ (gV (ao.at n) n _ _ _ _ _ _ _ _ _ _ _ _);unfold gV;(try unfold cG);infer_instance),
  (by intros;have:=H.1;have:=H.2.1;have:=H.2.2.1;have:=H.2.2.2.1;have:=H.2.2.2.2;show Mn _ (jA (ao.at n) n _ _ _ _ _ _ _ _ _ _);unfold jA;repeat' first|infer_instance|refine Mn.res λ_=>?_|refine Mn.bind ?_ λ_=>?_|refine Mn.ite ?_ ?_),
  (by intros;have:=H.1;have:=H.2.1;have:=H.2.2.1;have:=H.2.2.2.1;have:=H.2.2.2.2;show Mn _ (iC (ao.at n) n _ _ _ _ _ _);unfold iC;(try unfold iB);repeat' first|infer_instance|refine Mn.res λ_=>?_|refine Mn.bind ?_ λ_=>?_|refine Mn.ite ?_ ?_)⟩
instance {b n a0 a1 a2 a3 a4 a5}:Mn b (cZ n a0 a1 a2 a3 a4 a5):=(eZ n).1 _ _ _ _ _ _ _
instance {b n a0 a1 a2 a3 a4 a5 a6 a7 a8 a9 a10}:Mn b (da n a0 a1 a2 a3 a4 a5 a6 a7 a8 a9 a10):=(eZ n).2.1 _ _ _ _ _ _ _ _ _ _ _ _
instance {b n a0 a1 a2 a3 a4 a5 a6 a7 a8 a9 a10 a11}:Mn b (db n a0 a1 a2 a3 a4 a5 a6 a7 a8 a9 a10 a11):=(eZ n).2.2.1 _ _ _ _ _ _ _ _ _ _ _ _ _
instance {b n a0 a1 a2 a3 a4 a5 a6 a7 a8 a9}:Mn b (cU n a0 a1 a2 a3 a4 a5 a6 a7 a8 a9):=(eZ n).2.2.2.1 _ _ _ _ _ _ _ _ _ _ _
instance {b n a0 a1 a2 a3 a4 a5}:Mn b (cH n a0 a1 a2 a3 a4 a5):=(eZ n).2.2.2.2 _ _ _ _ _ _ _
instance {b n x a0}:Mn b (jC n x a0):=by unfold jC;infer_instance
instance {b n a0}:Mn b (lr n a0):=by unfold lr;repeat' first|infer_instance|refine Mn.res λ_=>?_|refine Mn.bind ?_ λ_=>?_|refine Mn.ite ?_ ?_
instance {b n}:∀{a0 a1 a2 a3 a4 a5 a6 a7 a8},Mn b (jI n a0 a1 a2 a3 a4 a5 a6 a7 a8):=by
 induction n generalizing b with
 |zero=>intros;exact Mn.fail
 |succ n ih=>intros;show Mn b (oi (jI n) n _ _ _ _ _ _ _ _ _);unfold oi;infer_instance
instance {b n}:∀{a0 a1 a2 a3 a4 a5 a6 a7 a8 a9 a10 a11 a12 a13 a14 a15 a16 a17},Mn b (jE n a0 a1 a2 a3 a4 a5 a6 a7 a8 a9 a10 a11 a12 a13 a14 a15 a16 a17):=by
 induction n generalizing b with
 |zero=>intros;exact Mn.fail
 |succ n ih=>intros;show Mn b (od (jE n) n _ _ _ _ _ _ _ _ _ _ _ _ _ _ _ _ _ _);unfold od;repeat' first|infer_instance|refine Mn.res λ_=>?_|refine Mn.bind ?_ λ_=>?_|refine Mn.ite ?_ ?_
instance {b n}:∀{a0 a1 a2 a3 a4 a5 a6 a7 a8 a9 a10 a11 a12 a13 a14},Mn b (jF n a0 a1 a2 a3 a4 a5 a6 a7 a8 a9 a10 a11 a12 a13 a14):=by
 induction n generalizing b with
 |zero=>intros;exact Mn.fail
 |succ n ih=>intros;show Mn b (jh (jF n) n _ _ _ _ _ _ _ _ _ _ _ _ _ _ _);unfold jh;infer_instance
instance {b n}:∀{a0 a1 a2 a3 a4 a5 a6 a7 a8 a9 a10 a11},Mn b (jG n a0 a1 a2 a3 a4 a5 a6 a7 a8 a9 a10 a11):=by
 induction n generalizing b with
 |zero=>intros;exact Mn.fail
 |succ n ih=>intros;show Mn b (oe (jG n) n _ _ _ _ _ _ _ _ _ _ _ _);unfold oe;repeat' first|infer_instance|refine Mn.res λ_=>?_|refine Mn.bind ?_ λ_=>?_|refine Mn.ite ?_ ?_
instance {b n}:∀{a0 a1 a2 a3 a4 a5 a6 a7},Mn b (jH n a0 a1 a2 a3 a4 a5 a6 a7):=by
 induction n generalizing b with
 |zero=>intros;exact Mn.fail
 |succ n ih=>intros;show Mn b (oh (jH n) n _ _ _ _ _ _ _ _);unfold oh;repeat' first|infer_instance|refine Mn.res λ_=>?_|refine Mn.bind ?_ λ_=>?_|refine Mn.ite ?_ ?_
instance {b n a0}:Mn b (pN n a0):=by unfold pN;repeat' first|infer_instance|refine Mn.res λ_=>?_|refine Mn.bind ?_ λ_=>?_|refine Mn.ite ?_ ?_
instance {b n a0}:Mn b (pP n a0):=by unfold pP;repeat' first|infer_instance|refine Mn.res λ_=>?_|refine Mn.bind ?_ λ_=>?_|refine Mn.ite ?_ ?_|refine Mn.sum (λ_=>?_) (λ_=>?_) _
instance {b n a0}:Mn b (dZ n a0):=by unfold dZ;infer_instance
instance {b n}:∀{a0 a1 a2 a3 a4 a5},Mn b (sD n a0 a1 a2 a3 a4 a5):=by
 induction n generalizing b with
 |zero=>intros;exact Mn.fail
 |succ n ih=>intros;show Mn b (wc (sD n) n _ _ _ _ _ _);unfold wc;repeat' first|infer_instance|refine Mn.res λ_=>?_|refine Mn.bind ?_ λ_=>?_|refine Mn.ite ?_ ?_
instance {b n}:∀{a0 a1 a2},Mn b (o7 n a0 a1 a2):=by
 induction n generalizing b with
 |zero=>intros;exact Mn.fail
 |succ n ih=>intros;show Mn b (sk (o7 n) n _ _ _);unfold sk;infer_instance
instance {b n a0}:Mn b (vc n a0):=by unfold vc;infer_instance
instance {b n}:∀{a0 a1 a2 a3},Mn b (nT n a0 a1 a2 a3):=by
 induction n generalizing b with
 |zero=>intros;exact Mn.fail
 |succ n ih=>intros;show Mn b (qR (nT n) n _ _ _ _);unfold qR;infer_instance
instance {b n a0 a1}:Mn b (qu n a0 a1):=by unfold qu;infer_instance
instance {b n}:∀{a0 a1 a2 a3 a4 a5},Mn b (mX n a0 a1 a2 a3 a4 a5):=by
 induction n generalizing b with
 |zero=>intros;exact Mn.fail
 |succ n ih=>intros;show Mn b (qg (mX n) n _ _ _ _ _ _);unfold qg;repeat' first|infer_instance|refine Mn.res λ_=>?_|refine Mn.bind ?_ λ_=>?_|refine Mn.ite ?_ ?_
instance {b n a0 a1}:Mn b (nZ n a0 a1):=by unfold nZ;infer_instance
instance {b n}:∀{a0 a1 a2 a3 a4},Mn b (sC n a0 a1 a2 a3 a4):=by
 induction n generalizing b with
 |zero=>intros;exact Mn.fail
 |succ n ih=>intros;show Mn b (wb (sC n) n _ _ _ _ _);unfold wb;repeat' first|infer_instance|refine Mn.res λ_=>?_|refine Mn.bind ?_ λ_=>?_|refine Mn.ite ?_ ?_|refine Mn.sum (λ_=>?_) (λ_=>?_) _
instance {b n a0}:Mn b (qz n a0):=by unfold qz;repeat' first|infer_instance|refine Mn.res λ_=>?_|refine Mn.bind ?_ λ_=>?_|refine Mn.ite ?_ ?_
instance LQ {b n a0 a1}:Mn b (xx n a0 a1):=by unfold xx;repeat' first|infer_instance|refine Mn.res λ_=>?_|refine Mn.bind ?_ λ_=>?_|refine Mn.ite ?_ ?_|refine Mn.sum (λ_=>?_) (λ_=>?_) _
instance {b n}:∀{a0 a1 a2 a3 a4 a5},Mn b (qC n a0 a1 a2 a3 a4 a5):=by
 induction n generalizing b with
 |zero=>intros;exact Mn.fail
 |succ n ih=>intros;show Mn b (uO (qC n) n _ _ _ _ _ _);unfold uO;repeat' first|infer_instance|refine Mn.res λ_=>?_|refine Mn.bind ?_ λ_=>?_|refine Mn.ite ?_ ?_
instance {b n}:∀{a0 a1 a2 a3 a4},Mn b (qB n a0 a1 a2 a3 a4):=by
 induction n generalizing b with
 |zero=>intros;exact Mn.fail
 |succ n ih=>intros;show Mn b (uN (qB n) n _ _ _ _ _);unfold uN;repeat' first|infer_instance|refine Mn.res λ_=>?_|refine Mn.bind ?_ λ_=>?_|refine Mn.ite ?_ ?_
instance Ib {b n a0}:Mn b (wa n a0):=by unfold wa;infer_instance
end Go.Sh
