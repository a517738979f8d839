
import Derived.Test.YtpojbnjkkkiccaaGreatDoorPad
set_option linter.all false
namespace Go.Sh
open Go Go.Ago Go.Proofs
section
variable {α β:Type}
abbrev cl (n:Nat):af:=af.at n
abbrev alf (n:Nat)(x:ξ)(a b:Int):M Int:=ay (cl n) n x a b
structure Cx where
 h0:ai
 b:Nat
 m:Nat
 x:ξ
 k:Nat
 T:List aZ->Prop
def Cx.St (c:Cx)(P:List aZ)(h:ai)(l:ε):Prop:=∃L,c.T L/\Z c.h0 h (.ar c.b (l.map vi) al::(P++L))
def Cx.OK (cv:Int->Int->Int)(c:Cx):Prop:=∀(n:Nat) (u v:Int) (h:ai) (R L:List aZ),c.k<=n->0<=u->u<(c.m:Int)->0<=v->v<(c.m:Int)->c.T L->Z c.h0 h (R++L) ->
 Wp (alf n c.x u v) h λr h'=>r=cv u v/\∃L',c.T L'/\Z c.h0 h' (R++L')
def SP (cv:Int->Int->Int)(m k:Nat)(f:Cx->Nat->Nat->M α)(l:ε)(W:Nat->List aZ)(R:α->ε->(Nat->List aZ)->Prop):Prop:=
 ∃y l' W',R y l' W'/\∀(c:Cx) (P:List aZ) (h:ai) (q n:Nat),c.m=m->c.OK cv->c.k+k<=n->c.St (W q++P) h l->Wp (f c q n) h λz h'=>z=y/\c.St (W' q++P) h' l'
def Good (m:Nat)(l:ε):Prop:=l.length=m/\∀v∈l,0<=v/\v<(m:Int)
def Good.perm {m}{l l'}(hl:Good m l)(hp:l'.Perm l):Good m l':=⟨hp.length_eq.trans hl.1,λv hv=>hl.2 v (hp.mem_iff.1 hv)⟩
def qL (l:ε)(i:Int):Int:=(l[i.toNat]?).getD 0
theorem tS {m}{l}(hl:Good m l){i:Int}(h1:0<=i)(h2:i<m):l[i.toNat]?=some (qL l i)/\0<=qL l i/\qL l i<m:=by
 obtain⟨v,hv⟩:=eC (l:=l) (i:=i.toNat) (by have:=hl.1;omega);have:qL l i=v:=by grind [qL]
 rw[this];exact⟨hv,hl.2 v (IN hv)⟩
def swp (l:ε)(i j:Int):ε:=(l.set j.toNat (qL l i)).set i.toNat (qL l j)
theorem abL {m}{l}(hl:Good m l){i j:Int}(h1:0<=i)(h2:i<m)(h3:0<=j)(h4:j<m):(swp l i j).Perm l:=by
 have hi:=(tS hl h1 h2).1;have hj:=(tS hl h3 h4).1
 grind [aJ,qL,swp,List.set_set_perm]
section
variable {cv:Int->Int->Int}{m k:Nat}{l:ε}{W:Nat->List aZ}
def SP.pure {y:α}{R}(h:R y l W):SP cv m k (λ_ _ _=>AI y) l W R:=⟨y,l,W,h,λc P h q n _ _ _ st=>ag.2 ⟨rfl,st⟩⟩
def SP.bind {f}{g:Cx->Nat->Nat->α->M β}{R1}{R2}(hf:SP cv m k f l W R1)
  (hg:∀y l' W',R1 y l' W'->SP cv m k (λc q n=>g c q n y) l' W' R2):SP cv m k (λc q n=>sh (f c q n) (g c q n)) l W R2:=by
 obtain⟨y,l',W',r,hx⟩:=hf;obtain⟨z,l2,W2,r2,hy⟩:=hg y l' W' r;refine⟨z,l2,W2,r2,λc P h q n h1 h2 h3 st=>?_⟩;rw[ah];exact (hx c P h q n h1 h2 h3 st).mono λu h' ⟨e,st'⟩=>by subst e;exact hy c P h' q n h1 h2 h3 st'
def SP.mono {k'}{f:Cx->Nat->Nat->M α}{R}(hk:k<=k')(hs:SP cv m k f l W R):SP cv m k' f l W R:=by
 obtain⟨y,l',W',r,hx⟩:=hs;exact⟨y,l',W',r,λc P h q n h1 h2 h3 st=>hx c P h q n h1 h2 (by omega) st⟩
def SP.post {f:Cx->Nat->Nat->M α}{R R'}(hs:SP cv m k f l W R)(hr:∀y l' W',R y l' W'->R' y l' W'):SP cv m k f l W R':=by
 obtain⟨y,l',W',r,hx⟩:=hs;exact⟨y,l',W',hr _ _ _ r,hx⟩
def SP.succ {F B:Cx->Nat->Nat->M α}{R}(hF:∀c q n,F c q (n+1)=B c q n)(hs:SP cv m k B l W R):SP cv m (k+1) F l W R:=by
 obtain⟨y,l',W',r,hx⟩:=hs;refine⟨y,l',W',r,λc P h q n h1 h2 h3 st=>?_⟩;obtain⟨n,rfl⟩:∃n',n=n'+1:=⟨n-1,by omega⟩;rw[hF];exact hx c P h q n h1 h2 (by omega) st
variable {R:β->ε->(Nat->List aZ)->Prop}
def SP.QD {p}[Decidable p]{a b:Cx->Nat->Nat->M β}(hp:p)(hs:SP cv m k a l W R):SP cv m k (λc q n=>if p then a c q n else b c q n) l W R:=by
 simp_all
def SP.Gl {p}[Decidable p]{a b:Cx->Nat->Nat->M β}(hp:¬p)(hs:SP cv m k b l W R):SP cv m k (λc q n=>if p then a c q n else b c q n) l W R:=by
 simp_all
def SP.ite {p}[Decidable p]{a b}(ha:p->SP cv m k a l W R)(hb:¬p->SP cv m k b l W R):SP cv m k (λc q n=>if p then a c q n else b c q n) l W R:=by
 by_cases hp:p
 .simp_all
 simp_all
def SP.wp {f:Cx->Nat->Nat->M α}{g:Cx->Nat->Nat->α->M β}{v:Cx->Nat->α}{l2}{W2}(hf:∀(c:Cx) P h q n,c.m=m->c.OK cv->c.k+k<=n->c.St (W q++P) h l->Wp (f c q n) h λz h'=>z=v c q/\c.St (W2 q++P) h' l2)
  (hg:SP cv m k (λc q n=>g c q n (v c q)) l2 W2 R):SP cv m k (λc q n=>sh (f c q n) (g c q n)) l W R:=by
 obtain⟨z,l3,W3,r2,hy⟩:=hg;refine⟨z,l3,W3,r2,λc P h q n h1 h2 h3 st=>?_⟩;rw[ah];exact (hf c P h q n h1 h2 h3 st).mono λu h' ⟨e,st'⟩=>by subst e;exact hy c P h' q n h1 h2 h3 st'
def SP.ix {i}{g:Cx->Nat->Nat->Addr->M β}(h1:0<=i)(h2:i<(m:Int))(hg:SP cv m k (λc q n=>g c q n ⟨c.b,i.toNat,none⟩) l W R):SP cv m k (λc q n=>sh (mz (arr c.b m) i 1) (g c q n)) l W R:=
 SP.wp (v:=λc _=>⟨c.b,i.toNat,none⟩) (λc P h q n _ _ _ st=>by
  have:=E7 (m:=m) (Q:=λ(z:Addr) h'=>z=⟨c.b,i.toNat,none⟩/\c.St (W q++P) h' l) h1 (by omega) (ag.2 ⟨rfl,st⟩);rw[ah] at this;exact this.mono λa h' x=>ag.1 x) hg
def SP.ld {i}{v}{g:Cx->Nat->Nat->Int->M β}(hv:l[i]?=some v)(hg:SP cv m k (λc q n=>g c q n v) l W R):SP cv m k (λc q n=>sh (dL li ⟨c.b,i,none⟩) (g c q n)) l W R:=
 SP.wp (v:=λ_ _=>v) (λc P h q n _ _ _ st=>by
  obtain⟨L,h1,z⟩:=st;rw[yH];exact⟨v,LB.ld (z.get 0 rfl) (by rw[abh,hv];rfl) rfl,rfl,L,h1,z⟩) hg
def SP.st {i}{v}{g:Cx->Nat->Nat->Unit->M β}(hi:i<l.length)(hg:SP cv m k (λc q n=>g c q n ()) (l.set i v) W R):SP cv m k (λc q n=>sh (rN ⟨c.b,i,none⟩ [vi v]) (g c q n)) l W R:=
 SP.wp (v:=λ_ _=>()) (λc P h q n _ _ _ st=>by
  obtain⟨L,h1,z⟩:=st;have:=z.DV 0 (Q:=λ(_:Unit) h'=>()=()/\c.St (W q++P) h' (l.set i v)) hi (λh' z=>ag.2 ⟨rfl,L,h1,z⟩);rw[ah] at this;exact this.mono λa h' x=>ag.1 x) hg
theorem SP.cmp {u v}{g:Cx->Nat->Nat->Int->M β}(h1:0<=u/\u<(m:Int))(h2:0<=v/\v<(m:Int))(hg:SP cv m k (λc q n=>g c q n (cv u v)) l W R):SP cv m k (λc q n=>sh (alf n c.x u v) (g c q n)) l W R:=
 SP.wp (v:=λ_ _=>cv u v) (λc P h q n hm hc hk st=>by
  obtain⟨L,h3,z⟩:=st;have:=hc n u v h (.ar c.b (l.map vi) al::(W q++P)) L (by omega) h1.1 (by grind) h2.1 (by grind) h3 (by grind);exact this.mono λr h' ⟨e,L',h4,z⟩=>⟨e,L',h4,by grind⟩) hg
def SP.ck {b}{g:Cx->Nat->Nat->Unit->M β}(hb:b=true)(hg:SP cv m k (λc q n=>g c q n ()) l W R):SP cv m k (λc q n=>sh (pD b) (g c q n)) l W R:=
 SP.wp (v:=λ_ _=>()) (λc P h q n _ _ _ st=>Zf.2 ⟨hb,rfl,st⟩) hg
theorem SP.nn {a:Cx->Nat->Addr}{g:Cx->Nat->Nat->Addr->M β}(hg:SP cv m k (λc q n=>g c q n (a c q)) l W R):SP cv m k (λc q n=>sh (Ago.nn (some (a c q))) (g c q n)) l W R:=
 SP.wp (v:=a) (λc P h q n _ _ _ st=>rQ.2 ⟨rfl,st⟩) hg
def SP.swap {i j}{g:Cx->Nat->Nat->Unit->M β}(hl:Good m l)(h1:0<=i)(h2:i<(m:Int))(h3:0<=j)(h4:j<(m:Int))(hg:SP cv m k (λc q n=>g c q n ()) (swp l i j) W R) :
  SP cv m k (λc q n=>sh (mz (arr c.b m) i 1) λx0=>sh (mz (arr c.b m) j 1) λx1=>sh (dL li x0) λ(x2:Int)=>sh (dL li x1) λ(x3:Int)=>
   sh (mz (arr c.b m) j 1) λx4=>sh (rN x4 [vi x2]) λ_=>sh (mz (arr c.b m) i 1) λx6=>sh (rN x6 [vi x3]) (g c q n)) l W R:=
 .ix h1 h2 (.ix h3 h4 (.ld (tS hl h1 h2).1 (.ld (tS hl h3 h4).1 (.ix h3 h4 (.st (by have:=hl.1;omega) (.ix h1 h2 (.st (by rw[ah8];have:=hl.1;omega) hg)))))))
def SP.rc {i j}{g:Cx->Nat->Nat->Int->M β}(hl:Good m l)(h1:0<=i)(h2:i<(m:Int))(h3:0<=j)(h4:j<(m:Int))(hg:SP cv m k (λc q n=>g c q n (cv (qL l i) (qL l j))) l W R) :
  SP cv m k (λc q n=>sh (mz (arr c.b m) i 1) λx0=>sh (mz (arr c.b m) j 1) λx1=>sh (dL li x0) λ(x2:Int)=>sh (dL li x1) λ(x3:Int)=>sh (alf n c.x x2 x3) (g c q n)) l W R:=
 .ix h1 h2 (.ix h3 h4 (.ld (tS hl h1 h2).1 (.ld (tS hl h3 h4).1 (.cmp (tS hl h1 h2).2 (tS hl h3 h4).2 hg))))
theorem SP.new {t}{v}{g:Cx->Nat->Nat->M β}(hs:fk v=true)(hg:SP cv m k (λc q n=>g c n q) l (λq=>[.ar q [v] t]) λy l' _=>R y l' λ_=>[]):SP cv m k (λc _ n=>sh (iI none t [v]) (g c n)) l (λ_=>[]) R:=by
 obtain⟨y,l',W',r,hx⟩:=hg;refine⟨y,l',_,r,λc P h q n h1 h2 h3 st=>?_⟩;obtain⟨L,h4,z⟩:=st;refine z.new (λb h' z _=>?_) (by simp[hs]);refine (hx c P h' b n h1 h2 h3 ⟨L,h4,z.perm (List.Perm.swap ..)⟩).mono λu h2 ⟨e,L',h5,z⟩=>⟨e,L',h5,z.sub ?_⟩
 grind
def SP.qld {t}{v}{lf}{x}{g:Cx->Nat->Nat->lf.den->M β}(hx:D6 lf v=some x)(hg:SP cv m k (λc q n=>g c q n x) l (λq=>[.ar q [v] t]) R) :
  SP cv m k (λc q n=>sh (dL lf ⟨q,0,none⟩) (g c q n)) l (λq=>[.ar q [v] t]) R:=
 SP.wp (v:=λ_ _=>x) (λc P h q n _ _ _ st=>by
  obtain⟨L,h1,z⟩:=st;rw[yH];exact⟨x,LB.ld (z.get 1 rfl) rfl hx,rfl,L,h1,z⟩) hg
def SP.qst {t}{v v'}{g:Cx->Nat->Nat->Unit->M β}(hs:fk v'=true)(hg:SP cv m k (λc q n=>g c q n ()) l (λq=>[.ar q [v'] t]) R) :
  SP cv m k (λc q n=>sh (rN ⟨q,0,none⟩ [v']) (g c q n)) l (λq=>[.ar q [v] t]) R:=
 SP.wp (v:=λ_ _=>()) (W2:=λq=>[.ar q [v'] t]) (λc P h q n _ _ _ st=>by
  obtain⟨L,h1,z⟩:=st;have:=z.st 1 (o:=0) (vs:=[v']) (Q:=λ(_:Unit) h'=>()=()/\c.St ([aZ.ar q [v'] t]++P) h' l) (λh' z=>ag.2 ⟨rfl,L,h1,z⟩) (hs:=by simp[hs]);rw[ah] at this;exact this.mono λa h' x=>ag.1 x) hg
end
theorem eD {x}(h:-4611686018427387904<=x/\x<=4611686018427387904):IntKind.i64.wrap x=x:=xQ (by omega) (by omega)
section
variable {cv:Int->Int->Int}{m:Nat}{W:Nat->List aZ}
end
end
section
variable {α:Type}{cv:Int->Int->Int}{m:Nat}{a b:Int}{l l' l2:ε}
theorem afy {l}{i k}{v}(hi:0<=i)(hi2:i<(l.length:Int))(hk:0<=k):qL (l.set i.toNat v) k=if k=i then v else qL l k:=by
 grind [qL]
theorem AB (hl:Good m l){i j k:Int}(h1:0<=i)(h2:i<m)(h3:0<=j)(h4:j<m)(hk:0<=k):qL (swp l i j) k=if k=i then qL l j else if k=j then qL l i else qL l k:=by
 have:=hl.1
 grind [swp,afy,List.length_set]
structure Bp (m:Nat) (a b:Int) (l l':ε):Prop where
 pm:l'.Perm l
 out:∀i:Int,0<=i->i<(m:Int)->i<a\/b<=i->qL l' i=qL l i
 X5:∀i:Int,a<=i->i<b->∃j,a<=j/\j<b/\qL l' i=qL l j
def Bp.refl:Bp m a b l l:=⟨.refl _,λ_ _ _ _=>rfl,λi h1 h2=>⟨i,h1,h2,rfl⟩⟩
theorem Bp.trans (h:Bp m a b l l')(k:Bp m a b l' l2):Bp m a b l l2:=⟨k.pm.trans h.pm,λi h0 h1 h2=>(k.out i h0 h1 h2).trans (h.out i h0 h1 h2),λi h1 h2=>by
 obtain⟨j,j1,j2,e⟩:=k.X5 i h1 h2;obtain⟨j',j3,j4,e'⟩:=h.X5 j j1 j2
 grind⟩
theorem Bp.wide {a' b'}(h:Bp m a' b' l l')(h0:0<=a)(ha:a<=a')(hb:b'<=b)(hm:b<=m):Bp m a b l l':=⟨h.pm,λi h1 h2 h3=>h.out i h1 h2 (by omega),λi h1 h2=>by
 by_cases c:a'<=i/\i<b'
 .obtain⟨j,j1,j2,e⟩:=h.X5 i c.1 c.2
  grind
 .exact⟨i,h1,h2,h.out i (by omega) (by omega) (by omega)⟩⟩
theorem Bp.swp (hl:Good m l)(h0:0<=a)(hm:b<=m){i j}(h1:a<=i)(h2:i<b)(h3:a<=j)(h4:j<b):Bp m a b l (swp l i j):=by
 have e:∀k,0<=k->qL (Sh.swp l i j) k=if k=i then qL l j else if k=j then qL l i else qL l k:=λk hk=>AB hl (by omega) (by omega) (by omega) (by omega) hk;refine⟨abL hl (by omega) (by omega) (by omega) (by omega),λk k1 k2 k3=>?_,λk k1 k2=>?_⟩
 .grind
 grind
structure LO (cv:Int->Int->Int) (l:ε):Prop where
 tr:∀u∈l,∀v∈l,∀w∈l,cv u v<0->cv v w<0->cv u w<0
 ir:∀u∈l,¬cv u u<0
 tot:∀u∈l,∀v∈l,u≠v->cv u v<0\/cv v u<0
 nd:l.Nodup
def LO.perm (o:LO cv l)(h:l'.Perm l):LO cv l':=⟨λu hu v hv w hw=>o.tr u (h.mem_iff.1 hu) v (h.mem_iff.1 hv) w (h.mem_iff.1 hw),λu hu=>o.ir u (h.mem_iff.1 hu),λu hu v hv=>o.tot u (h.mem_iff.1 hu) v (h.mem_iff.1 hv),h.nodup_iff.2 o.nd⟩
abbrev Lt (cv:Int->Int->Int)(l:ε)(i j:Int):Prop:=cv (qL l i) (qL l j)<0
section
variable (o:LO cv l)(hl:Good m l)
include o hl
theorem LO.mem {i:Int}(h1:0<=i)(h2:i<m):qL l i∈l:=IN (tS hl h1 h2).1
theorem LO.trans {i j k:Int}(h1:0<=i/\i<m)(h2:0<=j/\j<m)(h3:0<=k/\k<m)(p:Lt cv l i j)(q:Lt cv l j k):Lt cv l i k:=
 o.tr _ (o.mem hl h1.1 h1.2) _ (o.mem hl h2.1 h2.2) _ (o.mem hl h3.1 h3.2) p q
theorem LO.nlt {i j:Int}(h1:0<=i/\i<m)(h2:0<=j/\j<m)(hne:i≠j)(p:¬Lt cv l j i):Lt cv l i j:=by
 refine (o.tot _ (o.mem hl h1.1 h1.2) _ (o.mem hl h2.1 h2.2) λe=>?_).resolve_right p;have e1:=(tS hl h1.1 h1.2).1;have e2:=(tS hl h2.1 h2.2).1;rw[e] at e1;obtain⟨q1,q2⟩:=List.getElem?_eq_some_iff.1 e1;obtain⟨q3,q4⟩:=List.getElem?_eq_some_iff.1 e2;have pw:=List.pairwise_iff_getElem.1 o.nd
 grind
end
def MG (cv:Int->Int->Int)(a b:Int)(l:ε):Prop:=∀i j,a<=i->i<j->j<b->Lt cv l i j
abbrev PS (cv:Int->Int->Int)(m:Nat)(a b:Int)(l:ε)(W:Nat->List aZ)(S:α->ε->Prop):α->ε->(Nat->List aZ)->Prop:=λy l' W'=>Bp m a b l l'/\W'=W/\(LO cv l->S y l')
end
section
variable {cv:Int->Int->Int}{m:Nat}{W:Nat->List aZ}
def SP.body {α}{k k'}{l}{F B:Cx->Nat->Nat->M α}{R}(hF:∀c q n,F c q (n+1)=B c q n)(hk:k'+1<=k)(hs:SP cv m k' B l W R):SP cv m k F l W R:=(SP.succ hF hs).mono hk
def Ins (cv:Int->Int->Int)(a i j:Int)(l:ε):Prop:=(∀p q,a<=p->p<q->q<=i->p≠j->q≠j->Lt cv l p q)/\∀q,j<q->q<=i->Lt cv l j q
theorem abM {a b i:Int}(ha:0<=a)(him:i<m)(hm:m<50):∀d l j ,Good m l->a<=j->j<=i->(j-a).toNat<=d->(LO cv l->Ins cv a i j l)->SP cv m (d+1) (λc _ n=>(cl n).bQ (arr c.b m) a b c.x i j) l W (PS cv m a (i+1) l W λ_ l'=>MG cv a (i+1) l'):=by
 intro d
 induction d with
 |zero=>
  intro l j hl h0 h9 h1 hI;refine .succ (B:=λc _ n=>cn (cl n) n (arr c.b m) a b c.x i j) (λ_ _ _=>rfl) ?_;unfold cn;refine .Gl (by grind) (.pure ⟨.refl,rfl,λo p q p1 p2 p3=>?_⟩);obtain⟨i1,i2⟩:=hI o
  grind
 |succ d ih=>
  intro l j hl h0 h9 h1 hI;refine .succ (B:=λc _ n=>cn (cl n) n (arr c.b m) a b c.x i j) (λ_ _ _=>rfl) ?_;unfold cn;refine .ite (λhp=>?_) λhp=>.pure ⟨.refl,rfl,λo p q p1 p2 p3=>?_⟩
  rotate_left
  .obtain⟨i1,i2⟩:=hI o
   grind
  have hp:a<j:=by grind
  simp only[eD (x:=j-1) (by omega)];refine .rc hl (by omega) (by omega) (by omega) (by omega) (.ite (λhlt=>?_) λhlt=>.pure ⟨.refl,rfl,λo p q p1 p2 p3=>?_⟩)
  rotate_left
  .obtain⟨i1,i2⟩:=hI o;have hlt:¬Lt cv l j (j-1):=by grind
   have hj:=o.nlt hl (by omega) (by omega) (by omega) hlt;by_cases hpj:p=j
   .grind
   by_cases hqj:q=j
   .subst hqj;by_cases hp1:p=q-1
    .grind
    .exact o.trans hl (by omega) (by omega) (by omega) (i1 p (q-1) p1 (by omega) (by omega) (by omega) (by omega)) hj
   grind
  have hlt:Lt cv l j (j-1):=by grind
  unfold eU;simp[eD (x:=j-1) (by omega)];have hin:Bp m a (i+1) l (swp l (j-1) j):=.swp hl ha (by omega) (by omega) (by omega) (by omega) (by omega);have hl':=hl.perm hin.pm;have e:∀k,0<=k->qL (swp l (j-1) j) k=if k=j-1 then qL l j else if k=j then qL l (j-1) else qL l k:=λk hk=>AB hl (by omega) (by omega) (by omega) (by omega) hk;refine .swap hl (by omega) (by omega) (by omega) (by omega) ?_;refine (ih _ (j-1) hl' (by omega) (by omega) (by omega) λo'=>?_).post λ_ _ _ hr=>⟨hin.trans hr.1,hr.2.1,λo=>hr.2.2 (o.perm hin.pm)⟩;obtain⟨i1,i2⟩:=hI (o'.perm hin.pm.symm);refine⟨λp q p1 p2 p3 p4 p5=>?_,λq q1 q2=>?_⟩
  .grind
  grind
theorem abN {a b:Int}(ha:0<=a)(hb:b<=m)(hm:m<50):∀d l i ,Good m l->a<=i->(b-i).toNat<=d->(LO cv l->MG cv a (min i b) l)->SP cv m (d+60) (λc _ n=>(cl n).bR (arr c.b m) a b c.x i) l W (PS cv m a b l W λ_ l'=>MG cv a b l'):=by
 intro d
 induction d with
 |zero=>
  intro l i hl h0 h1 hs;refine .body (k':=10) (B:=λc _ n=>cq (cl n) n (arr c.b m) a b c.x i) (λ_ _ _=>rfl) (by omega) ?_;unfold cq;exact .Gl (by grind) (.pure ⟨.refl,rfl,λo=>by grind⟩)
 |succ d ih=>
  intro l i hl h0 h1 hs;refine .body (k':=d+60) (B:=λc _ n=>cq (cl n) n (arr c.b m) a b c.x i) (λ_ _ _=>rfl) (by omega) ?_;unfold cq;refine .ite (λhp=>?_) λhp=>.pure ⟨.refl,rfl,λo=>by grind⟩;have hp:i<b:=by grind
  simp[eD (x:=i+1) (by omega)];refine .bind ((abM (i:=i) ha (by omega) hm (i-a).toNat l i hl h0 (by omega) (abi _) λo=>?_).mono (by omega)) λ_ l' W' hr=>?_
  .have:=hs o;rw[show min i b=i by omega] at this;exact⟨λp q p1 p2 p3 p4 p5=>this p q p1 p2 (by omega),λq q1 q2=>by omega⟩
  obtain⟨hp',rfl,ho⟩:=hr;have hin:Bp m a b l l':=hp'.wide ha (by omega) (by omega) hb;refine (ih l' (i+1) (hl.perm hp'.pm) (by omega) (by omega) λo=>?_).post λ_ _ _ hr=>⟨hin.trans hr.1,hr.2.1,λo=>hr.2.2 (o.perm hin.pm)⟩;rw[show min (i+1) b=i+1 by omega];exact ho (o.perm hin.pm.symm)
def abO {a b:Int}{l}(hl:Good m l)(ha:0<=a)(hab:a<=b)(hb:b<=m)(hm:m<50):SP cv m 120 (λc _ n=>(cl n).dK (arr c.b m) a b c.x) l W (PS cv m a b l W λ_ l'=>MG cv a b l'):=by
 refine .body (k':=118) (B:=λc _ n=>gG (cl n) n (arr c.b m) a b c.x) (λ_ _ _=>rfl) (by omega) ?_;unfold gG;simp[eD (x:=a+1) (by omega)];exact .bind ((abN ha hb hm (b-(a+1)).toNat l (a+1) hl (by omega) (abi _) λo p q p1 p2 p3=>by omega).mono (by omega)) λ_ l' W' hr=>.pure hr
end
section
variable {cv:Int->Int->Int}{m:Nat}{W:Nat->List aZ}
def Hp (cv:Int->Int->Int)(first hi:Int)(l:ε)(k:Int):Prop:=∀c,c=2*k+1\/c=2*k+2->c<hi->Lt cv l (first+c) (first+k)
def HQ (cv:Int->Int->Int)(first lo hi r:Int)(l:ε):Prop:=(∀k,lo<=k->k≠r->Hp cv first hi l k) /\
 ∀k,lo<=k->r=2*k+1\/r=2*k+2->∀c,c=2*r+1\/c=2*r+2->c<hi->Lt cv l (first+c) (first+k)
theorem X0 {hi first lo:Int}(hlo:0<=lo)(hf:0<=first)(hh:first+hi<=m)(hm:m<50):∀d l root ,Good m l->lo<=root->root<=100->(hi-root).toNat<=d->(LO cv l->HQ cv first lo hi root l)->SP cv m (d+1) (λc _ n=>(cl n).cP (arr c.b m) hi first c.x root) l W (PS cv m first (first+hi) l W λ_ l'=>∀k,lo<=k->Hp cv first hi l' k):=by
 intro d
 induction d with
 |zero=>
  intro l root hl h0 h9 h1 hq;refine .body (k':=0) (B:=λc _ n=>dJ (cl n) n (arr c.b m) hi first c.x root) (λ_ _ _=>rfl) (by omega) ?_
  unfold dJ;simp only[eD (x:=2*root) (by omega),eD (x:=2*root+1) (by omega)];refine .QD (by grind) (.pure ⟨.refl,rfl,λo k hk=>?_⟩);by_cases hkr:k=root
  .intro c hc hlt;omega
  .exact (hq o).1 k hk hkr
 |succ d ih=>
  intro l root hl h0 h9 h1 hq;have key:∀child,child=2*root+1\/child=2*root+2->child<hi->(LO cv l->∀c,c=2*root+1\/c=2*root+2->c<hi->c≠child->Lt cv l (first+c) (first+child)) ->
    SP cv m (d+1) (λc _ n=>bP (cl n) n (arr c.b m) hi first c.x root child) l W (PS cv m first (first+hi) l W λ_ l'=>∀k,lo<=k->Hp cv first hi l' k):=by
   intro ch h2 h3 hmx;unfold bP;simp only[eD (x:=first+root) (by omega),eD (x:=first+ch) (by omega)]
   refine .rc hl (by omega) (by omega) (by omega) (by omega) (.ite (λhlt=>.pure ⟨.refl,rfl,λo k hk=>?_⟩) λhlt=>?_)
   .obtain⟨q1,q2⟩:=hq o;by_cases hkr:k=root
    .subst hkr;have hlt:¬Lt cv l (first+k) (first+ch):=by grind
     have hc:=o.nlt hl (by omega) (by omega) (by omega) hlt;intro c hc1 hc2;by_cases he:c=ch
     .grind
     .exact o.trans hl (by omega) (by omega) (by omega) (hmx o c hc1 hc2 he) hc
    grind
   have hlt:Lt cv l (first+root) (first+ch):=by grind
   have hin:Bp m first (first+hi) l (swp l (first+ch) (first+root)):=.swp hl hf hh (by omega) (by omega) (by omega) (by omega)
   have e:∀k,0<=k->qL (swp l (first+ch) (first+root)) k=if k=first+ch then qL l (first+root) else if k=first+root then qL l (first+ch) else qL l k:=λk hk=>AB hl (by omega) (by omega) (by omega) (by omega) hk
   refine .swap hl (by omega) (by omega) (by omega) (by omega) ?_;refine (ih _ ch (hl.perm hin.pm) (by omega) (by omega) (by omega) λo'=>?_).post λ_ _ _ hr=>⟨hin.trans hr.1,hr.2.1,λo=>hr.2.2 (o.perm hin.pm)⟩;have o:=o'.perm hin.pm.symm;obtain⟨q1,q2⟩:=hq o;refine⟨λk hk hkc c hc1 hc2=>?_,λk hk hkc c hc1 hc2=>?_⟩
   .unfold Lt;rw[e _ (by omega),e _ (by omega)];by_cases hkr:k=root
    .grind
    .rw[AT (by omega:¬first+k=first+ch),AT (by omega:¬first+k=first+root),AT (by omega:¬first+c=first+ch)]
     by_cases he:c=root
     .grind
     .rw[AT (by omega)];exact q1 k hk hkr c hc1 hc2
   .obtain rfl:k=root:=(by omega);unfold Lt;rw[e _ (by omega),e _ (by omega),AT (by omega:¬first+k=first+ch),By rfl,AT (by omega),AT (by omega)]
    exact q1 ch (by omega) (by omega) c hc1 hc2
  refine .body (k':=d+1) (B:=λc _ n=>dJ (cl n) n (arr c.b m) hi first c.x root) (λ_ _ _=>rfl) (by omega) ?_
  unfold dJ;simp only[eD (x:=2*root) (by omega),eD (x:=2*root+1) (by omega),eD (x:=2*root+1+1) (by omega)];refine .ite (λhp=>.pure ⟨.refl,rfl,λo k hk=>?_⟩) λhp=>?_
  .have hp:hi<=2*root+1:=by grind
   by_cases hkr:k=root
   .intro c hc hlt;omega
   .exact (hq o).1 k hk hkr
  have hp:2*root+1<hi:=by grind
  refine .ite (λhp2=>?_) λhp2=>key _ (.inl rfl) hp λo c h1 h2 h3=>by grind
  have hp2:2*root+1+1<hi:=by grind
  simp only[eD (x:=first+(2*root+1)) (by omega),eD (x:=first+(2*root+1)+1) (by omega)]
  refine .rc hl (by omega) (by omega) (by omega) (by omega) (.ite (λhlt=>key _ (.inr (by omega)) hp2 λo c h1 h2 h3=>?_) λhlt=>key _ (.inl rfl) hp λo c h1 h2 h3=>?_)
  .grind
  .obtain rfl:c=2*root+1+1:=by omega
   have hlt:¬Lt cv l (first+(2*root+1)) (first+(2*root+1)+1):=by grind
   rw[show first+(2*root+1)+1=first+(2*root+1+1) by omega] at hlt
   exact o.nlt hl (by omega) (by omega) (by omega) hlt
def Vt {lo hi first:Int}{l}(hl:Good m l)(h0:0<=lo)(h9:lo<=100)(hf:0<=first)(hh:first+hi<=m)(hm:m<50)(hq:LO cv l->∀k,lo<k->Hp cv first hi l k):SP cv m 60 (λc _ n=>(cl n).dV (arr c.b m) lo hi first c.x) l W (PS cv m first (first+hi) l W λ_ l'=>∀k,lo<=k->Hp cv first hi l' k):=by
 refine .body (k':=58) (B:=λc _ n=>jx (cl n) n (arr c.b m) lo hi first c.x) (λ_ _ _=>rfl) (by omega) ?_
 unfold jx;refine .bind ((X0 h0 hf hh hm (hi-lo).toNat l lo hl (akz _) h9 (abi _) λo=>⟨λk hk hkr=>hq o k (by omega),λk hk hkr=>by omega⟩).mono (by omega)) λy l' W' hr=>?_;cases y<;>exact .pure hr
theorem X1 {first lo hi:Int}(hf:0<=first)(hh:first+hi<=m)(hm:m<50):∀d l i ,Good m l->i<=100->(i+1).toNat<=d->-1<=i->(LO cv l->∀k,i<k->Hp cv first hi l k)->SP cv m (d+61) (λc _ n=>(cl n).cN (arr c.b m) c.x first lo hi i) l W (PS cv m first (first+hi) l W λ_ l'=>∀k,0<=k->Hp cv first hi l' k):=by
 intro d
 induction d with
 |zero=>
  intro l i hl h9 h1 h2 hq;refine .body (k':=0) (B:=λc _ n=>dH (cl n) n (arr c.b m) c.x first lo hi i) (λ_ _ _=>rfl) (by omega) ?_
  unfold dH;exact .Gl (by grind) (.pure ⟨.refl,rfl,λo k hk=>hq o k (by omega)⟩)
 |succ d ih=>
  intro l i hl h9 h1 h2 hq;refine .body (k':=d+61) (B:=λc _ n=>dH (cl n) n (arr c.b m) c.x first lo hi i) (λ_ _ _=>rfl) (by omega) ?_
  unfold dH;refine .ite (λhp=>?_) λhp=>.pure ⟨.refl,rfl,λo k hk=>hq o k (by grind)⟩;have hp:0<=i:=by grind
  simp[eD (x:=i-1) (by omega)];refine .bind ((Vt hl hp h9 hf hh hm hq).mono (by omega)) λ_ l' W' hr=>?_;obtain⟨hin,rfl,ho⟩:=hr;exact (ih l' (i-1) (hl.perm hin.pm) (by omega) (by omega) (by omega) λo k hk=>ho (o.perm hin.pm.symm) k (by omega)).post λ_ _ _ hr=>⟨hin.trans hr.1,hr.2.1,λo=>hr.2.2 (o.perm hin.pm)⟩
theorem afz {l}(o:LO cv l)(hl:Good m l){first hi:Int}(hf:0<=first)(hh:first+hi<=m)(hp:∀k,0<=k->Hp cv first hi l k):∀n k ,k.toNat=n->0<k->k<hi->Lt cv l (first+k) (first+0):=by
 intro n
 induction n using Nat.strongRecOn with
 |_ n ih=>
  intro k hn h0 h1;have h2:=hp ((k-1)/2) (by omega) k (by omega) h1;by_cases hz:(k-1)/2=0
  .grind
  .exact o.trans hl (by omega) (by omega) (by omega) h2 (ih ((k-1)/2).toNat (by omega) ((k-1)/2) rfl (by omega) (by omega))
theorem X2 {first hi:Int}(hf:0<=first)(hh:first+hi<=m)(hm:m<50):∀d l i ,Good m l->i<hi->(i+1).toNat<=d->-1<=i->(LO cv l->(∀k,0<=k->Hp cv first (i+1) l k)/\MG cv (first+i+1) (first+hi) l/\∀p q,0<=p->p<=i->i<q->q<hi->Lt cv l (first+p) (first+q)) ->
  SP cv m (d+61) (λc _ n=>(cl n).cO (arr c.b m) c.x first 0 i) l W (PS cv m first (first+hi) l W λ_ l'=>MG cv first (first+hi) l'):=by
 intro d
 induction d with
 |zero=>
  intro l i hl h9 h1 h2 hq;refine .body (k':=0) (B:=λc _ n=>dI (cl n) n (arr c.b m) c.x first 0 i) (λ_ _ _=>rfl) (by omega) ?_
  unfold dI;refine .Gl (by grind) (.pure ⟨.refl,rfl,λo=>?_⟩)
  grind
 |succ d ih=>
  intro l i hl h9 h1 h2 hq;refine .body (k':=d+61) (B:=λc _ n=>dI (cl n) n (arr c.b m) c.x first 0 i) (λ_ _ _=>rfl) (by omega) ?_
  unfold dI;refine .ite (λhp=>?_) λhp=>.pure ⟨.refl,rfl,λo=>?_⟩
  rotate_left
  .grind
  have hp:0<=i:=by grind
  simp[eD (x:=i-1) (by omega),eD (x:=first+i) (by omega)]
  have hin:Bp m first (first+(i+1)) l (swp l (first+i) first):=.swp hl hf (by omega) (by omega) (by omega) (by omega) (by omega)
  have hl1:=hl.perm hin.pm;have e:∀k,0<=k->qL (swp l (first+i) first) k=if k=first+i then qL l first else if k=first then qL l (first+i) else qL l k:=λk hk=>AB hl (by omega) (by omega) (by omega) (by omega) hk
  refine .swap hl (by omega) (by omega) (by omega) (by omega) ?_;refine .bind ((Vt hl1 (akz 0) (by omega) hf (by omega:first+i<=m) hm λo' k hk c hc1 hc2=>?_).mono (by omega)) λ_ l' W' hr=>?_
  .have h3:=(hq (o'.perm hin.pm.symm)).1 k (by omega) c hc1 (by omega);unfold Lt;rw[e _ (by omega),e _ (by omega),AT (by omega),AT (by omega),AT (by omega),AT (by omega)];exact h3
  obtain⟨hin2,rfl,ho⟩:=hr;have hin3:Bp m first (first+hi) l l':=(hin.wide hf (by omega) (by omega) hh).trans (hin2.wide hf (by omega) (by omega) hh)
  refine (ih l' (i-1) (hl1.perm hin2.pm) (by omega) (by omega) (by omega) λo'=>?_).post λ_ _ _ hr=>⟨hin3.trans hr.1,hr.2.1,λo=>hr.2.2 (o.perm hin3.pm)⟩;have o1:=o'.perm hin2.pm.symm;have o:=o1.perm hin.pm.symm;obtain⟨q1,q2,q3⟩:=hq o;have root:=afz o hl hf (by omega) q1;have hi':qL l' (first+i)=qL l first:=by rw[hin2.out _ (by omega) (by omega) (by omega),e _ (by omega),By rfl]
  have hgt:∀q,i<q->q<hi->qL l' (first+q)=qL l (first+q):=λq h1 h2=>by rw[hin2.out _ (by omega) (by omega) (by omega),e _ (by omega),AT (by omega),AT (by omega)]
  have hlow:∀p,0<=p->p<i->∃j,0<j/\j<=i/\qL l' (first+p)=qL l (first+j):=λp h1 h2=>by
   obtain⟨j,j1,j2,ej⟩:=hin2.X5 (first+p) (by omega) (by omega)
   rw[e _ (by omega),AT (by omega)] at ej;by_cases hj:j=first
   .grind
   .rw[AT hj] at ej;exact⟨j-first,by omega,by omega,by grind⟩
  refine⟨λk hk=>?_,λp q p1 p2 p3=>?_,λp q p1 p2 p3 p4=>?_⟩
  .grind
  .obtain⟨p',rfl⟩:∃p',p=first+p':=⟨p-first,by omega⟩
   obtain⟨q',rfl⟩:∃q',q=first+q':=⟨q-first,by omega⟩
   unfold Lt;rw[hgt q' (by omega) (by omega)];by_cases hpi:p'=i
   .rw[hpi,hi'];have:=q3 0 q' (by omega) hp (by omega) (by omega)
    rwa [Int.add_zero] at this
   .rw[hgt p' (by omega) (by omega)];exact q2 (first+p') (first+q') (by omega) (by omega) (by omega)
  .obtain⟨j,j1,j2,ej⟩:=hlow p p1 (by omega);unfold Lt;rw[ej];by_cases hqi:q=i
   .grind
   .rw[hgt q (by omega) p4];exact q3 j q (by omega) j2 (by omega) p4
theorem afA {a b:Int}{l}(hl:Good m l)(ha:0<=a)(hab:a<=b)(hb:b<=m)(hm:m<50):SP cv m 200 (λc _ n=>(cl n).eZ (arr c.b m) a b c.x) l W (PS cv m a b l W λ_ l'=>MG cv a b l'):=by
 refine .body (k':=198) (B:=λc _ n=>jv (cl n) n (arr c.b m) a b c.x) (λ_ _ _=>rfl) (by omega) ?_;unfold jv;have ht:((b-a-1).tdiv 2)<=60/\-1<=(b-a-1).tdiv 2/\b-a-1<=2*(b-a-1).tdiv 2+1:=by
  grind
 simp only[eD (x:=b-a) (by omega),eD (x:=b-a-1) (by omega),eD (x:=(b-a-1).tdiv 2) (by omega)];refine .ck (by decide) (.bind ((X1 ha (by omega) hm _ l _ hl (by omega) (abi _) ht.2.1 λo k hk c hc1 hc2=>by omega).mono (by omega)) λ_ l' W' hr=>?_);obtain⟨hin,rfl,ho⟩:=hr;refine .bind ((X2 (hi:=b-a) ha (by omega) hm _ l' (b-a-1) (hl.perm hin.pm) (by omega) (abi _) (by omega) λo'=>⟨?_,λp q p1 p2 p3=>by omega,λp q p1 p2 p3 p4=>by omega⟩).mono (by omega)) λ_ l2 W2 hr=>?_
 .rw[show b-a-1+1=b-a by omega];exact ho (o'.perm hin.pm.symm)
 .have hab':a+(b-a)=b:=by omega
  rw[hab'] at hin hr;exact .pure ⟨hin.trans hr.1,hr.2.1,λo=>hr.2.2 (o.perm hin.pm)⟩
end
section
variable {cv:Int->Int->Int}{m:Nat}{W:Nat->List aZ}
abbrev ScL (cv:Int->Int->Int)(a j:Int)(l:ε)(W:Nat->List aZ)(i:Int):Int->ε->(Nat->List aZ)->Prop:=λy l' W'=>l'=l/\W'=W/\i<=y/\y<=max i (j+1)/\(∀p,i<=p->p<y->Lt cv l p a)/\(y<=j->¬Lt cv l y a)
abbrev ScR (cv:Int->Int->Int)(a i:Int)(l:ε)(W:Nat->List aZ)(j:Int):Int->ε->(Nat->List aZ)->Prop:=λy l' W'=>l'=l/\W'=W/\min (i-1) j<=y/\y<=j/\(∀p,y<p->p<=j->¬Lt cv l p a)/\(i<=y->Lt cv l y a)
theorem alh {a:Int}{l}(hl:Good m l)(ha:0<=a/\a<m){j:Int}(hj:j<m)(hm:m<50):∀d i ,0<=i->i<=100->(j+1-i).toNat<=d->SP cv m (d+1) (λc _ n=>(cl n).cJ (arr c.b m) a c.x i j) l W (ScL cv a j l W i):=by
 intro d
 induction d with
 |zero=>
  intro i h0 h9 h1;refine .body (k':=0) (B:=λc _ n=>dw (cl n) n (arr c.b m) a c.x i j) (λ_ _ _=>rfl) (by omega) ?_;unfold dw;exact .Gl (by grind) (.pure ⟨rfl,rfl,by omega,by omega,λp p1 p2=>by omega,λh=>by omega⟩)
 |succ d ih=>
  intro i h0 h9 h1;refine .body (k':=d+1) (B:=λc _ n=>dw (cl n) n (arr c.b m) a c.x i j) (λ_ _ _=>rfl) (by omega) ?_;unfold dw;refine .ite (λhp=>?_) λhp=>.pure ⟨rfl,rfl,by omega,by omega,λp p1 p2=>by omega,λh=>absurd h (by grind)⟩;have hp:i<=j:=by grind
  simp only[eD (x:=i+1) (by omega)];refine .rc hl (by omega) (by omega) (by omega) (by omega) (.ite (λhlt=>(ih (i+1) (by omega) (by omega) (by omega)).post λy _ _ hr=>?_) λhlt=>.pure ⟨rfl,rfl,by omega,by omega,λp p1 p2=>by omega,λ_=>by grind⟩)
  grind
theorem ali {a:Int}{l}(hl:Good m l)(ha:0<=a/\a<m){i}(hi:0<=i)(hm:m<50):∀d (j:Int),j<m->-2<=j->(j+1-i).toNat<=d->SP cv m (d+1) (λc _ n=>(cl n).cI (arr c.b m) a c.x i j) l W (ScR cv a i l W j):=by
 intro d
 induction d with
 |zero=>
  intro j h0 h9 h1;refine .body (k':=0) (B:=λc _ n=>dv (cl n) n (arr c.b m) a c.x i j) (λ_ _ _=>rfl) (by omega) ?_;unfold dv;exact .Gl (by grind) (.pure ⟨rfl,rfl,by omega,by omega,λp p1 p2=>by omega,λh=>by omega⟩)
 |succ d ih=>
  intro j h0 h9 h1;refine .body (k':=d+1) (B:=λc _ n=>dv (cl n) n (arr c.b m) a c.x i j) (λ_ _ _=>rfl) (by omega) ?_;unfold dv;refine .ite (λhp=>?_) λhp=>.pure ⟨rfl,rfl,by omega,by omega,λp p1 p2=>by omega,λh=>absurd h (by grind)⟩;have hp:i<=j:=by grind
  simp only[eD (x:=j-1) (by omega)];refine .rc hl (by omega) (by omega) (by omega) (by omega) (.ite (λhlt=>(ih (j-1) (by omega) (by omega) (by omega)).post λy _ _ hr=>?_) λhlt=>.pure ⟨rfl,rfl,by omega,by omega,λp p1 p2=>by omega,λ_=>by grind⟩)
  grind
theorem abP {a:Int}{l}(hl:Good m l)(ha:0<=a/\a<m){j:Int}(hj:j<m)(hm:m<50):∀d i ,0<=i->i<=100->(j+1-i).toNat<=d->SP cv m (d+1) (λc _ n=>(cl n).cG (arr c.b m) a c.x i j) l W (ScL cv a j l W i):=by
 intro d
 induction d with
 |zero=>
  intro i h0 h9 h1;refine .body (k':=0) (B:=λc _ n=>dq (cl n) n (arr c.b m) a c.x i j) (λ_ _ _=>rfl) (by omega) ?_;unfold dq;exact .Gl (by grind) (.pure ⟨rfl,rfl,by omega,by omega,λp p1 p2=>by omega,λh=>by omega⟩)
 |succ d ih=>
  intro i h0 h9 h1;refine .body (k':=d+1) (B:=λc _ n=>dq (cl n) n (arr c.b m) a c.x i j) (λ_ _ _=>rfl) (by omega) ?_;unfold dq;refine .ite (λhp=>?_) λhp=>.pure ⟨rfl,rfl,by omega,by omega,λp p1 p2=>by omega,λh=>absurd h (by grind)⟩;have hp:i<=j:=by grind
  simp only[eD (x:=i+1) (by omega)];refine .rc hl (by omega) (by omega) (by omega) (by omega) (.ite (λhlt=>(ih (i+1) (by omega) (by omega) (by omega)).post λy _ _ hr=>?_) λhlt=>.pure ⟨rfl,rfl,by omega,by omega,λp p1 p2=>by omega,λ_=>by grind⟩)
  grind
theorem abQ {a:Int}{l}(hl:Good m l)(ha:0<=a/\a<m){i}(hi:0<=i)(hm:m<50):∀d (j:Int),j<m->-2<=j->(j+1-i).toNat<=d->SP cv m (d+1) (λc _ n=>(cl n).cF (arr c.b m) a c.x i j) l W (ScR cv a i l W j):=by
 intro d
 induction d with
 |zero=>
  intro j h0 h9 h1;refine .body (k':=0) (B:=λc _ n=>dj (cl n) n (arr c.b m) a c.x i j) (λ_ _ _=>rfl) (by omega) ?_;unfold dj;exact .Gl (by grind) (.pure ⟨rfl,rfl,by omega,by omega,λp p1 p2=>by omega,λh=>by omega⟩)
 |succ d ih=>
  intro j h0 h9 h1;refine .body (k':=d+1) (B:=λc _ n=>dj (cl n) n (arr c.b m) a c.x i j) (λ_ _ _=>rfl) (by omega) ?_;unfold dj;refine .ite (λhp=>?_) λhp=>.pure ⟨rfl,rfl,by omega,by omega,λp p1 p2=>by omega,λh=>absurd h (by grind)⟩;have hp:i<=j:=by grind
  simp only[eD (x:=j-1) (by omega)];refine .rc hl (by omega) (by omega) (by omega) (by omega) (.ite (λhlt=>(ih (j-1) (by omega) (by omega) (by omega)).post λy _ _ hr=>?_) λhlt=>.pure ⟨rfl,rfl,by omega,by omega,λp p1 p2=>by omega,λ_=>by grind⟩)
  grind
theorem alj {a b:Int}(ha:0<=a)(hb:b<=m)(hm:m<50):∀d l i j ,Good m l->a+1<=i->i<=j+1->j<b->(j+1-i).toNat<=d->(∀p,a<p->p<i->Lt cv l p a)->(∀p,j<p->p<b->¬Lt cv l p a) ->
  SP cv m (d+60) (λc _ n=>(cl n).cH (arr c.b m) a c.x i j) l W (λy l' W'=>Bp m (a+1) b l l'/\W'=W/\a<=y/\y<b/\(∀p,a<p->p<=y->Lt cv l' p a)/\∀p,y<p->p<b->¬Lt cv l' p a):=by
 intro d
 induction d with
 |zero=>
  intro l i j hl h0 h1 h2 h3 f1 f2;refine .body (k':=58) (B:=λc _ n=>du (cl n) n (arr c.b m) a c.x i j) (λ_ _ _=>rfl) (by omega) ?_;unfold du;refine .bind ((abP hl (by omega) (by omega) hm (j+1-i).toNat i (by omega) (by omega) (abi _)).mono (by omega)) λx l' W' hr=>?_;obtain⟨rfl,rfl,r1,r2,r3,r4⟩:=hr;refine .bind ((abQ hl (by omega) (by omega) hm (j+1-x).toNat j (by omega) (by omega) (abi _)).mono (by omega)) λy l' W' hr=>?_;obtain⟨rfl,rfl,r5,r6,r7,r8⟩:=hr;refine .QD (by grind) (.pure ⟨.refl,rfl,by omega,by omega,λp p1 p2=>f1 p p1 (by omega),λp p1 p2=>f2 p (by omega) p2⟩)
 |succ d ih=>
  intro l i j hl h0 h1 h2 h3 f1 f2;refine .body (k':=d+60) (B:=λc _ n=>du (cl n) n (arr c.b m) a c.x i j) (λ_ _ _=>rfl) (by omega) ?_;unfold du;refine .bind ((abP hl (by omega) (by omega) hm (j+1-i).toNat i (by omega) (by omega) (abi _)).mono (by omega)) λx l' W' hr=>?_;obtain⟨rfl,rfl,r1,r2,r3,r4⟩:=hr;refine .bind ((abQ hl (by omega) (by omega) hm (j+1-x).toNat j (by omega) (by omega) (abi _)).mono (by omega)) λy l' W' hr=>?_;obtain⟨rfl,rfl,r5,r6,r7,r8⟩:=hr;have g1:∀p,a<p->p<x->Lt cv l' p a:=λp p1 p2=>if h:p<i then f1 p p1 h else r3 p (by omega) p2;have g2:∀p,y<p->p<b->¬Lt cv l' p a:=λp p1 p2=>if h:j<p then f2 p h p2 else r7 p p1 (by omega);refine .ite (λhp=>.pure ⟨.refl,rfl,by omega,by omega,λp p1 p2=>g1 p p1 (by simp at hp;omega),g2⟩) λhp=>?_;have hp:x<=y:=by simpa using hp
  have hxy:x≠y:=λe=>r4 (by omega) (by simp_all);simp only[eD (x:=x+1) (by omega),eD (x:=y-1) (by omega)];have hin:Bp m (a+1) b l' (swp l' y x):=.swp hl (by omega) hb (by omega) (by omega) (by omega) (by omega);have e:∀k,0<=k->qL (swp l' y x) k=if k=y then qL l' x else if k=x then qL l' y else qL l' k:=λk hk=>AB hl (by omega) (by omega) (by omega) (by omega) hk;refine .swap hl (by omega) (by omega) (by omega) (by omega) ?_;refine (ih _ (x+1) (y-1) (hl.perm hin.pm) (by omega) (by omega) (by omega) (by omega) (λp p1 p2=>?_) λp p1 p2=>?_).post λ_ _ _ hr=>⟨hin.trans hr.1,hr.2⟩
  .unfold Lt;rw[e p (by omega),e a (by omega),AT (by omega),AT (by omega:¬a=y),AT (by omega:¬a=x)];by_cases hpx:p=x
   .rw[By hpx];exact r8 hp
   .rw[AT hpx];exact g1 p p1 (by omega)
  .unfold Lt;rw[e p (by omega),e a (by omega),AT (by omega:¬a=y),AT (by omega:¬a=x)];by_cases hpy:p=y
   .rw[By hpy];exact r4 (by omega)
   .rw[AT hpy,AT (by omega)];exact g2 p (by omega) p2
abbrev Par (cv:Int->Int->Int)(a b:Int)(y:Int)(l':ε):Prop:=a<=y/\y<b/\(∀p,a<=p->p<y->Lt cv l' p y)/\∀p,y<p->p<b->¬Lt cv l' p y
theorem afB {a b p:Int}{l}(hl:Good m l)(ha:0<=a)(h1:a<=p)(h2:p<b)(hb:b<=m)(hm:m<50):SP cv m 200 (λc _ n=>(cl n).eQ (arr c.b m) a b p c.x) l W (λy l' W'=>Bp m a b l l'/\W'=W/\Par cv a b y.1 l'):=by
 refine .body (k':=198) (B:=λc _ n=>iV (cl n) n (arr c.b m) a b p c.x) (λ_ _ _=>rfl) (by omega) ?_;unfold iV;simp only[eD (x:=a+1) (by omega),eD (x:=b-1) (by omega)];have in1:Bp m a b l (swp l p a):=.swp hl ha hb (by omega) (by omega) (by omega) (by omega);have hl1:=hl.perm in1.pm;refine .swap hl (by omega) (by omega) (by omega) (by omega) ?_;have fin:∀{l1:ε} {z:Int},Good m l1->a<=z->z<b->(∀p,a<p->p<=z->Lt cv l1 p a)->(∀p,z<p->p<b->¬Lt cv l1 p a)->Bp m a b l1 (swp l1 a z)/\Par cv a b z (swp l1 a z):=λ{l1 z} hg z1 z2 g1 g2=>by
  have e:∀k,0<=k->qL (swp l1 a z) k=if k=a then qL l1 z else if k=z then qL l1 a else qL l1 k:=λk hk=>AB hg (by omega) (by omega) (by omega) (by omega) hk;have ez:qL (swp l1 a z) z=qL l1 a:=by
   grind
  refine⟨.swp hg ha hb (by omega) (by omega) (by omega) (by omega),z1,z2,λp p1 p2=>?_,λp p1 p2=>?_⟩
  .grind
  grind
 refine .bind ((alh hl1 (by omega) (by omega) hm _ (a+1) (by omega) (by omega) (abi _)).mono (by omega)) λx l' W' hr=>?_;obtain⟨rfl,rfl,r1,r2,r3,r4⟩:=hr;refine .bind ((ali hl1 (by omega) (by omega) hm _ (b-1) (by omega) (by omega) (abi _)).mono (by omega)) λy l' W' hr=>?_;obtain⟨rfl,rfl,r5,r6,r7,r8⟩:=hr;refine .ite (λhp=>?_) λhp=>?_
 .obtain⟨q1,q2⟩:=fin hl1 (by omega) (by omega) (λp p1 p2=>r3 p (by omega) (by grind)) λp p1 p2=>r7 p p1 (by omega);refine .swap hl1 (by omega) (by omega) (by omega) (by omega) ?_;exact .pure ⟨in1.trans q1,rfl,q2⟩
 .have hp:x<=y:=by grind
  have hxy:x≠y:=λe=>r4 (by omega) (by grind);simp[eD (x:=x+1) (by omega),eD (x:=y-1) (by omega)];have in2:Bp m (a+1) b (swp l p a) (swp (swp l p a) y x):=.swp hl1 (by omega) hb (by omega) (by omega) (by omega) (by omega);have e:∀k,0<=k->qL (swp (swp l p a) y x) k=if k=y then qL (swp l p a) x else if k=x then qL (swp l p a) y else qL (swp l p a) k:=λk hk=>AB hl1 (by omega) (by omega) (by omega) (by omega) hk;have hl2:=hl1.perm in2.pm;refine .swap hl1 (by omega) (by omega) (by omega) (by omega) ?_;refine .bind ((alj ha hb hm _ _ (x+1) (y-1) hl2 (by omega) (by omega) (by omega) (abi _) (λp p1 p2=>?_) λp p1 p2=>?_).mono (by omega)) λz l' W' hr=>?_
  .grind
  .grind
  obtain⟨in3,rfl,z1,z2,g1,g2⟩:=hr;have hl3:=hl2.perm in3.pm;obtain⟨q1,q2⟩:=fin hl3 z1 z2 g1 g2;refine .swap hl3 (by omega) (by omega) (by omega) (by omega) ?_;exact .pure ⟨in1.trans ((in2.wide ha (by omega) (akz _) hb).trans ((in3.wide ha (by omega) (akz _) hb).trans q1)),rfl,q2⟩
abbrev Sc (l:ε)(W:Nat->List aZ)(lo hi:Int):Int->ε->(Nat->List aZ)->Prop:=λy l' W'=>l'=l/\W'=W/\lo<=y/\y<=hi
theorem abR {a:Int}{l}(hl:Good m l)(ha:0<=a/\a<m){j:Int}(hj:j<m)(hm:m<50):∀d i ,0<=i->i<=100->(j+1-i).toNat<=d->SP cv m (d+1) (λc _ n=>(cl n).bI (arr c.b m) a c.x i j) l W (Sc l W i (max i (j+1))):=by
 intro d
 induction d with
 |zero=>
  intro i h0 h9 h1;refine .body (k':=0) (B:=λc _ n=>bY (cl n) n (arr c.b m) a c.x i j) (λ_ _ _=>rfl) (by omega) ?_;unfold bY;exact .Gl (by grind) (.pure ⟨rfl,rfl,by omega,by omega⟩)
 |succ d ih=>
  intro i h0 h9 h1;refine .body (k':=d+1) (B:=λc _ n=>bY (cl n) n (arr c.b m) a c.x i j) (λ_ _ _=>rfl) (by omega) ?_;unfold bY;refine .ite (λhp=>?_) λ_=>.pure ⟨rfl,rfl,by omega,by omega⟩;have hp:i<=j:=by grind
  simp only[eD (x:=i+1) (by omega)];exact .rc hl (by omega) (by omega) (by omega) (by omega) (.ite (λ_=>(ih (i+1) (by omega) (by omega) (by omega)).post λ_ _ _ hr=>⟨hr.1,hr.2.1,by omega,by omega⟩) λ_=>.pure ⟨rfl,rfl,by omega,by omega⟩)
theorem abS {a:Int}{l}(hl:Good m l)(ha:0<=a/\a<m){i}(hi:0<=i)(hm:m<50):∀d (j:Int),j<m->-2<=j->(j+1-i).toNat<=d->SP cv m (d+1) (λc _ n=>(cl n).bH (arr c.b m) a c.x i j) l W (Sc l W (min (i-1) j) j):=by
 intro d
 induction d with
 |zero=>
  intro j h0 h9 h1;refine .body (k':=0) (B:=λc _ n=>bX (cl n) n (arr c.b m) a c.x i j) (λ_ _ _=>rfl) (by omega) ?_;unfold bX;exact .Gl (by grind) (.pure ⟨rfl,rfl,by omega,by omega⟩)
 |succ d ih=>
  intro j h0 h9 h1;refine .body (k':=d+1) (B:=λc _ n=>bX (cl n) n (arr c.b m) a c.x i j) (λ_ _ _=>rfl) (by omega) ?_;unfold bX;refine .ite (λhp=>?_) λ_=>.pure ⟨rfl,rfl,by omega,by omega⟩;have hp:i<=j:=by grind
  simp only[eD (x:=j-1) (by omega)];exact .rc hl (by omega) (by omega) (by omega) (by omega) (.ite (λ_=>(ih (j-1) (by omega) (by omega) (by omega)).post λ_ _ _ hr=>⟨hr.1,hr.2.1,by omega,by omega⟩) λ_=>.pure ⟨rfl,rfl,by omega,by omega⟩)
theorem alk {a B A:Int}(ha:0<=a/\a<m)(hA:0<=A)(hB:B<=m)(hm:m<50):∀d l i j ,Good m l->A<=i->i<=j+2->i<=B->j+1<=B->-1<=j->(j+2-i).toNat<=d->SP cv m (d+60) (λc _ n=>(cl n).bJ (arr c.b m) a c.x i j) l W (λy l' W'=>Bp m A B l l'/\W'=W/\i<=y/\y<=B):=by
 intro d
 induction d with
 |zero=>
  intro l i j hl h0 h1 h2 h7 h8 h3;refine .body (k':=58) (B:=λc _ n=>bZ (cl n) n (arr c.b m) a c.x i j) (λ_ _ _=>rfl) (by omega) ?_;unfold bZ;refine .bind ((abR hl ha (by omega) hm (j+1-i).toNat i (by omega) (by omega) (abi _)).mono (by omega)) λx l' W' hr=>?_;obtain⟨rfl,rfl,r1,r2⟩:=hr;refine .bind ((abS hl ha (by omega) hm (j+1-x).toNat j (by omega) (by omega) (abi _)).mono (by omega)) λy l' W' hr=>?_;obtain⟨rfl,rfl,r3,r4⟩:=hr;exact .QD (by grind) (.pure ⟨.refl,rfl,by omega,by omega⟩)
 |succ d ih=>
  intro l i j hl h0 h1 h2 h7 h8 h3;refine .body (k':=d+60) (B:=λc _ n=>bZ (cl n) n (arr c.b m) a c.x i j) (λ_ _ _=>rfl) (by omega) ?_;unfold bZ;refine .bind ((abR hl ha (by omega) hm (j+1-i).toNat i (by omega) (by omega) (abi _)).mono (by omega)) λx l' W' hr=>?_;obtain⟨rfl,rfl,r1,r2⟩:=hr;refine .bind ((abS hl ha (by omega) hm (j+1-x).toNat j (by omega) (by omega) (abi _)).mono (by omega)) λy l' W' hr=>?_;obtain⟨rfl,rfl,r3,r4⟩:=hr;refine .ite (λhp=>.pure ⟨.refl,rfl,by omega,by omega⟩) λhp=>?_;have hp:x<=y:=by grind
  simp[eD (x:=x+1) (by omega),eD (x:=y-1) (by omega)];have hsw:Bp m A B l' (swp l' y x):=.swp hl hA hB (by omega) (by omega) (by omega) (by omega);refine .swap hl (by omega) (by omega) (by omega) (by omega) ?_;exact (ih _ (x+1) (y-1) (hl.perm hsw.pm) (by omega) (by omega) (by omega) (by omega) (by omega) (by omega)).post λ_ _ _ hr=>⟨hsw.trans hr.1,hr.2.1,by omega,by omega⟩
def abT {a b p:Int}{l}(hl:Good m l)(ha:0<=a)(h1:a<=p)(h2:p<b)(hb:b<=m)(hm:m<50):SP cv m 200 (λc _ n=>(cl n).dz (arr c.b m) a b p c.x) l W (λy l' W'=>Bp m a b l l'/\W'=W/\a<y/\y<=b):=by
 refine .body (k':=198) (B:=λc _ n=>gb (cl n) n (arr c.b m) a b p c.x) (λ_ _ _=>rfl) (by omega) ?_;unfold gb;simp[eD (x:=a+1) (by omega),eD (x:=b-1) (by omega)];have hsw:Bp m a b l (swp l p a):=.swp hl ha hb (by omega) (by omega) (by omega) (by omega);refine .swap hl (by omega) (by omega) (by omega) (by omega) ?_;refine .bind ((alk (by omega) ha hb hm _ _ (a+1) (b-1) (hl.perm hsw.pm) (by omega) (by omega) (by omega) (by omega) (by omega) (abi _)).mono (by omega)) λz l' W' hr=>?_;obtain⟨hp3,rfl,r5,r6⟩:=hr;exact .pure ⟨hsw.trans hp3,rfl,by omega,by omega⟩
theorem alm {a b j:Int}{l}(hl:Good m l)(hb:b<=m)(hm:m<50):∀d i ,1<=i->i<=b->(b-i).toNat<=d->SP cv m (d+1) (λc _ n=>(cl n).aS (arr c.b m) a b c.x i j) l W (λy l' W'=>l'=l/\W'=W/\i<=y/\y<=b/\∀p,i<=p->p<y->¬Lt cv l p (p-1)):=by
 intro d
 induction d with
 |zero=>
  intro i h0 h9 h1;refine .body (k':=0) (B:=λc _ n=>bt (cl n) n (arr c.b m) a b c.x i j) (λ_ _ _=>rfl) (by omega) ?_;unfold bt;exact .Gl (by grind) (.pure ⟨rfl,rfl,by omega,by omega,λp p1 p2=>by omega⟩)
 |succ d ih=>
  intro i h0 h9 h1;refine .body (k':=d+1) (B:=λc _ n=>bt (cl n) n (arr c.b m) a b c.x i j) (λ_ _ _=>rfl) (by omega) ?_;unfold bt;refine .ite (λhp=>?_) λ_=>.pure ⟨rfl,rfl,by omega,by omega,λp p1 p2=>by omega⟩;have hp:i<b:=by grind
  simp only[eD (x:=i+1) (by omega),eD (x:=i-1) (by omega)];refine .rc hl (by omega) (by omega) (by omega) (by omega) (.ite (λhlt=>(ih (i+1) (by omega) (by omega) (by omega)).post λy _ _ hr=>?_) λ_=>.pure ⟨rfl,rfl,by omega,by omega,λp p1 p2=>by omega⟩)
  grind
theorem Tn {a b:Int}{l}(hl:Good m l)(ha:0<=a)(hab:a<b)(hb:b<=m)(hm:m<50):SP cv m 200 (λc _ n=>(cl n).bV (arr c.b m) a b c.x) l W (λ(y:Bool) l' W'=>l'=l/\W'=W/\(y=true->LO cv l->MG cv a b l)):=by
 have Gm:(∀p,a+1<=p->p<b->¬Lt cv l p (p-1))->LO cv l->MG cv a b l:=λf o=>by
  have key:∀(n:Nat) (i:Int),a<=i->i+1+n<b->Lt cv l i (i+1+n):=by
   intro n
   induction n with
   |zero=>
    intro i h1 h2;have:=f (i+1) (by omega) (by omega);rw[show i+1-1=i by omega] at this;rw[show i+1+((0:Nat):Int)=i+1 by omega];exact o.nlt hl (by omega) (by omega) (by omega) this
   |succ n ih=>
    intro i h1 h2;have h3:=ih i h1 (by omega);have h4:=f (i+1+(n+1:Nat)) (by omega) (by omega);rw[show i+1+((n+1:Nat):Int)-1=i+1+n by omega] at h4;exact o.trans hl (by omega) (by omega) (by omega) h3 (o.nlt hl (by omega) (by omega) (by omega) h4)
  intro i j h1 h2 h3;have:=key (j-(i+1)).toNat i h1 (by omega)
  grind
 refine .body (k':=198) (B:=λc _ n=>eM (cl n) n (arr c.b m) a b c.x) (λ_ _ _=>rfl) (by omega) ?_;unfold eM;simp[eD (x:=a+1) (by omega)];refine .bind (R1:=λy l' W'=>(∃z,y=.inr z/\(z=true->LO cv l->MG cv a b l))/\l'=l/\W'=W) ?_ λy l' W' hr=>?_
 .refine .body (k':=100) (B:=λc _ n=>dX (cl n) n (arr c.b m) a b c.x (a+1) 0) (λ_ _ _=>rfl) (by omega) ?_;unfold dX;refine .QD (by decide) (.bind ((alm hl hb hm _ (a+1) (by omega) (by omega) (abi _)).mono (by omega)) λx l' W' hr=>?_);obtain⟨rfl,rfl,r1,r2,r3⟩:=hr;refine .ite (λhx=>.pure ⟨⟨_,rfl,λ_=>Gm λp p1 p2=>r3 p p1 (by grind)⟩,rfl,rfl⟩) λ_=>?_;simp only[eD (x:=b-a) (by omega)];exact .QD (by grind) (.pure ⟨⟨_,rfl,λh=>by cases h⟩,rfl,rfl⟩)
 .obtain⟨⟨z,rfl,hz⟩,rfl,rfl⟩:=hr;exact .pure ⟨rfl,rfl,hz⟩
end
section
variable {cv:Int->Int->Int}{m:Nat}{W:Nat->List aZ}
abbrev pw (s:Int):Nat->List aZ:=λq=>[.ar q [vi s] al]
abbrev rw' (s:Int):Nat->List aZ:=λq=>[.ar q [.int .u64 s] yf]
def Hz {a b s:Int}{l}(hl:Good m l)(ha:0<=a/\a<m)(hb:0<=b/\b<m):SP cv m 1 (λc q n=>(cl n).dG (arr c.b m) a b (some (ak q)) c.x) l (pw s) (λy l' W'=>l'=l/\(∃s',W'=pw s')/\(y=(a,b)\/y=(b,a))):=by
 refine .body (k':=0) (B:=λc q n=>kI (cl n) n (arr c.b m) a b (some (ak q)) c.x) (λ_ _ _=>rfl) (by omega) ?_;unfold kI;refine .rc hl hb.1 hb.2 ha.1 ha.2 (.ite (λ_=>?_) λ_=>.pure ⟨rfl,⟨s,rfl⟩,.inl rfl⟩);exact .nn (.qld rfl (.nn (.qst rfl (.pure ⟨rfl,⟨_,rfl⟩,.inr rfl⟩))))
theorem X3 {a b d s:Int}{l}(hl:Good m l)(ha:0<=a/\a<m)(hb:0<=b/\b<m)(hd:0<=d/\d<m):SP cv m 5 (λc q n=>(cl n).dE (arr c.b m) a b d (some (ak q)) c.x) l (pw s) (λy l' W'=>l'=l/\(∃s',W'=pw s')/\(y=a\/y=b\/y=d)):=by
 refine .body (k':=4) (B:=λc q n=>kH (cl n) n (arr c.b m) a b d (some (ak q)) c.x) (λ_ _ _=>rfl) (by omega) ?_;unfold kH;refine .bind ((Hz hl ha hb).mono (by omega)) λx l' W' hr=>?_;obtain⟨rfl,⟨s1,rfl⟩,hx⟩:=hr;have h1:(x.1=a\/x.1=b)/\(x.2=a\/x.2=b):=by grind
 refine .bind ((Hz hl (by grind) hd).mono (by omega)) λy l' W' hr=>?_;obtain⟨rfl,⟨s2,rfl⟩,hy⟩:=hr;have h2:y.1=x.2\/y.1=d:=by grind
 have h3:y.1=a\/y.1=b\/y.1=d:=by
  grind
 refine .bind ((Hz hl (by grind) (by grind)).mono (by omega)) λz l' W' hr=>?_;obtain⟨rfl,⟨s3,rfl⟩,hz⟩:=hr;refine .pure ⟨rfl,⟨s3,rfl⟩,?_⟩
 grind
theorem X4 {a b:Int}{l}(hl:Good m l)(ha:0<=a)(hab:a<b)(hb:b<=m)(hm:m<50):SP cv m 10 (λc _ n=>(cl n).ef (arr c.b m) a b c.x) l (λ_=>[]) (λy l' W'=>l'=l/\(W'=λ_=>[])/\a<=y.1/\y.1<b):=by
 refine .body (k':=9) (B:=λc _ n=>iz (cl n) n (arr c.b m) a b c.x) (λ_ _ _=>rfl) (by omega) ?_;unfold iz;have ht:(b-a).tdiv 4=(b-a)/4:=aid (by omega);have key:∀(s y:Int),a<=y->y<b->SP cv m 9 (λc q n=>bO (cl n) n (ak q) y) l (pw s) (λy l' _=>l'=l/\((λ_:Nat=>([]:List aZ))=λ_=>[])/\a<=y.1/\y.1<b):=by
  intro s y h1 h2;unfold bO;exact .qld rfl (.ite (λ_=>.pure ⟨rfl,rfl,h1,h2⟩) λ_=>.ite (λ_=>.pure ⟨rfl,rfl,h1,h2⟩) λ_=>.pure ⟨rfl,rfl,h1,h2⟩)
 simp only[eD (x:=b-a) (by omega),ht];simp only[eD (x:=(b-a)/4*1) (by omega),eD (x:=(b-a)/4*2) (by omega),eD (x:=(b-a)/4*3) (by omega),eD (x:=(b-a)/4) (by omega)];simp only[eD (x:=a+(b-a)/4*1) (by omega),eD (x:=a+(b-a)/4*2) (by omega),eD (x:=a+(b-a)/4*3) (by omega),eD (x:=(b-a)/4*1) (by omega),eD (x:=(b-a)/4*2) (by omega),eD (x:=(b-a)/4*3) (by omega)];refine .new rfl (.ck (by decide) (.ck (by decide) (.ck (by decide) (.ite (λ_=>.Gl (by grind) ?_) λ_=>?_))))
 .refine .bind ((X3 hl (by omega) (by omega) (by omega)).mono (by omega)) λy l' W' hr=>?_;obtain⟨rfl,⟨s,rfl⟩,hy⟩:=hr;exact key s y (by omega) (by omega)
 .exact key 0 _ (by omega) (by omega)
def afC {s}{l}:SP cv m 0 (λc q n=>lF n (some (ak q))) l (rw' s) (λ_ l' W'=>l'=l/\∃s',W'=rw' s'):=by
 unfold lF;refine .nn (.nn (.qld rfl (.qld rfl (.ck (by decide) (.nn (.qst rfl ?_))))));refine .nn (.nn (.qld rfl (.qld rfl (.ck (by decide) (.nn (.qst rfl ?_))))));refine .nn (.nn (.qld rfl (.qld rfl (.ck (by decide) (.nn (.qst rfl ?_))))));exact .nn (.qld rfl (.pure ⟨rfl,_,rfl⟩))
theorem afD x {k:Nat}(hk:k<64):0<=IntKind.i64.wrap (IntKind.u64.wrap (((BitVec.ofInt 64 x&&&BitVec.ofInt 64 (k:Int)).toNat:Nat):Int))/\IntKind.i64.wrap (IntKind.u64.wrap (((BitVec.ofInt 64 x&&&BitVec.ofInt 64 (k:Int)).toNat:Nat):Int))<=k:=by
 grind [BitVec.ofInt,BitVec.toNat_and,BitVec.toNat_ofInt,Nat.and_le_right,Ay,eD]
def afE:∀L:Nat,L<50->8<=L->Lib.bitLen L<=6/\(2^Lib.bitLen L:Nat)<=2*L/\2^Lib.bitLen L<=64/\0<2^Lib.bitLen L:=by decide
theorem aln {a L:Int}{k:Nat}(ha:0<=a)(h8:8<=L)(hL:a+L<=m)(hm:m<50)(hk:(k:Int)<2*L)(hk2:k<64):∀d l s i ,Good m l->a<=i->(a+L/4*2+2-i).toNat<=d ->
  SP cv m (d+1) (λc q n=>aX n (arr c.b m) a L (ak q) ((k:Int)+1) i) l (rw' s) (λ_ l' W'=>Bp m a (a+L) l l'/\∃s',W'=rw' s'):=by
 have ht:L.tdiv 4=L/4:=aid (by omega);intro d
 induction d with
 |zero=>
  intro l s i hl h0 h1;refine .body (k':=0) (B:=λc q n=>cm (aX n) n (arr c.b m) a L (ak q) ((k:Int)+1) i) (λ_ _ _=>rfl) (by omega) ?_;unfold cm;simp only[ht,eD (x:=L/4) (by omega),eD (x:=L/4*2) (by omega),eD (x:=a+L/4*2) (by omega),eD (x:=a+L/4*2+1) (by omega)];exact .ck (by decide) (.Gl (by grind) (.pure ⟨.refl,s,rfl⟩))
 |succ d ih=>
  intro l s i hl h0 h1;refine .body (k':=d+1) (B:=λc q n=>cm (aX n) n (arr c.b m) a L (ak q) ((k:Int)+1) i) (λ_ _ _=>rfl) (by omega) ?_;unfold cm;simp only[ht,eD (x:=L/4) (by omega),eD (x:=L/4*2) (by omega),eD (x:=a+L/4*2) (by omega),eD (x:=a+L/4*2+1) (by omega)];refine .ck (by decide) (.ite (λhp=>?_) λ_=>.pure ⟨.refl,s,rfl⟩);have hp:i<=a+L/4*2+1:=by grind
  refine .bind ((afC).mono (by omega)) λx l' W' hr=>?_;obtain⟨rfl,s2,rfl⟩:=hr;have e1:IntKind.u64.wrap ((k:Int)+1-1)=(k:Int):=by grind [Ay]
  simp only[e1];obtain⟨m1,m2⟩:=afD x hk2;generalize IntKind.i64.wrap (IntKind.u64.wrap (((BitVec.ofInt 64 x&&&BitVec.ofInt 64 (k:Int)).toNat:Nat):Int))=o at m1 m2⊢;have go:∀o,0<=o->o<L->SP cv m (d+1) (λc q n=>bS (aX n) n (arr c.b m) a L (ak q) ((k:Int)+1) i o) l' (rw' s2) (λ_ l2 W'=>Bp m a (a+L) l' l2/\∃s',W'=rw' s'):=by
   intro o o1 o2;unfold bS;simp[eD (x:=a+o) (by omega),eD (x:=i+1) (by omega)];have hsw:Bp m a (a+L) l' (swp l' (a+o) i):=.swp hl ha (by omega) (by omega) (by omega) (by omega) (by omega);refine .swap hl (by omega) (by omega) (by omega) (by omega) ?_;exact (ih _ s2 (i+1) (hl.perm hsw.pm) (by omega) (by omega)).post λ_ _ _ hr=>⟨hsw.trans hr.1,hr.2⟩
  refine .ite (λhp=>?_) λhp=>?_
  .have hp:L<=o:=by grind
   rw[eD (by omega)];exact go _ (by omega) (by omega)
  grind
theorem abU {a b:Int}{l}(hl:Good m l)(ha:0<=a)(hab:a<=b)(hb:b<=m)(hm:m<50):SP cv m 60 (λc _ n=>eV n (arr c.b m) a b c.x) l (λ_=>[]) (λ_ l' W'=>Bp m a b l l'/\W'=λ_=>[]):=by
 unfold eV;simp only[eD (x:=b-a) (by omega)];refine .ite (λhp=>?_) λ_=>.pure ⟨.refl,rfl⟩;have hp:8<=b-a:=by grind
 have ht:(b-a).tdiv 4=(b-a)/4:=aid (by omega);obtain⟨L,hL⟩:∃L:Nat,b-a=L:=⟨(b-a).toNat,by omega⟩;obtain⟨p1,p2,p3,p4⟩:=afE L (by omega) (by omega);refine .new rfl (.qst rfl ?_);unfold pn rm fQ;simp only[ht,hL];have hu:IntKind.u64.wrap (L:Int)=L:=Ay (by omega) (by omega);simp only[hu];refine .bind (R1:=λy l' W'=>y=((2^Lib.bitLen L:Nat):Int)/\l'=l/\W'=rw' L) ?_ λy l' W' hr=>?_
 .refine .bind (R1:=λy l' W'=>y=((Lib.bitLen L:Nat):Int)/\l'=l/\W'=rw' L) ?_ λy l' W' hr=>?_
  .refine .bind ?_ λy l' W' hr=>.pure hr;exact .QD (by omega) (.pure ⟨by grind,rfl,rfl⟩)
  .obtain⟨rfl,rfl,rfl⟩:=hr;refine .ck (by simp) (.pure ⟨?_,rfl,rfl⟩);rw[aba,apa (by omega),Int.one_mul]
   grind [Ay]
 .obtain⟨rfl,rfl,rfl⟩:=hr;obtain⟨k,hk⟩:∃k:Nat,2^Lib.bitLen L=k+1:=⟨2^Lib.bitLen L-1,by omega⟩;rw[hk] at p2 p3⊢;have ht2:(L:Int).tdiv 4=(L:Int)/4:=aid (by omega);simp only[ht2,eD (x:=(L:Int)/4) (by omega),eD (x:=(L:Int)/4*2) (by omega),eD (x:=a+(L:Int)/4*2) (by omega),eD (x:=a+(L:Int)/4*2-1) (by omega),Int.natCast_add,Int.cast_ofNat_Int];refine .ck (by decide) (.bind ((aln (k:=k) ha (by omega) (by omega) hm (by omega) (by omega) _ _ _ _ hl (by omega) (abi _)).mono (by omega)) λ_ l' W' hr=>?_);have e:a+(L:Int)=b:=by omega
  rw[e] at hr;exact .pure ⟨hr.1,by grind⟩
theorem abV {a b:Int}(ha:0<=a)(hb:b<=m)(hm:m<50):∀d l i j ,Good m l->a<=i->i<=100->j<b->-2<=j->(j-i).toNat<=d->SP cv m (d+1) (λc _ n=>cW n (arr c.b m) i j) l W (λ_ l' W'=>Bp m a b l l'/\W'=W):=by
 intro d
 induction d with
 |zero=>
  intro l i j hl h0 h9 h1 h2 h3;refine .body (k':=0) (B:=λc _ n=>cD (cW n) n (arr c.b m) i j) (λ_ _ _=>rfl) (by omega) ?_;unfold cD;exact .Gl (by grind) (.pure ⟨.refl,rfl⟩)
 |succ d ih=>
  intro l i j hl h0 h9 h1 h2 h3;refine .body (k':=d+1) (B:=λc _ n=>cD (cW n) n (arr c.b m) i j) (λ_ _ _=>rfl) (by omega) ?_;unfold cD;refine .ite (λhp=>?_) λ_=>.pure ⟨.refl,rfl⟩;have hp:i<j:=by grind
  simp[eD (x:=i+1) (by omega),eD (x:=j-1) (by omega)];have hsw:Bp m a b l (swp l j i):=.swp hl ha hb (by omega) (by omega) (by omega) (by omega);refine .swap hl (by omega) (by omega) (by omega) (by omega) ?_;exact (ih _ (i+1) (j-1) (hl.perm hsw.pm) (by omega) (by omega) (by omega) (by omega) (by omega)).post λ_ _ _ hr=>⟨hsw.trans hr.1,hr.2⟩
def alo {a b:Int}{l}(hl:Good m l)(ha:0<=a)(hab:a<=b)(hb:b<=m)(hm:m<50):SP cv m 60 (λc _ n=>fq n (arr c.b m) a b c.x) l W (λ_ l' W'=>Bp m a b l l'/\W'=W):=by
 unfold fq;simp[eD (x:=b-1) (by omega)];exact .bind ((abV ha hb hm _ l a (b-1) hl (akz _) (by omega) (by omega) (by omega) (abi _)).mono (by omega)) λ_ l' W' hr=>.pure hr
abbrev Pd (cv:Int->Int->Int)(a b:Int)(l:ε):Prop:=∀p,0<a->a<=p->p<b->Lt cv l (a-1) p
theorem Pd.X5 {a b}{l l'}(h:Pd cv a b l)(i:Bp m a b l l')(ha:a<=m):Pd cv a b l':=λp h0 h1 h2=>by
 obtain⟨j,j1,j2,e⟩:=i.X5 p h1 h2;unfold Lt;rw[i.out (a-1) (by omega) (by omega) (by omega),e]
 grind
theorem QE {a b y:Int}{l l2 l3}(o:LO cv l)(hl:Good m l)(ha:0<=a)(hb:b<=m)(p:Par cv a b y l){u v u' v'}(hu:(u=a/\v=y)\/(u=y+1/\v=b))(hu':(u'=a/\v'=y)\/(u'=y+1/\v'=b))(hne:u≠u')(i2:Bp m u v l l2)(i3:Bp m u' v' l2 l3)(s2:MG cv u v l2)(s3:MG cv u' v' l3):MG cv a b l3:=by
 obtain⟨y1,y2,p1,p2⟩:=p;have ey:qL l3 y=qL l y:=by rw[i3.out y (by omega) (by omega) (by omega),i2.out y (by omega) (by omega) (by omega)]
 have left:∀i,a<=i->i<y->∃j,a<=j/\j<y/\qL l3 i=qL l j:=λi h1 h2=>by
  rcases hu' with⟨e1,e2⟩|⟨e1,e2⟩
  .obtain⟨j,j1,j2,e⟩:=i3.X5 i (by omega) (by omega);exact⟨j,by omega,by omega,by rw[e,i2.out j (by omega) (by omega) (by omega)]⟩
  .obtain⟨j,j1,j2,e⟩:=i2.X5 i (by omega) (by omega);exact⟨j,by omega,by omega,by rw[i3.out i (by omega) (by omega) (by omega),e]⟩
 have right:∀i,y<i->i<b->∃j,y<j/\j<b/\qL l3 i=qL l j:=λi h1 h2=>by
  rcases hu' with⟨e1,e2⟩|⟨e1,e2⟩
  .obtain⟨j,j1,j2,e⟩:=i2.X5 i (by omega) (by omega);exact⟨j,by omega,by omega,by rw[i3.out i (by omega) (by omega) (by omega),e]⟩
  .obtain⟨j,j1,j2,e⟩:=i3.X5 i (by omega) (by omega);exact⟨j,by omega,by omega,by rw[e,i2.out j (by omega) (by omega) (by omega)]⟩
 have Gm:∀i j,i<j->((a<=i/\j<y)\/(y<i/\j<b))->Lt cv l3 i j:=λi j h1 h2=>by
  by_cases c:u'<=i/\j<v'
  .exact s3 i j c.1 h1 c.2
  .have:=s2 i j (by omega) h1 (by omega);unfold Lt
   rwa [i3.out i (by omega) (by omega) (by omega),i3.out j (by omega) (by omega) (by omega)]
 have ry:∀j,y<j->j<b->Lt cv l y j:=λj j1 j2=>o.nlt hl (by omega) (by omega) (by omega) (p2 j j1 j2);intro i j h1 h2 h3;by_cases c1:j<y
 .grind
 by_cases c2:y<i
 .grind
 unfold Lt;by_cases c3:i=y
 .grind
 obtain⟨i',q1,q2,e⟩:=left i h1 (by omega);by_cases c4:j=y
 .grind
 obtain⟨j',q3,q4,e'⟩:=right j (by omega) h3;rw[e,e'];exact o.trans hl (by omega) (by omega) (by omega) (p1 i' q1 q2) (ry j' q3 q4)
theorem alp (hm:m<50):∀d l (a b lim:Int) x1 x2 ,Good m l->0<=a->a<=b->b<=m->0<=lim->lim<=64->(b-a).toNat<=d->(LO cv l->Pd cv a b l) ->
  SP cv m (3*d+301) (λc _ n=>(cl n).bE (arr c.b m) a b lim c.x x1 x2) l (λ_=>[]) (PS cv m a b l (λ_=>[]) λ_ l'=>MG cv a b l'):=by
 intro d
 induction d with
 |zero=>
  intro l a b lim x1 x2 hl h0 h1 h2 h3 h4 h5 hpd;refine .body (k':=300) (B:=λc _ n=>dS (cl n) n (arr c.b m) a b lim c.x x1 x2) (λ_ _ _=>rfl) (by omega) ?_;unfold dS;simp only[eD (x:=b-a) (by omega)];exact .QD (by grind) (.bind ((abO hl h0 h1 h2 hm).mono (by omega)) λ_ l' W' hr=>.pure hr)
 |succ d ih=>
  intro l a b lim x1 x2 hl h0 h1 h2 h3 h4 h5 hpd;refine .body (k':=3*d+303) (B:=λc _ n=>dS (cl n) n (arr c.b m) a b lim c.x x1 x2) (λ_ _ _=>rfl) (by omega) ?_;unfold dS;simp only[eD (x:=b-a) (by omega)];refine .ite (λ_=>.bind ((abO hl h0 h1 h2 hm).mono (by omega)) λ_ l' W' hr=>.pure hr) λhp=>?_;have hp:12<b-a:=by grind
  have rec1:∀{l:ε} (a' b' lim':Int),Good m l->0<=a'->a'<=b'->b'<=m->0<=lim'->lim'<=64->(b' - a').toNat<=d->(LO cv l->Pd cv a' b' l)->SP cv m (3*d+303) (λc _ n=>(cl n).de (arr c.b m) a' b' lim' c.x) l (λ_=>[]) (PS cv m a' b' l (λ_=>[]) λ_ l'=>MG cv a' b' l'):=by
   intro l a' b' lim' hl h0 h1 h2 h3 h4 h5 hpd;refine .body (k':=3*d+301) (B:=λc _ n=>eP (cl n) n (arr c.b m) a' b' lim' c.x) (λ_ _ _=>rfl) (by omega) ?_;unfold eP;exact .bind (ih l a' b' lim' true true hl h0 h1 h2 h3 h4 h5 hpd) λ_ l' W' hr=>.pure hr
  have j3:∀{l:ε} (lim':Int) (y1 y2:Bool) (p:Int),Good m l->0<=lim'->lim'<=64->a<=p->p<b->(LO cv l->Pd cv a b l)->SP cv m (3*d+303) (λc _ n=>cX (cl n) n (arr c.b m) a b lim' c.x y1 y2 (b-a) p) l (λ_=>[]) (PS cv m a b l (λ_=>[]) λ_ l'=>MG cv a b l'):=by
   intro l lim' y1 y2 p hl h3 h4 p1 p2 hpd;unfold cX;refine .bind ((afB hl h0 p1 p2 h2 hm).mono (by omega)) λy l' W' hr=>?_;obtain⟨hp',rfl,hpar⟩:=hr;obtain⟨r1,r2,r3,r4⟩:=hpar;have hl':=hl.perm hp'.pm;have pl:LO cv l'->Pd cv a y.1 l':=λo=>λp q1 q2 q3=>(hpd (o.perm hp'.pm.symm)).X5 hp' (by omega) p q1 q2 (by omega);have pr:LO cv l'->Pd cv (y.1+1) b l':=λo=>λp q1 q2 q3=>by
    rw[show y.1+1-1=y.1 by omega];exact o.nlt hl' (by omega) (by omega) (by omega) (r4 p (by omega) q3)
   simp only[eD (x:=y.1+1) (by omega)];refine .ck (by decide) (.ite (λ_=>?_) λ_=>?_)
   .refine .bind (rec1 a y.1 lim' hl' h0 r1 (by omega) h3 h4 (by omega) pl) λ_ l2 W' hr=>?_;obtain⟨i2,rfl,s2⟩:=hr;have hl2:=hl'.perm i2.pm;refine ((ih l2 (y.1+1) b lim' _ y.2 hl2 (by omega) (by omega) h2 h3 h4 (by omega) λo p q1 q2 q3=>?_).mono (by omega)).post λ_ l3 _ hr=>⟨hp'.trans ((i2.wide h0 (akz _) (by omega) h2).trans (hr.1.wide h0 (by omega) (akz _) h2)),hr.2.1,λo=>?_⟩
    .have:=pr (o.perm i2.pm.symm) p q1 q2 q3;unfold Lt at this⊢
     rwa [i2.out _ (by omega) (by omega) (by omega),i2.out p (by omega) (by omega) (by omega)]
    .have o':=o.perm hp'.pm;exact QE o' hl' h0 h2 ⟨r1,r2,r3,r4⟩ (.inl ⟨rfl,rfl⟩) (.inr ⟨rfl,rfl⟩) (by omega) i2 hr.1 (s2 o') (hr.2.2 (o'.perm i2.pm))
   .refine .bind (rec1 (y.1+1) b lim' hl' (by omega) (by omega) h2 h3 h4 (by omega) pr) λ_ l2 W' hr=>?_;obtain⟨i2,rfl,s2⟩:=hr;have hl2:=hl'.perm i2.pm;refine ((ih l2 a y.1 lim' _ y.2 hl2 h0 r1 (by omega) h3 h4 (by omega) λo p q1 q2 q3=>?_).mono (by omega)).post λ_ l3 _ hr=>⟨hp'.trans ((i2.wide h0 (by omega) (akz _) h2).trans (hr.1.wide h0 (akz _) (by omega) h2)),hr.2.1,λo=>?_⟩
    .have:=pl (o.perm i2.pm.symm) p q1 q2 q3;unfold Lt at this⊢
     rwa [i2.out _ (by omega) (by omega) (by omega),i2.out p (by omega) (by omega) (by omega)]
    .have o':=o.perm hp'.pm;exact QE o' hl' h0 h2 ⟨r1,r2,r3,r4⟩ (.inr ⟨rfl,rfl⟩) (.inl ⟨rfl,rfl⟩) (by omega) i2 hr.1 (s2 o') (hr.2.2 (o'.perm i2.pm))
  have j2:∀{l:ε} (lim':Int) (y1 y2:Bool) (p:Int),Good m l->0<=lim'->lim'<=64->a<=p->p<b->(LO cv l->Pd cv a b l)->SP cv m (3*d+303) (λc _ n=>bg (cl n) n (arr c.b m) a b lim' c.x y1 y2 (b-a) p) l (λ_=>[]) (PS cv m a b l (λ_=>[]) λ_ l'=>MG cv a b l'):=by
   intro l lim' y1 y2 p hl h3 h4 p1 p2 hpd;unfold bg;refine .ite (λhq=>?_) λ_=>j3 lim' y1 y2 p hl h3 h4 p1 p2 hpd;have hq:0<a:=by simpa using hq
   simp only[eD (x:=a-1) (by omega)];refine .rc hl (by omega) (by omega) (by omega) (by omega) (.ite (λhlt=>?_) λ_=>j3 lim' y1 y2 p hl h3 h4 p1 p2 hpd);have hlt:¬Lt cv l (a-1) p:=by simpa using hlt
   refine .bind ((abT hl h0 p1 p2 h2 hm).mono (by omega)) λy l' W' hr=>?_;obtain⟨hp',rfl,r1,r2⟩:=hr;exact ((ih l' y b lim' y1 y2 (hl.perm hp'.pm) (by omega) r2 h2 h3 h4 (by omega) λo=>absurd (hpd (o.perm hp'.pm.symm) p hq p1 p2) hlt).mono (by omega)).post λ_ _ _ hr=>⟨hp'.trans (hr.1.wide h0 (by omega) (akz _) h2),hr.2.1,λo=>absurd (hpd o p hq p1 p2) hlt⟩
  have j1:∀{l:ε} (lim':Int) (y1 y2:Bool) (p t:Int),Good m l->0<=lim'->lim'<=64->a<=p->p<b->(LO cv l->Pd cv a b l)->SP cv m (3*d+303) (λc _ n=>cY (cl n) n (arr c.b m) a b lim' c.x y1 y2 (b-a) p t) l (λ_=>[]) (PS cv m a b l (λ_=>[]) λ_ l'=>MG cv a b l'):=by
   intro l lim' y1 y2 p t hl h3 h4 p1 p2 hpd;unfold cY;have e:=j2 lim' y1 y2 p hl h3 h4 p1 p2 hpd;refine .ite (λ_=>.ite (λ_=>.ite (λ_=>?_) λ_=>e) λ_=>e) λ_=>e;refine .bind ((Tn hl h0 (by omega) h2 hm).mono (by omega)) λy l' W' hr=>?_;obtain⟨rfl,rfl,hs⟩:=hr;exact .ite (λhy=>.pure ⟨.refl,rfl,hs hy⟩) λ_=>e
  have j0:∀{l:ε} (lim':Int) (y1 y2:Bool),Good m l->0<=lim'->lim'<=64->(LO cv l->Pd cv a b l)->SP cv m (3*d+303) (λc _ n=>cZ (cl n) n (arr c.b m) a b lim' c.x y1 y2 (b-a)) l (λ_=>[]) (PS cv m a b l (λ_=>[]) λ_ l'=>MG cv a b l'):=by
   intro l lim' y1 y2 hl h3 h4 hpd;unfold cZ;refine .bind ((X4 hl h0 (by omega) h2 hm).mono (by omega)) λy l' W' hr=>?_;obtain⟨rfl,rfl,r1,r2⟩:=hr;refine .ite (λ_=>?_) λ_=>j1 lim' y1 y2 y.1 y.2 hl h3 h4 r1 r2 hpd;simp[eD (x:=b-1) (by omega),eD (x:=y.1-a) (by omega),eD (x:=b-1-(y.1-a)) (by omega)];refine .bind ((alo hl h0 h1 h2 hm).mono (by omega)) λ_ l2 W' hr=>?_;obtain⟨hp',rfl⟩:=hr;exact (j1 lim' y1 y2 (b-1-(y.1-a)) 1 (hl.perm hp'.pm) h3 h4 (by omega) (by omega) λo=>(hpd (o.perm hp'.pm.symm)).X5 hp' (by omega)).post λ_ _ _ hr=>⟨hp'.trans hr.1,hr.2.1,λo=>hr.2.2 (o.perm hp'.pm)⟩
  refine .ite (λ_=>.bind ((afA hl h0 h1 h2 hm).mono (by omega)) λ_ l' W' hr=>.pure hr) λhz=>?_;have hz:lim≠0:=by simpa using hz
  refine .ite (λ_=>?_) λ_=>j0 lim x1 x2 hl h3 h4 hpd;simp[eD (x:=lim-1) (by omega)];refine .bind ((abU hl h0 h1 h2 hm).mono (by omega)) λ_ l' W' hr=>?_;obtain⟨hp',rfl⟩:=hr;exact (j0 (lim-1) x1 x2 (hl.perm hp'.pm) (by omega) (by omega) λo=>(hpd (o.perm hp'.pm.symm)).X5 hp' (by omega)).post λ_ _ _ hr=>⟨hp'.trans hr.1,hr.2.1,λo=>hr.2.2 (o.perm hp'.pm)⟩
def afF:∀L:Nat,L<50->Lib.bitLen L<=6:=by decide
theorem afG {l}(hl:Good m l)(hm:m<50):SP cv m 600 (λc _ n=>(cl n).dU (arr c.b m) c.x) l (λ_=>[]) (PS cv m 0 m l (λ_=>[]) λ_ l'=>MG cv 0 m l'):=by
 refine .body (k':=598) (B:=λc _ n=>kU (cl n) n (arr c.b m) c.x) (λ_ _ _=>rfl) (by omega) ?_;unfold kU rm fQ;have hu:IntKind.u64.wrap (((arr 0 m).len:Nat):Int)=m:=Ay (by grind) (by show (m:Int)<_;omega);have hb:=afF m hm;refine .bind (R1:=λy l' W'=>y=((Lib.bitLen m:Nat):Int)/\l'=l/\(W'=λ_=>[])) ?_ λy l' W' hr=>?_
 .refine .bind ?_ λy l' W' hr=>.pure hr;have:∀c:Cx,IntKind.u64.wrap (((arr c.b m).len:Nat):Int)=m:=λ_=>hu;simp only[this];exact .QD (by omega) (.pure ⟨by grind,rfl,rfl⟩)
 .obtain⟨rfl,rfl,rfl⟩:=hr;refine .bind ?_ λ_ l' W' hr=>.pure hr;refine .body (k':=500) (B:=λc _ n=>eP (cl n) n (arr c.b m) 0 (m:Int) (Lib.bitLen m:Nat) c.x) (λ_ _ _=>rfl) (by omega) ?_;unfold eP;exact .bind ((alp hm m l' 0 m _ true true hl (by omega) (by omega) (by omega) (by omega) (by omega) (by omega) λ_ p q1=>by omega).mono (by omega)) λ_ l' W' hr=>.pure hr
theorem Oa cv {m}(hm:m<50){l}(hl:Good m l):∃l',(l'.Perm l/\(LO cv l->l'.Pairwise λu v=>cv u v<0))/\∀(c:Cx) P h n ,c.m=m->c.OK cv->c.k+600<=n->c.St P h l ->
  Wp ((cl n).dU (arr c.b m) c.x) h λ_ h'=>c.St P h' l':=by
 obtain⟨y,l',W',⟨hp,rfl,hs⟩,hx⟩:=afG (cv:=cv) hl hm;refine⟨l',⟨hp.pm,λo=>?_⟩,λc P h n h1 h2 h3 st=>(hx c P h 0 n h1 h2 h3 (by grind)).mono λ_ h' x=>by grind⟩;have hs:=hs o;have hl':=hl.perm hp.pm;rw[List.pairwise_iff_getElem];intro i j hi hj hij;have:=hs i j (by omega) (by omega) (by have:=hl'.1;omega);have e:∀(k:Nat) (hk:k<l'.length),qL l' (k:Int)=l'[k]:=λk hk=>by grind [qL,Int.toNat_natCast,List.getElem?_eq_getElem]
 grind
end
end Go.Sh
