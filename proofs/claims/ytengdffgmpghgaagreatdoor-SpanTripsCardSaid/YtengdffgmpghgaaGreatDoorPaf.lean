
import Derived.Test.YtengdffgmpghgaaGreatDoorPac
set_option linter.all false
namespace Go.Sh
open Go Go.Ago Go.Proofs
section
variable {α β:Type}
abbrev cl (n:Nat):aa:=aa.at n
abbrev ahb (n:Nat)(x:ξ)(a b:Int):M Int:=au (cl n) n x a b
structure Cx where
 h0:ab
 b:Nat
 m:Nat
 x:ξ
 k:Nat
 T:List bA->Prop
def Cx.St (c:Cx)(P:List bA)(h:ab)(l:ε):Prop:=∃L,c.T L/\Z c.h0 h (.av c.b (l.map vi) ar::(P++L))
def Cx.OK (cv:Int->Int->Int)(c:Cx):Prop:=∀(n:Nat) (u v:Int) (h:ab) (R L:List bA),c.k<=n->0<=u->u<(c.m:Int)->0<=v->v<(c.m:Int)->c.T L->Z c.h0 h (R++L) ->
 Wp (ahb n c.x u v) h λr h'=>r=cv u v/\∃L',c.T L'/\Z c.h0 h' (R++L')
def SP (cv:Int->Int->Int)(m k:Nat)(f:Cx->Nat->Nat->M α)(l:ε)(W:Nat->List bA)(R:α->ε->(Nat->List bA)->Prop):Prop:=
 ∃y l' W',R y l' W'/\∀(c:Cx) (P:List bA) (h:ab) (q n:Nat),c.m=m->c.OK cv->c.k+k<=n->c.St (W q++P) h l->Wp (f c q n) h λz h'=>z=y/\c.St (W' q++P) h' l'
def Good (m:Nat)(l:ε):Prop:=l.length=m/\∀v∈l,0<=v/\v<(m:Int)
theorem Good.perm {m:Nat}{l l':ε}(hl:Good m l)(hp:l'.Perm l):Good m l':=⟨hp.length_eq.trans hl.1,λv hv=>hl.2 v (hp.mem_iff.1 hv)⟩
def Zi (l:ε)(i:Int):Int:=(l[i.toNat]?).getD 0
theorem v7 {m:Nat}{l:ε}(hl:Good m l){i:Int}(h1:0<=i)(h2:i<m):l[i.toNat]?=some (Zi l i)/\0<=Zi l i/\Zi l i<m:=by
 obtain⟨v,hv⟩:=dS (l:=l) (i:=i.toNat) (by have:=hl.1;omega);have:Zi l i=v:=by unfold Zi;rw[hv];rfl
 rw[this];exact⟨hv,hl.2 v (BY hv)⟩
def swp (l:ε)(i j:Int):ε:=(l.set j.toNat (Zi l i)).set i.toNat (Zi l j)
theorem mW {m:Nat}{l:ε}(hl:Good m l){i j:Int}(h1:0<=i)(h2:i<m)(h3:0<=j)(h4:j<m):(swp l i j).Perm l:=by
 have hi:=(v7 hl h1 h2).1;have hj:=(v7 hl h3 h4).1;have hil:i.toNat<l.length:=aP hi;have hjl:j.toNat<l.length:=aP hj;have e1:Zi l i=l[i.toNat]:=by grind
 have e2:Zi l j=l[j.toNat]:=by grind
 unfold swp;rw[e1,e2];exact List.set_set_perm hjl hil
section
variable {cv:Int->Int->Int}{m k:Nat}{l:ε}{W:Nat->List bA}
theorem SP.pure {y:α}{R:α->ε->(Nat->List bA)->Prop}(h:R y l W):SP cv m k (λ_ _ _=>AI y) l W R:=⟨y,l,W,h,λc P h q n _ _ _ st=>af.2 ⟨rfl,st⟩⟩
theorem SP.bind {f:Cx->Nat->Nat->M α}{g:Cx->Nat->Nat->α->M β}{R1:α->ε->(Nat->List bA)->Prop}{R2:β->ε->(Nat->List bA)->Prop}(hf:SP cv m k f l W R1)
  (hg:∀y l' W',R1 y l' W'->SP cv m k (λc q n=>g c q n y) l' W' R2):SP cv m k (λc q n=>sh (f c q n) (g c q n)) l W R2:=by
 obtain⟨y,l',W',r,hx⟩:=hf;obtain⟨z,l2,W2,r2,hy⟩:=hg y l' W' r;refine⟨z,l2,W2,r2,λc P h q n h1 h2 h3 st=>?_⟩;rw[ag];exact (hx c P h q n h1 h2 h3 st).mono λu h' ⟨e,st'⟩=>by subst e;exact hy c P h' q n h1 h2 h3 st'
theorem SP.mono {k':Nat}{f:Cx->Nat->Nat->M α}{R:α->ε->(Nat->List bA)->Prop}(hk:k<=k')(hs:SP cv m k f l W R):SP cv m k' f l W R:=by
 obtain⟨y,l',W',r,hx⟩:=hs;exact⟨y,l',W',r,λc P h q n h1 h2 h3 st=>hx c P h q n h1 h2 (by omega) st⟩
theorem SP.post {f:Cx->Nat->Nat->M α}{R R':α->ε->(Nat->List bA)->Prop}(hs:SP cv m k f l W R)(hr:∀y l' W',R y l' W'->R' y l' W'):SP cv m k f l W R':=by
 obtain⟨y,l',W',r,hx⟩:=hs;exact⟨y,l',W',hr _ _ _ r,hx⟩
theorem SP.succ {F B:Cx->Nat->Nat->M α}{R:α->ε->(Nat->List bA)->Prop}(hF:∀c q n,F c q (n+1)=B c q n)(hs:SP cv m k B l W R):SP cv m (k+1) F l W R:=by
 obtain⟨y,l',W',r,hx⟩:=hs;refine⟨y,l',W',r,λc P h q n h1 h2 h3 st=>?_⟩;obtain⟨n,rfl⟩:∃n',n=n'+1:=⟨n-1,by omega⟩;rw[hF];exact hx c P h q n h1 h2 (by omega) st
variable {R:β->ε->(Nat->List bA)->Prop}
theorem SP.LZ {p:Prop}[Decidable p]{a b:Cx->Nat->Nat->M β}(hp:p)(hs:SP cv m k a l W R):SP cv m k (λc q n=>if p then a c q n else b c q n) l W R:=by
 simp only[By hp];exact hs
theorem SP.BR {p:Prop}[Decidable p]{a b:Cx->Nat->Nat->M β}(hp:¬p)(hs:SP cv m k b l W R):SP cv m k (λc q n=>if p then a c q n else b c q n) l W R:=by
 simp only[AT hp];exact hs
theorem SP.ite {p:Prop}[Decidable p]{a b:Cx->Nat->Nat->M β}(ha:p->SP cv m k a l W R)(hb:¬p->SP cv m k b l W R):SP cv m k (λc q n=>if p then a c q n else b c q n) l W R:=by
 by_cases hp:p
 .exact .LZ hp (ha hp)
 .exact .BR hp (hb hp)
theorem SP.wp {f:Cx->Nat->Nat->M α}{g:Cx->Nat->Nat->α->M β}{v:Cx->Nat->α}{l2:ε}{W2:Nat->List bA}(hf:∀(c:Cx) P h q n,c.m=m->c.OK cv->c.k+k<=n->c.St (W q++P) h l->Wp (f c q n) h λz h'=>z=v c q/\c.St (W2 q++P) h' l2)
  (hg:SP cv m k (λc q n=>g c q n (v c q)) l2 W2 R):SP cv m k (λc q n=>sh (f c q n) (g c q n)) l W R:=by
 obtain⟨z,l3,W3,r2,hy⟩:=hg;refine⟨z,l3,W3,r2,λc P h q n h1 h2 h3 st=>?_⟩;rw[ag];exact (hf c P h q n h1 h2 h3 st).mono λu h' ⟨e,st'⟩=>by subst e;exact hy c P h' q n h1 h2 h3 st'
theorem SP.ix {i:Int}{g:Cx->Nat->Nat->Addr->M β}(h1:0<=i)(h2:i<(m:Int))(hg:SP cv m k (λc q n=>g c q n ⟨c.b,i.toNat,none⟩) l W R):SP cv m k (λc q n=>sh (an (arr c.b m) i 1) (g c q n)) l W R:=
 SP.wp (v:=λc _=>⟨c.b,i.toNat,none⟩) (λc P h q n _ _ _ st=>by
  have:=It (b:=c.b) (m:=m) (h:=h) (Q:=λ(z:Addr) h'=>z=⟨c.b,i.toNat,none⟩/\c.St (W q++P) h' l) (f:=AI) h1 (by omega) (af.2 ⟨rfl,st⟩);rw[ag] at this;exact this.mono λa h' x=>af.1 x) hg
theorem SP.ld {i:Nat}{v:Int}{g:Cx->Nat->Nat->Int->M β}(hv:l[i]?=some v)(hg:SP cv m k (λc q n=>g c q n v) l W R):SP cv m k (λc q n=>sh (ak li ⟨c.b,i,none⟩) (g c q n)) l W R:=
 SP.wp (v:=λ_ _=>v) (λc P h q n _ _ _ st=>by
  obtain⟨L,h1,z⟩:=st;rw[wj];exact⟨v,LB.ld (z.get 0 rfl) (by rw[aal,hv];rfl) rfl,rfl,L,h1,z⟩) hg
theorem SP.st {i:Nat}{v:Int}{g:Cx->Nat->Nat->Unit->M β}(hi:i<l.length)(hg:SP cv m k (λc q n=>g c q n ()) (l.set i v) W R):SP cv m k (λc q n=>sh (bD ⟨c.b,i,none⟩ [vi v]) (g c q n)) l W R:=
 SP.wp (v:=λ_ _=>()) (λc P h q n _ _ _ st=>by
  obtain⟨L,h1,z⟩:=st;have:=z.A2 0 (k:=i) (v:=v) (enc:=vi) (xs:=l) (f:=AI) (Q:=λ(_:Unit) h'=>()=()/\c.St (W q++P) h' (l.set i v)) hi (λh' z=>af.2 ⟨rfl,L,h1,z⟩);rw[ag] at this;exact this.mono λa h' x=>af.1 x) hg
theorem SP.cmp {u v:Int}{g:Cx->Nat->Nat->Int->M β}(h1:0<=u/\u<(m:Int))(h2:0<=v/\v<(m:Int))(hg:SP cv m k (λc q n=>g c q n (cv u v)) l W R):SP cv m k (λc q n=>sh (ahb n c.x u v) (g c q n)) l W R:=
 SP.wp (v:=λ_ _=>cv u v) (λc P h q n hm hc hk st=>by
  obtain⟨L,h3,z⟩:=st;have:=hc n u v h (.av c.b (l.map vi) ar::(W q++P)) L (by omega) h1.1 (by rw[hm];exact h1.2) h2.1 (by rw[hm];exact h2.2) h3 (by simpa using z);exact this.mono λr h' ⟨e,L',h4,z⟩=>⟨e,L',h4,by simpa using z⟩) hg
theorem SP.ck {b:Bool}{g:Cx->Nat->Nat->Unit->M β}(hb:b=true)(hg:SP cv m k (λc q n=>g c q n ()) l W R):SP cv m k (λc q n=>sh (ou b) (g c q n)) l W R:=
 SP.wp (v:=λ_ _=>()) (λc P h q n _ _ _ st=>Py.2 ⟨hb,rfl,st⟩) hg
theorem SP.nn {a:Cx->Nat->Addr}{g:Cx->Nat->Nat->Addr->M β}(hg:SP cv m k (λc q n=>g c q n (a c q)) l W R):SP cv m k (λc q n=>sh (Ago.nn (some (a c q))) (g c q n)) l W R:=
 SP.wp (v:=a) (λc P h q n _ _ _ st=>pI.2 ⟨rfl,st⟩) hg
theorem SP.swap {i j:Int}{g:Cx->Nat->Nat->Unit->M β}(hl:Good m l)(h1:0<=i)(h2:i<(m:Int))(h3:0<=j)(h4:j<(m:Int))(hg:SP cv m k (λc q n=>g c q n ()) (swp l i j) W R) :
  SP cv m k (λc q n=>sh (an (arr c.b m) i 1) λx0=>sh (an (arr c.b m) j 1) λx1=>sh (ak li x0) λ(x2:Int)=>sh (ak li x1) λ(x3:Int)=>
   sh (an (arr c.b m) j 1) λx4=>sh (bD x4 [vi x2]) λ_=>sh (an (arr c.b m) i 1) λx6=>sh (bD x6 [vi x3]) (g c q n)) l W R:=
 .ix h1 h2 (.ix h3 h4 (.ld (v7 hl h1 h2).1 (.ld (v7 hl h3 h4).1 (.ix h3 h4 (.st (by have:=hl.1;omega) (.ix h1 h2 (.st (by rw[aiw];have:=hl.1;omega) hg)))))))
theorem SP.rc {i j:Int}{g:Cx->Nat->Nat->Int->M β}(hl:Good m l)(h1:0<=i)(h2:i<(m:Int))(h3:0<=j)(h4:j<(m:Int))(hg:SP cv m k (λc q n=>g c q n (cv (Zi l i) (Zi l j))) l W R) :
  SP cv m k (λc q n=>sh (an (arr c.b m) i 1) λx0=>sh (an (arr c.b m) j 1) λx1=>sh (ak li x0) λ(x2:Int)=>sh (ak li x1) λ(x3:Int)=>sh (ahb n c.x x2 x3) (g c q n)) l W R:=
 .ix h1 h2 (.ix h3 h4 (.ld (v7 hl h1 h2).1 (.ld (v7 hl h3 h4).1 (.cmp (v7 hl h1 h2).2 (v7 hl h3 h4).2 hg))))
theorem SP.new {t:κ}{v:ξ}{g:Cx->Nat->Nat->M β}(hs:eB v=true)(hg:SP cv m k (λc q n=>g c n q) l (λq=>[.av q [v] t]) λy l' _=>R y l' λ_=>[]):SP cv m k (λc _ n=>sh (aJ none t [v]) (g c n)) l (λ_=>[]) R:=by
 obtain⟨y,l',W',r,hx⟩:=hg;refine⟨y,l',_,r,λc P h q n h1 h2 h3 st=>?_⟩;obtain⟨L,h4,z⟩:=st;refine z.new (λb h' z _=>?_) (by simp[hs]);refine (hx c P h' b n h1 h2 h3 ⟨L,h4,z.perm (List.Perm.swap ..)⟩).mono λu h2 ⟨e,L',h5,z⟩=>⟨e,L',h5,z.sub ?_⟩
 grind
theorem SP.qld {t:κ}{v:ξ}{lf:eD}{x:lf.den}{g:Cx->Nat->Nat->lf.den->M β}(hx:AX lf v=some x)(hg:SP cv m k (λc q n=>g c q n x) l (λq=>[.av q [v] t]) R) :
  SP cv m k (λc q n=>sh (ak lf ⟨q,0,none⟩) (g c q n)) l (λq=>[.av q [v] t]) R:=
 SP.wp (v:=λ_ _=>x) (λc P h q n _ _ _ st=>by
  obtain⟨L,h1,z⟩:=st;rw[wj];exact⟨x,LB.ld (z.get 1 rfl) rfl hx,rfl,L,h1,z⟩) hg
theorem SP.qst {t:κ}{v v':ξ}{g:Cx->Nat->Nat->Unit->M β}(hs:eB v'=true)(hg:SP cv m k (λc q n=>g c q n ()) l (λq=>[.av q [v'] t]) R) :
  SP cv m k (λc q n=>sh (bD ⟨q,0,none⟩ [v']) (g c q n)) l (λq=>[.av q [v] t]) R:=
 SP.wp (v:=λ_ _=>()) (W2:=λq=>[.av q [v'] t]) (λc P h q n _ _ _ st=>by
  obtain⟨L,h1,z⟩:=st;have:=z.st 1 (o:=0) (cs:=[v]) (vs:=[v']) (cs':=[v']) (f:=AI) (Q:=λ(_:Unit) h'=>()=()/\c.St ([bA.av q [v'] t]++P) h' l) (λh' z=>af.2 ⟨rfl,L,h1,z⟩) (hs:=by simp[hs]);rw[ag] at this;exact this.mono λa h' x=>af.1 x) hg
end
abbrev Pr (l:ε)(W:Nat->List bA):α->ε->(Nat->List bA)->Prop:=λ_ l' W'=>l'.Perm l/\W'=W
theorem dT {x:Int}(h:-4611686018427387904<=x/\x<=4611686018427387904):IntKind.i64.wrap x=x:=tA (by omega) (by omega)
section
variable {cv:Int->Int->Int}{m:Nat}{W:Nat->List bA}
theorem Zj {a b i:Int}(ha:0<=a)(hm:m<50):∀(d:Nat) (l:ε) (j:Int),Good m l->(j-a).toNat<=d->j<m->SP cv m (d+1) (λc _ n=>(cl n).bQ (arr c.b m) a b c.x i j) l W (Pr l W):=by
 intro d
 induction d with
 |zero=>
  intro l j hl h1 h2;refine .succ (B:=λc _ n=>cq (cl n) n (arr c.b m) a b c.x i j) (λ_ _ _=>rfl) ?_;unfold cq;exact .BR (by simp;omega) (.pure ⟨.refl _,rfl⟩)
 |succ d ih=>
  intro l j hl h1 h2;refine .succ (B:=λc _ n=>cq (cl n) n (arr c.b m) a b c.x i j) (λ_ _ _=>rfl) ?_;unfold cq;refine .ite (λhp=>?_) λ_=>.pure ⟨.refl _,rfl⟩;have hp:a<j:=by simpa using hp
  simp only[dT (x:=j-1) (by omega)];refine .rc hl (by omega) h2 (by omega) (by omega) (.ite (λ_=>?_) λ_=>.pure ⟨.refl _,rfl⟩);unfold eC;simp only[dT (x:=j-1) (by omega)];have hsw:=mW hl (i:=j-1) (j:=j) (by omega) (by omega) (by omega) h2;refine .swap hl (by omega) (by omega) (by omega) h2 ?_;exact (ih _ (j-1) (hl.perm hsw) (by omega) (by omega)).post λ_ _ _ hr=>⟨hr.1.trans hsw,hr.2⟩
end
end
section
variable {cv:Int->Int->Int}{m:Nat}{W:Nat->List bA}
theorem SP.body {α:Type}{k k':Nat}{l:ε}{F B:Cx->Nat->Nat->M α}{R:α->ε->(Nat->List bA)->Prop}(hF:∀c q n,F c q (n+1)=B c q n)(hk:k'+1<=k)(hs:SP cv m k' B l W R):SP cv m k F l W R:=(SP.succ hF hs).mono hk
theorem Zk {a b:Int}(ha:0<=a)(hb:b<=m)(hm:m<50):∀(d:Nat) (l:ε) (i:Int),Good m l->0<=i->(b-i).toNat<=d->SP cv m (d+60) (λc _ n=>(cl n).bR (arr c.b m) a b c.x i) l W (Pr l W):=by
 intro d
 induction d with
 |zero=>
  intro l i hl h0 h1;refine .body (k':=10) (B:=λc _ n=>cw (cl n) n (arr c.b m) a b c.x i) (λ_ _ _=>rfl) (by omega) ?_;unfold cw;exact .BR (by simp;omega) (.pure ⟨.refl _,rfl⟩)
 |succ d ih=>
  intro l i hl h0 h1;refine .body (k':=d+60) (B:=λc _ n=>cw (cl n) n (arr c.b m) a b c.x i) (λ_ _ _=>rfl) (by omega) ?_;unfold cw;refine .ite (λhp=>?_) λ_=>.pure ⟨.refl _,rfl⟩;have hp:i<b:=by simpa using hp
  simp only[dT (x:=i+1) (by omega)];refine .bind ((Zj ha hm (i-a).toNat l i hl (aae _) (by omega)).mono (by omega)) λ_ l' W' hr=>?_;obtain⟨hp',rfl⟩:=hr;exact (ih l' (i+1) (hl.perm hp') (by omega) (by omega)).post λ_ _ _ hr=>⟨hr.1.trans hp',hr.2⟩
theorem Zl {a b:Int}{l:ε}(hl:Good m l)(ha:0<=a)(hab:a<=b)(hb:b<=m)(hm:m<50):SP cv m 120 (λc _ n=>(cl n).dw (arr c.b m) a b c.x) l W (Pr l W):=by
 refine .body (k':=118) (B:=λc _ n=>gh (cl n) n (arr c.b m) a b c.x) (λ_ _ _=>rfl) (by omega) ?_;unfold gh;simp only[dT (x:=a+1) (by omega)];exact .bind ((Zk ha hb hm (b-(a+1)).toNat l (a+1) hl (by omega) (aae _)).mono (by omega)) λ_ l' W' hr=>.pure hr
theorem VA {hi first:Int}(hf:0<=first)(hh:first+hi<=m)(hm:m<50):∀(d:Nat) (l:ε) (root:Int),Good m l->0<=root->root<=100->(hi-root).toNat<=d->SP cv m (d+1) (λc _ n=>(cl n).cJ (arr c.b m) hi first c.x root) l W (Pr l W):=by
 intro d
 induction d with
 |zero=>
  intro l root hl h0 h9 h1;refine .body (k':=0) (B:=λc _ n=>dv (cl n) n (arr c.b m) hi first c.x root) (λ_ _ _=>rfl) (by omega) ?_
  unfold dv;simp only[dT (x:=2*root) (by omega),dT (x:=2*root+1) (by omega)];exact .LZ (by simp;omega) (.pure ⟨.refl _,rfl⟩)
 |succ d ih=>
  intro l root hl h0 h9 h1;have key:∀child,root<child->child<hi->SP cv m (d+1) (λc _ n=>bP (cl n) n (arr c.b m) hi first c.x root child) l W (Pr l W):=by
   intro ch h2 h3;unfold bP;simp only[dT (x:=first+root) (by omega),dT (x:=first+ch) (by omega)]
   refine .rc hl (by omega) (by omega) (by omega) (by omega) (.ite (λ_=>.pure ⟨.refl _,rfl⟩) λ_=>?_);have hsw:=mW hl (i:=first+ch) (j:=first+root) (by omega) (by omega) (by omega) (by omega)
   refine .swap hl (by omega) (by omega) (by omega) (by omega) ?_;exact (ih _ ch (hl.perm hsw) (by omega) (by omega) (by omega)).post λ_ _ _ hr=>⟨hr.1.trans hsw,hr.2⟩
  refine .body (k':=d+1) (B:=λc _ n=>dv (cl n) n (arr c.b m) hi first c.x root) (λ_ _ _=>rfl) (by omega) ?_
  unfold dv;simp only[dT (x:=2*root) (by omega),dT (x:=2*root+1) (by omega),dT (x:=2*root+1+1) (by omega)];refine .ite (λ_=>.pure ⟨.refl _,rfl⟩) λhp=>?_;have hp:2*root+1<hi:=by simpa using hp
  refine .ite (λhp2=>?_) λ_=>key _ (by omega) hp;have hp2:2*root+1+1<hi:=by simpa using hp2
  simp only[dT (x:=first+(2*root+1)) (by omega),dT (x:=first+(2*root+1)+1) (by omega)]
  exact .rc hl (by omega) (by omega) (by omega) (by omega) (.ite (λ_=>key _ (by omega) hp2) λ_=>key _ (by omega) hp)
theorem SW {lo hi first:Int}{l:ε}(hl:Good m l)(h0:0<=lo)(h9:lo<=100)(hf:0<=first)(hh:first+hi<=m)(hm:m<50):SP cv m 60 (λc _ n=>(cl n).dH (arr c.b m) lo hi first c.x) l W (Pr l W):=by
 refine .body (k':=58) (B:=λc _ n=>iT (cl n) n (arr c.b m) lo hi first c.x) (λ_ _ _=>rfl) (by omega) ?_
 unfold iT;refine .bind ((VA hf hh hm (hi-lo).toNat l lo hl h0 h9 (aae _)).mono (by omega)) λy l' W' hr=>?_;cases y<;>exact .pure hr
theorem VB {first lo hi:Int}(hf:0<=first)(hh:first+hi<=m)(hm:m<50):∀(d:Nat) (l:ε) (i:Int),Good m l->i<=100->(i+1).toNat<=d->-1<=i->SP cv m (d+61) (λc _ n=>(cl n).cH (arr c.b m) c.x first lo hi i) l W (Pr l W):=by
 intro d
 induction d with
 |zero=>
  intro l i hl h9 h1 h2;refine .body (k':=0) (B:=λc _ n=>dq (cl n) n (arr c.b m) c.x first lo hi i) (λ_ _ _=>rfl) (by omega) ?_
  unfold dq;exact .BR (by simp;omega) (.pure ⟨.refl _,rfl⟩)
 |succ d ih=>
  intro l i hl h9 h1 h2;refine .body (k':=d+61) (B:=λc _ n=>dq (cl n) n (arr c.b m) c.x first lo hi i) (λ_ _ _=>rfl) (by omega) ?_
  unfold dq;refine .ite (λhp=>?_) λ_=>.pure ⟨.refl _,rfl⟩;have hp:0<=i:=by simpa using hp
  simp only[dT (x:=i-1) (by omega)];refine .bind ((SW hl hp h9 hf hh hm).mono (by omega)) λ_ l' W' hr=>?_;obtain⟨hp',rfl⟩:=hr;exact (ih l' (i-1) (hl.perm hp') (by omega) (by omega) (by omega)).post λ_ _ _ hr=>⟨hr.1.trans hp',hr.2⟩
theorem VC {first lo:Int}(hlo:0<=lo/\lo<=100)(hf:0<=first)(hm:m<50):∀(d:Nat) (l:ε) (i:Int),Good m l->first+i<m->(i+1).toNat<=d->-1<=i->SP cv m (d+61) (λc _ n=>(cl n).cI (arr c.b m) c.x first lo i) l W (Pr l W):=by
 intro d
 induction d with
 |zero=>
  intro l i hl h9 h1 h2;refine .body (k':=0) (B:=λc _ n=>du (cl n) n (arr c.b m) c.x first lo i) (λ_ _ _=>rfl) (by omega) ?_
  unfold du;exact .BR (by simp;omega) (.pure ⟨.refl _,rfl⟩)
 |succ d ih=>
  intro l i hl h9 h1 h2;refine .body (k':=d+61) (B:=λc _ n=>du (cl n) n (arr c.b m) c.x first lo i) (λ_ _ _=>rfl) (by omega) ?_
  unfold du;refine .ite (λhp=>?_) λ_=>.pure ⟨.refl _,rfl⟩;have hp:0<=i:=by simpa using hp
  simp only[dT (x:=i-1) (by omega),dT (x:=first+i) (by omega)]
  have hsw:=mW hl (i:=first+i) (j:=first) (by omega) (by omega) (by omega) (by omega)
  refine .swap hl (by omega) (by omega) (by omega) (by omega) ?_;refine .bind ((SW (hl.perm hsw) hlo.1 hlo.2 hf (by omega) hm).mono (by omega)) λ_ l' W' hr=>?_;obtain⟨hp',rfl⟩:=hr;exact (ih l' (i-1) ((hl.perm hsw).perm hp') (by omega) (by omega) (by omega)).post λ_ _ _ hr=>⟨(hr.1.trans hp').trans hsw,hr.2⟩
theorem acz {a b:Int}{l:ε}(hl:Good m l)(ha:0<=a)(hab:a<=b)(hb:b<=m)(hm:m<50):SP cv m 200 (λc _ n=>(cl n).eO (arr c.b m) a b c.x) l W (Pr l W):=by
 refine .body (k':=198) (B:=λc _ n=>iS (cl n) n (arr c.b m) a b c.x) (λ_ _ _=>rfl) (by omega) ?_;unfold iS;have ht:((b-a-1).tdiv 2)<=60/\-1<=(b-a-1).tdiv 2:=by
  grind
 simp only[dT (x:=b-a) (by omega),dT (x:=b-a-1) (by omega),dT (x:=(b-a-1).tdiv 2) (by omega)];refine .ck (by decide) (.bind ((VB ha (by omega) hm _ l _ hl (by omega) (aae _) ht.2).mono (by omega)) λ_ l' W' hr=>?_);obtain⟨hp',rfl⟩:=hr;refine .bind ((VC (by omega) ha hm _ l' (b-a-1) (hl.perm hp') (by omega) (aae _) (by omega)).mono (by omega)) λ_ l2 W2 hr=>?_;exact .pure ⟨hr.1.trans hp',hr.2⟩
abbrev Sc (l:ε)(W:Nat->List bA)(lo hi:Int):Int->ε->(Nat->List bA)->Prop:=λy l' W'=>l'=l/\W'=W/\lo<=y/\y<=hi
theorem ahc {a:Int}{l:ε}(hl:Good m l)(ha:0<=a/\a<m){j:Int}(hj:j<m)(hm:m<50):∀(d:Nat) (i:Int),0<=i->i<=100->(j+1-i).toNat<=d->SP cv m (d+1) (λc _ n=>(cl n).cG (arr c.b m) a c.x i j) l W (Sc l W i (max i (j+1))):=by
 intro d
 induction d with
 |zero=>
  intro i h0 h9 h1;refine .body (k':=0) (B:=λc _ n=>db (cl n) n (arr c.b m) a c.x i j) (λ_ _ _=>rfl) (by omega) ?_;unfold db;exact .BR (by simp;omega) (.pure ⟨rfl,rfl,by omega,by omega⟩)
 |succ d ih=>
  intro i h0 h9 h1;refine .body (k':=d+1) (B:=λc _ n=>db (cl n) n (arr c.b m) a c.x i j) (λ_ _ _=>rfl) (by omega) ?_;unfold db;refine .ite (λhp=>?_) λ_=>.pure ⟨rfl,rfl,by omega,by omega⟩;have hp:i<=j:=by simpa using hp
  simp only[dT (x:=i+1) (by omega)];exact .rc hl (by omega) (by omega) (by omega) (by omega) (.ite (λ_=>(ih (i+1) (by omega) (by omega) (by omega)).post λ_ _ _ hr=>⟨hr.1,hr.2.1,by omega,by omega⟩) λ_=>.pure ⟨rfl,rfl,by omega,by omega⟩)
theorem ahd {a:Int}{l:ε}(hl:Good m l)(ha:0<=a/\a<m){i:Int}(hi:0<=i)(hm:m<50):∀(d:Nat) (j:Int),j<m->-2<=j->(j+1-i).toNat<=d->SP cv m (d+1) (λc _ n=>(cl n).cF (arr c.b m) a c.x i j) l W (Sc l W (min (i-1) j) j):=by
 intro d
 induction d with
 |zero=>
  intro j h0 h9 h1;refine .body (k':=0) (B:=λc _ n=>da (cl n) n (arr c.b m) a c.x i j) (λ_ _ _=>rfl) (by omega) ?_;unfold da;exact .BR (by simp;omega) (.pure ⟨rfl,rfl,by omega,by omega⟩)
 |succ d ih=>
  intro j h0 h9 h1;refine .body (k':=d+1) (B:=λc _ n=>da (cl n) n (arr c.b m) a c.x i j) (λ_ _ _=>rfl) (by omega) ?_;unfold da;refine .ite (λhp=>?_) λ_=>.pure ⟨rfl,rfl,by omega,by omega⟩;have hp:i<=j:=by simpa using hp
  simp only[dT (x:=j-1) (by omega)];exact .rc hl (by omega) (by omega) (by omega) (by omega) (.ite (λ_=>(ih (j-1) (by omega) (by omega) (by omega)).post λ_ _ _ hr=>⟨hr.1,hr.2.1,by omega,by omega⟩) λ_=>.pure ⟨rfl,rfl,by omega,by omega⟩)
theorem Zm {a:Int}{l:ε}(hl:Good m l)(ha:0<=a/\a<m){j:Int}(hj:j<m)(hm:m<50):∀(d:Nat) (i:Int),0<=i->i<=100->(j+1-i).toNat<=d->SP cv m (d+1) (λc _ n=>(cl n).cC (arr c.b m) a c.x i j) l W (Sc l W i (max i (j+1))):=by
 intro d
 induction d with
 |zero=>
  intro i h0 h9 h1;refine .body (k':=0) (B:=λc _ n=>cY (cl n) n (arr c.b m) a c.x i j) (λ_ _ _=>rfl) (by omega) ?_;unfold cY;exact .BR (by simp;omega) (.pure ⟨rfl,rfl,by omega,by omega⟩)
 |succ d ih=>
  intro i h0 h9 h1;refine .body (k':=d+1) (B:=λc _ n=>cY (cl n) n (arr c.b m) a c.x i j) (λ_ _ _=>rfl) (by omega) ?_;unfold cY;refine .ite (λhp=>?_) λ_=>.pure ⟨rfl,rfl,by omega,by omega⟩;have hp:i<=j:=by simpa using hp
  simp only[dT (x:=i+1) (by omega)];exact .rc hl (by omega) (by omega) (by omega) (by omega) (.ite (λ_=>(ih (i+1) (by omega) (by omega) (by omega)).post λ_ _ _ hr=>⟨hr.1,hr.2.1,by omega,by omega⟩) λ_=>.pure ⟨rfl,rfl,by omega,by omega⟩)
theorem Zn {a:Int}{l:ε}(hl:Good m l)(ha:0<=a/\a<m){i:Int}(hi:0<=i)(hm:m<50):∀(d:Nat) (j:Int),j<m->-2<=j->(j+1-i).toNat<=d->SP cv m (d+1) (λc _ n=>(cl n).cB (arr c.b m) a c.x i j) l W (Sc l W (min (i-1) j) j):=by
 intro d
 induction d with
 |zero=>
  intro j h0 h9 h1;refine .body (k':=0) (B:=λc _ n=>cX (cl n) n (arr c.b m) a c.x i j) (λ_ _ _=>rfl) (by omega) ?_;unfold cX;exact .BR (by simp;omega) (.pure ⟨rfl,rfl,by omega,by omega⟩)
 |succ d ih=>
  intro j h0 h9 h1;refine .body (k':=d+1) (B:=λc _ n=>cX (cl n) n (arr c.b m) a c.x i j) (λ_ _ _=>rfl) (by omega) ?_;unfold cX;refine .ite (λhp=>?_) λ_=>.pure ⟨rfl,rfl,by omega,by omega⟩;have hp:i<=j:=by simpa using hp
  simp only[dT (x:=j-1) (by omega)];exact .rc hl (by omega) (by omega) (by omega) (by omega) (.ite (λ_=>(ih (j-1) (by omega) (by omega) (by omega)).post λ_ _ _ hr=>⟨hr.1,hr.2.1,by omega,by omega⟩) λ_=>.pure ⟨rfl,rfl,by omega,by omega⟩)
theorem Zo {a:Int}{l:ε}(hl:Good m l)(ha:0<=a/\a<m){j:Int}(hj:j<m)(hm:m<50):∀(d:Nat) (i:Int),0<=i->i<=100->(j+1-i).toNat<=d->SP cv m (d+1) (λc _ n=>(cl n).bL (arr c.b m) a c.x i j) l W (Sc l W i (max i (j+1))):=by
 intro d
 induction d with
 |zero=>
  intro i h0 h9 h1;refine .body (k':=0) (B:=λc _ n=>bZ (cl n) n (arr c.b m) a c.x i j) (λ_ _ _=>rfl) (by omega) ?_;unfold bZ;exact .BR (by simp;omega) (.pure ⟨rfl,rfl,by omega,by omega⟩)
 |succ d ih=>
  intro i h0 h9 h1;refine .body (k':=d+1) (B:=λc _ n=>bZ (cl n) n (arr c.b m) a c.x i j) (λ_ _ _=>rfl) (by omega) ?_;unfold bZ;refine .ite (λhp=>?_) λ_=>.pure ⟨rfl,rfl,by omega,by omega⟩;have hp:i<=j:=by simpa using hp
  simp only[dT (x:=i+1) (by omega)];exact .rc hl (by omega) (by omega) (by omega) (by omega) (.ite (λ_=>(ih (i+1) (by omega) (by omega) (by omega)).post λ_ _ _ hr=>⟨hr.1,hr.2.1,by omega,by omega⟩) λ_=>.pure ⟨rfl,rfl,by omega,by omega⟩)
theorem Zp {a:Int}{l:ε}(hl:Good m l)(ha:0<=a/\a<m){i:Int}(hi:0<=i)(hm:m<50):∀(d:Nat) (j:Int),j<m->-2<=j->(j+1-i).toNat<=d->SP cv m (d+1) (λc _ n=>(cl n).bK (arr c.b m) a c.x i j) l W (Sc l W (min (i-1) j) j):=by
 intro d
 induction d with
 |zero=>
  intro j h0 h9 h1;refine .body (k':=0) (B:=λc _ n=>bY (cl n) n (arr c.b m) a c.x i j) (λ_ _ _=>rfl) (by omega) ?_;unfold bY;exact .BR (by simp;omega) (.pure ⟨rfl,rfl,by omega,by omega⟩)
 |succ d ih=>
  intro j h0 h9 h1;refine .body (k':=d+1) (B:=λc _ n=>bY (cl n) n (arr c.b m) a c.x i j) (λ_ _ _=>rfl) (by omega) ?_;unfold bY;refine .ite (λhp=>?_) λ_=>.pure ⟨rfl,rfl,by omega,by omega⟩;have hp:i<=j:=by simpa using hp
  simp only[dT (x:=j-1) (by omega)];exact .rc hl (by omega) (by omega) (by omega) (by omega) (.ite (λ_=>(ih (j-1) (by omega) (by omega) (by omega)).post λ_ _ _ hr=>⟨hr.1,hr.2.1,by omega,by omega⟩) λ_=>.pure ⟨rfl,rfl,by omega,by omega⟩)
theorem ahe {a:Int}(ha:0<=a/\a<m)(hm:m<50):∀(d:Nat) (l:ε) (i j:Int),Good m l->0<=i->i<=j+2->j<m->-1<=j->(j+2-i).toNat<=d->SP cv m (d+60) (λc _ n=>(cl n).cD (arr c.b m) a c.x i j) l W (λy l' W'=>l'.Perm l/\W'=W/\i-2<=y/\y<=j):=by
 intro d
 induction d with
 |zero=>
  intro l i j hl h0 h1 h2 h8 h3;refine .body (k':=58) (B:=λc _ n=>cZ (cl n) n (arr c.b m) a c.x i j) (λ_ _ _=>rfl) (by omega) ?_;unfold cZ;refine .bind ((Zm hl ha h2 hm (j+1-i).toNat i h0 (by omega) (aae _)).mono (by omega)) λx l' W' hr=>?_;obtain⟨rfl,rfl,r1,r2⟩:=hr;refine .bind ((Zn hl ha (i:=x) (by omega) hm (j+1-x).toNat j h2 (by omega) (aae _)).mono (by omega)) λy l' W' hr=>?_;obtain⟨rfl,rfl,r3,r4⟩:=hr;exact .LZ (by simp;omega) (.pure ⟨.refl _,rfl,by omega,by omega⟩)
 |succ d ih=>
  intro l i j hl h0 h1 h2 h8 h3;refine .body (k':=d+60) (B:=λc _ n=>cZ (cl n) n (arr c.b m) a c.x i j) (λ_ _ _=>rfl) (by omega) ?_;unfold cZ;refine .bind ((Zm hl ha h2 hm (j+1-i).toNat i h0 (by omega) (aae _)).mono (by omega)) λx l' W' hr=>?_;obtain⟨rfl,rfl,r1,r2⟩:=hr;refine .bind ((Zn hl ha (i:=x) (by omega) hm (j+1-x).toNat j h2 (by omega) (aae _)).mono (by omega)) λy l' W' hr=>?_;obtain⟨rfl,rfl,r3,r4⟩:=hr;refine .ite (λhp=>.pure ⟨.refl _,rfl,by omega,by omega⟩) λhp=>?_;have hp:x<=y:=by simpa using hp
  simp only[dT (x:=x+1) (by omega),dT (x:=y-1) (by omega)];have hsw:=mW hl (i:=y) (j:=x) (by omega) (by omega) (by omega) (by omega);refine .swap hl (by omega) (by omega) (by omega) (by omega) ?_;exact (ih _ (x+1) (y-1) (hl.perm hsw) (by omega) (by omega) (by omega) (by omega) (by omega)).post λ_ _ _ hr=>⟨hr.1.trans hsw,hr.2.1,by omega,by omega⟩
theorem acA {a b p:Int}{l:ε}(hl:Good m l)(ha:0<=a)(h1:a<=p)(h2:p<b)(hb:b<=m)(hm:m<50):SP cv m 200 (λc _ n=>(cl n).eA (arr c.b m) a b p c.x) l W (λy l' W'=>l'.Perm l/\W'=W/\a<=y.1/\y.1<b):=by
 refine .body (k':=198) (B:=λc _ n=>iz (cl n) n (arr c.b m) a b p c.x) (λ_ _ _=>rfl) (by omega) ?_;unfold iz;simp only[dT (x:=a+1) (by omega),dT (x:=b-1) (by omega)];have hsw:=mW hl (i:=p) (j:=a) (by omega) (by omega) (by omega) (by omega);have hl1:=hl.perm hsw;refine .swap hl (by omega) (by omega) (by omega) (by omega) ?_;refine .bind ((ahc hl1 (a:=a) (by omega) (j:=b-1) (by omega) hm _ (a+1) (by omega) (by omega) (aae _)).mono (by omega)) λx l' W' hr=>?_;obtain⟨rfl,rfl,r1,r2⟩:=hr;refine .bind ((ahd hl1 (a:=a) (by omega) (i:=x) (by omega) hm _ (b-1) (by omega) (by omega) (aae _)).mono (by omega)) λy l' W' hr=>?_;obtain⟨rfl,rfl,r3,r4⟩:=hr;refine .ite (λhp=>?_) λhp=>?_
 .have hsw2:=mW hl1 (i:=a) (j:=y) (by omega) (by omega) (by omega) (by omega);refine .swap hl1 (by omega) (by omega) (by omega) (by omega) ?_;exact .pure ⟨hsw2.trans hsw,rfl,by omega,by omega⟩
 .have hp:x<=y:=by simpa using hp
  simp only[dT (x:=x+1) (by omega),dT (x:=y-1) (by omega)];have hsw2:=mW hl1 (i:=y) (j:=x) (by omega) (by omega) (by omega) (by omega);have hl2:=hl1.perm hsw2;refine .swap hl1 (by omega) (by omega) (by omega) (by omega) ?_;refine .bind ((ahe (a:=a) (by omega) hm _ _ (x+1) (y-1) hl2 (by omega) (by omega) (by omega) (by omega) (aae _)).mono (by omega)) λz l' W' hr=>?_;obtain⟨hp3,rfl,r5,r6⟩:=hr;have hl3:=hl2.perm hp3;have hsw4:=mW hl3 (i:=a) (j:=z) (by omega) (by omega) (by omega) (by omega);refine .swap hl3 (by omega) (by omega) (by omega) (by omega) ?_;exact .pure ⟨((hsw4.trans hp3).trans hsw2).trans hsw,rfl,by omega,by omega⟩
theorem ahf {a B:Int}(ha:0<=a/\a<m)(hB:B<=m)(hm:m<50):∀(d:Nat) (l:ε) (i j:Int),Good m l->0<=i->i<=j+2->i<=B->j+1<=B->-1<=j->(j+2-i).toNat<=d->SP cv m (d+60) (λc _ n=>(cl n).bM (arr c.b m) a c.x i j) l W (λy l' W'=>l'.Perm l/\W'=W/\i<=y/\y<=B):=by
 intro d
 induction d with
 |zero=>
  intro l i j hl h0 h1 h2 h7 h8 h3;refine .body (k':=58) (B:=λc _ n=>b7 (cl n) n (arr c.b m) a c.x i j) (λ_ _ _=>rfl) (by omega) ?_;unfold b7;refine .bind ((Zo hl ha (j:=j) (by omega) hm (j+1-i).toNat i h0 (by omega) (aae _)).mono (by omega)) λx l' W' hr=>?_;obtain⟨rfl,rfl,r1,r2⟩:=hr;refine .bind ((Zp hl ha (i:=x) (by omega) hm (j+1-x).toNat j (by omega) (by omega) (aae _)).mono (by omega)) λy l' W' hr=>?_;obtain⟨rfl,rfl,r3,r4⟩:=hr;exact .LZ (by simp;omega) (.pure ⟨.refl _,rfl,by omega,by omega⟩)
 |succ d ih=>
  intro l i j hl h0 h1 h2 h7 h8 h3;refine .body (k':=d+60) (B:=λc _ n=>b7 (cl n) n (arr c.b m) a c.x i j) (λ_ _ _=>rfl) (by omega) ?_;unfold b7;refine .bind ((Zo hl ha (j:=j) (by omega) hm (j+1-i).toNat i h0 (by omega) (aae _)).mono (by omega)) λx l' W' hr=>?_;obtain⟨rfl,rfl,r1,r2⟩:=hr;refine .bind ((Zp hl ha (i:=x) (by omega) hm (j+1-x).toNat j (by omega) (by omega) (aae _)).mono (by omega)) λy l' W' hr=>?_;obtain⟨rfl,rfl,r3,r4⟩:=hr;refine .ite (λhp=>.pure ⟨.refl _,rfl,by omega,by omega⟩) λhp=>?_;have hp:x<=y:=by simpa using hp
  simp only[dT (x:=x+1) (by omega),dT (x:=y-1) (by omega)];have hsw:=mW hl (i:=y) (j:=x) (by omega) (by omega) (by omega) (by omega);refine .swap hl (by omega) (by omega) (by omega) (by omega) ?_;exact (ih _ (x+1) (y-1) (hl.perm hsw) (by omega) (by omega) (by omega) (by omega) (by omega) (by omega)).post λ_ _ _ hr=>⟨hr.1.trans hsw,hr.2.1,by omega,by omega⟩
theorem Zq {a b p:Int}{l:ε}(hl:Good m l)(ha:0<=a)(h1:a<=p)(h2:p<b)(hb:b<=m)(hm:m<50):SP cv m 200 (λc _ n=>(cl n).de (arr c.b m) a b p c.x) l W (λy l' W'=>l'.Perm l/\W'=W/\a<y/\y<=b):=by
 refine .body (k':=198) (B:=λc _ n=>fW (cl n) n (arr c.b m) a b p c.x) (λ_ _ _=>rfl) (by omega) ?_;unfold fW;simp only[dT (x:=a+1) (by omega),dT (x:=b-1) (by omega)];have hsw:=mW hl (i:=p) (j:=a) (by omega) (by omega) (by omega) (by omega);refine .swap hl (by omega) (by omega) (by omega) (by omega) ?_;refine .bind ((ahf (a:=a) (B:=b) (by omega) hb hm _ _ (a+1) (b-1) (hl.perm hsw) (by omega) (by omega) (by omega) (by omega) (by omega) (aae _)).mono (by omega)) λz l' W' hr=>?_;obtain⟨hp3,rfl,r5,r6⟩:=hr;exact .pure ⟨hp3.trans hsw,rfl,by omega,by omega⟩
theorem ahg {a b j:Int}{l:ε}(hl:Good m l)(hb:b<=m)(hm:m<50):∀(d:Nat) (i:Int),1<=i->i<=b->(b-i).toNat<=d->SP cv m (d+1) (λc _ n=>(cl n).aZ (arr c.b m) a b c.x i j) l W (Sc l W i b):=by
 intro d
 induction d with
 |zero=>
  intro i h0 h9 h1;refine .body (k':=0) (B:=λc _ n=>bC (cl n) n (arr c.b m) a b c.x i j) (λ_ _ _=>rfl) (by omega) ?_;unfold bC;exact .BR (by simp;omega) (.pure ⟨rfl,rfl,by omega,by omega⟩)
 |succ d ih=>
  intro i h0 h9 h1;refine .body (k':=d+1) (B:=λc _ n=>bC (cl n) n (arr c.b m) a b c.x i j) (λ_ _ _=>rfl) (by omega) ?_;unfold bC;refine .ite (λhp=>?_) λ_=>.pure ⟨rfl,rfl,by omega,by omega⟩;have hp:i<b:=by simpa using hp
  simp only[dT (x:=i+1) (by omega),dT (x:=i-1) (by omega)];exact .rc hl (by omega) (by omega) (by omega) (by omega) (.ite (λ_=>(ih (i+1) (by omega) (by omega) (by omega)).post λ_ _ _ hr=>⟨hr.1,hr.2.1,by omega,by omega⟩) λ_=>.pure ⟨rfl,rfl,by omega,by omega⟩)
theorem Q5 {a b:Int}{l:ε}(hl:Good m l)(ha:0<=a)(hab:a<b)(hb:b<=m)(hm:m<50):SP cv m 200 (λc _ n=>(cl n).bW (arr c.b m) a b c.x) l W (λ(_:Bool) l' W'=>l'=l/\W'=W):=by
 refine .body (k':=198) (B:=λc _ n=>ea (cl n) n (arr c.b m) a b c.x) (λ_ _ _=>rfl) (by omega) ?_;unfold ea;simp only[dT (x:=a+1) (by omega)];refine .bind (R1:=λy l' W'=>(∃b,y=.inr b)/\l'=l/\W'=W) ?_ λy l' W' hr=>?_
 .refine .body (k':=100) (B:=λc _ n=>dI (cl n) n (arr c.b m) a b c.x (a+1) 0) (λ_ _ _=>rfl) (by omega) ?_;unfold dI;refine .LZ (by decide) (.bind ((ahg hl hb hm _ (a+1) (by omega) (by omega) (aae _)).mono (by omega)) λx l' W' hr=>?_);obtain⟨rfl,rfl,r1,r2⟩:=hr;refine .ite (λ_=>.pure ⟨⟨_,rfl⟩,rfl,rfl⟩) λ_=>?_;simp only[dT (x:=b-a) (by omega)];exact .LZ (by simp;omega) (.pure ⟨⟨_,rfl⟩,rfl,rfl⟩)
 .obtain⟨⟨b,rfl⟩,rfl,rfl⟩:=hr;exact .pure ⟨rfl,rfl⟩
end
section
variable {cv:Int->Int->Int}{m:Nat}{W:Nat->List bA}
abbrev pw (s:Int):Nat->List bA:=λq=>[.av q [vi s] ar]
abbrev rw' (s:Int):Nat->List bA:=λq=>[.av q [.int .u64 s] vL]
theorem D6 {a b s:Int}{l:ε}(hl:Good m l)(ha:0<=a/\a<m)(hb:0<=b/\b<m):SP cv m 1 (λc q n=>(cl n).dm (arr c.b m) a b (some (ai q)) c.x) l (pw s) (λy l' W'=>l'=l/\(∃s',W'=pw s')/\(y=(a,b)\/y=(b,a))):=by
 refine .body (k':=0) (B:=λc q n=>jO (cl n) n (arr c.b m) a b (some (ai q)) c.x) (λ_ _ _=>rfl) (by omega) ?_;unfold jO;refine .rc hl hb.1 hb.2 ha.1 ha.2 (.ite (λ_=>?_) λ_=>.pure ⟨rfl,⟨s,rfl⟩,.inl rfl⟩);exact .nn (a:=λ_ q=>ai q) (.qld rfl (.nn (a:=λ_ q=>ai q) (.qst rfl (.pure ⟨rfl,⟨_,rfl⟩,.inr rfl⟩))))
theorem VD {a b d s:Int}{l:ε}(hl:Good m l)(ha:0<=a/\a<m)(hb:0<=b/\b<m)(hd:0<=d/\d<m):SP cv m 5 (λc q n=>(cl n).dj (arr c.b m) a b d (some (ai q)) c.x) l (pw s) (λy l' W'=>l'=l/\(∃s',W'=pw s')/\(y=a\/y=b\/y=d)):=by
 refine .body (k':=4) (B:=λc q n=>jN (cl n) n (arr c.b m) a b d (some (ai q)) c.x) (λ_ _ _=>rfl) (by omega) ?_;unfold jN;refine .bind ((D6 hl ha hb).mono (by omega)) λx l' W' hr=>?_;obtain⟨rfl,⟨s1,rfl⟩,hx⟩:=hr;have h1:(x.1=a\/x.1=b)/\(x.2=a\/x.2=b):=by rcases hx with rfl|rfl<;>simp
 refine .bind ((D6 (a:=x.2) (b:=d) hl (by rcases h1.2 with e|e<;>rw[e]<;>assumption) hd).mono (by omega)) λy l' W' hr=>?_;obtain⟨rfl,⟨s2,rfl⟩,hy⟩:=hr;have h2:y.1=x.2\/y.1=d:=by rcases hy with rfl|rfl<;>simp
 have h3:y.1=a\/y.1=b\/y.1=d:=by
  grind
 refine .bind ((D6 (a:=x.1) (b:=y.1) hl (by rcases h1.1 with e|e<;>rw[e]<;>assumption) (by rcases h3 with e|e|e<;>rw[e]<;>assumption)).mono (by omega)) λz l' W' hr=>?_;obtain⟨rfl,⟨s3,rfl⟩,hz⟩:=hr;refine .pure ⟨rfl,⟨s3,rfl⟩,?_⟩
 grind
theorem VE {a b:Int}{l:ε}(hl:Good m l)(ha:0<=a)(hab:a<b)(hb:b<=m)(hm:m<50):SP cv m 10 (λc _ n=>(cl n).dK (arr c.b m) a b c.x) l (λ_=>[]) (λy l' W'=>l'=l/\(W'=λ_=>[])/\a<=y.1/\y.1<b):=by
 refine .body (k':=9) (B:=λc _ n=>gN (cl n) n (arr c.b m) a b c.x) (λ_ _ _=>rfl) (by omega) ?_;unfold gN;have ht:(b-a).tdiv 4=(b-a)/4:=afg (by omega);have key:∀(s y:Int),a<=y->y<b->SP cv m 9 (λc q n=>bO (cl n) n (ai q) y) l (pw s) (λy l' _=>l'=l/\((λ_:Nat=>([]:List bA))=λ_=>[])/\a<=y.1/\y.1<b):=by
  intro s y h1 h2;unfold bO;exact .qld rfl (.ite (λ_=>.pure ⟨rfl,rfl,h1,h2⟩) λ_=>.ite (λ_=>.pure ⟨rfl,rfl,h1,h2⟩) λ_=>.pure ⟨rfl,rfl,h1,h2⟩)
 simp only[dT (x:=b-a) (by omega),ht];simp only[dT (x:=(b-a)/4*1) (by omega),dT (x:=(b-a)/4*2) (by omega),dT (x:=(b-a)/4*3) (by omega),dT (x:=(b-a)/4) (by omega)];simp only[dT (x:=a+(b-a)/4*1) (by omega),dT (x:=a+(b-a)/4*2) (by omega),dT (x:=a+(b-a)/4*3) (by omega),dT (x:=(b-a)/4*1) (by omega),dT (x:=(b-a)/4*2) (by omega),dT (x:=(b-a)/4*3) (by omega)];refine .new rfl (.ck (by decide) (.ck (by decide) (.ck (by decide) (.ite (λ_=>.BR (by simp;omega) ?_) λ_=>?_))))
 .refine .bind ((VD hl (by omega) (by omega) (by omega)).mono (by omega)) λy l' W' hr=>?_;obtain⟨rfl,⟨s,rfl⟩,hy⟩:=hr;exact key s y (by omega) (by omega)
 .exact key 0 _ (by omega) (by omega)
theorem acC {s:Int}{l:ε}:SP cv m 0 (λc q n=>kG n (some (ai q))) l (rw' s) (λ_ l' W'=>l'=l/\∃s',W'=rw' s'):=by
 unfold kG;refine .nn (a:=λ_ q=>ai q) (.nn (a:=λ_ q=>ai q) (.qld rfl (.qld rfl (.ck (by decide) (.nn (a:=λ_ q=>ai q) (.qst rfl ?_))))));refine .nn (a:=λ_ q=>ai q) (.nn (a:=λ_ q=>ai q) (.qld rfl (.qld rfl (.ck (by decide) (.nn (a:=λ_ q=>ai q) (.qst rfl ?_))))));refine .nn (a:=λ_ q=>ai q) (.nn (a:=λ_ q=>ai q) (.qld rfl (.qld rfl (.ck (by decide) (.nn (a:=λ_ q=>ai q) (.qst rfl ?_))))));exact .nn (a:=λ_ q=>ai q) (.qld rfl (.pure ⟨rfl,_,rfl⟩))
theorem acD (x:Int){k:Nat}(hk:k<64):0<=IntKind.i64.wrap (IntKind.u64.wrap (((BitVec.ofInt 64 x&&&BitVec.ofInt 64 (k:Int)).toNat:Nat):Int))/\IntKind.i64.wrap (IntKind.u64.wrap (((BitVec.ofInt 64 x&&&BitVec.ofInt 64 (k:Int)).toNat:Nat):Int))<=k:=by
 grind [BitVec.ofInt,BitVec.toNat_and,BitVec.toNat_ofInt,Nat.and_le_right,yf,dT]
theorem acE:∀L:Nat,L<50->8<=L->Lib.bitLen L<=6/\(2^Lib.bitLen L:Nat)<=2*L/\2^Lib.bitLen L<=64/\0<2^Lib.bitLen L:=by decide
theorem ahh {a L:Int}{k:Nat}(ha:0<=a)(h8:8<=L)(hL:a+L<=m)(hm:m<50)(hk:(k:Int)<2*L)(hk2:k<64):∀(d:Nat) (l:ε) (s i:Int),Good m l->a<=i->(a+L/4*2+2-i).toNat<=d ->
  SP cv m (d+1) (λc q n=>aU n (arr c.b m) a L (ai q) ((k:Int)+1) i) l (rw' s) (λ_ l' W'=>l'.Perm l/\∃s',W'=rw' s'):=by
 have ht:L.tdiv 4=L/4:=afg (by omega);intro d
 induction d with
 |zero=>
  intro l s i hl h0 h1;refine .body (k':=0) (B:=λc q n=>cp (aU n) n (arr c.b m) a L (ai q) ((k:Int)+1) i) (λ_ _ _=>rfl) (by omega) ?_;unfold cp;simp only[ht,dT (x:=L/4) (by omega),dT (x:=L/4*2) (by omega),dT (x:=a+L/4*2) (by omega),dT (x:=a+L/4*2+1) (by omega)];exact .ck (by decide) (.BR (by simp;omega) (.pure ⟨.refl _,s,rfl⟩))
 |succ d ih=>
  intro l s i hl h0 h1;refine .body (k':=d+1) (B:=λc q n=>cp (aU n) n (arr c.b m) a L (ai q) ((k:Int)+1) i) (λ_ _ _=>rfl) (by omega) ?_;unfold cp;simp only[ht,dT (x:=L/4) (by omega),dT (x:=L/4*2) (by omega),dT (x:=a+L/4*2) (by omega),dT (x:=a+L/4*2+1) (by omega)];refine .ck (by decide) (.ite (λhp=>?_) λ_=>.pure ⟨.refl _,s,rfl⟩);have hp:i<=a+L/4*2+1:=by simpa using hp
  refine .bind ((acC (s:=s) (l:=l)).mono (by omega)) λx l' W' hr=>?_;obtain⟨rfl,s2,rfl⟩:=hr;have e1:IntKind.u64.wrap ((k:Int)+1-1)=(k:Int):=by grind [yf]
  simp only[e1];obtain⟨m1,m2⟩:=acD x hk2;generalize IntKind.i64.wrap (IntKind.u64.wrap (((BitVec.ofInt 64 x&&&BitVec.ofInt 64 (k:Int)).toNat:Nat):Int))=o at m1 m2⊢;have go:∀o,0<=o->o<L->SP cv m (d+1) (λc q n=>bS (aU n) n (arr c.b m) a L (ai q) ((k:Int)+1) i o) l' (rw' s2) (λ_ l2 W'=>l2.Perm l'/\∃s',W'=rw' s'):=by
   intro o o1 o2;unfold bS;simp only[dT (x:=a+o) (by omega),dT (x:=i+1) (by omega)];have hsw:=mW hl (i:=a+o) (j:=i) (by omega) (by omega) (by omega) (by omega);refine .swap hl (by omega) (by omega) (by omega) (by omega) ?_;exact (ih _ s2 (i+1) (hl.perm hsw) (by omega) (by omega)).post λ_ _ _ hr=>⟨hr.1.trans hsw,hr.2⟩
  refine .ite (λhp=>?_) λhp=>?_
  .have hp:L<=o:=by simpa using hp
   rw[dT (x:=o-L) (by omega)];exact go _ (by omega) (by omega)
  grind
theorem Zr {a b:Int}{l:ε}(hl:Good m l)(ha:0<=a)(hab:a<=b)(hb:b<=m)(hm:m<50):SP cv m 60 (λc _ n=>eH n (arr c.b m) a b c.x) l (λ_=>[]) (Pr l λ_=>[]):=by
 unfold eH;simp only[dT (x:=b-a) (by omega)];refine .ite (λhp=>?_) λ_=>.pure ⟨.refl _,rfl⟩;have hp:8<=b-a:=by simpa using hp
 have ht:(b-a).tdiv 4=(b-a)/4:=afg (by omega);obtain⟨L,hL⟩:∃L:Nat,b-a=L:=⟨(b-a).toNat,by omega⟩;obtain⟨p1,p2,p3,p4⟩:=acE L (by omega) (by omega);refine .new rfl (.qst rfl ?_);unfold nG pd fP;simp only[ht,hL];have hu:IntKind.u64.wrap (L:Int)=L:=yf (by omega) (by omega);simp only[hu];refine .bind (R1:=λy l' W'=>y=((2^Lib.bitLen L:Nat):Int)/\l'=l/\W'=rw' L) ?_ λy l' W' hr=>?_
 .refine .bind (R1:=λy l' W'=>y=((Lib.bitLen L:Nat):Int)/\l'=l/\W'=rw' L) ?_ λy l' W' hr=>?_
  .refine .bind (R1:=λy l' W'=>y=((Lib.bitLen L:Nat):Int)/\l'=l/\W'=rw' L) ?_ λy l' W' hr=>.pure hr;exact .LZ (by omega) (.pure ⟨by rw[aab],rfl,rfl⟩)
  .obtain⟨rfl,rfl,rfl⟩:=hr;refine .ck (by simp) (.pure ⟨?_,rfl,rfl⟩);rw[aab,akn (by omega),Int.one_mul]
   grind [Lib.bitLen,yf]
 .obtain⟨rfl,rfl,rfl⟩:=hr;obtain⟨k,hk⟩:∃k:Nat,2^Lib.bitLen L=k+1:=⟨2^Lib.bitLen L-1,by omega⟩;rw[hk] at p2 p3⊢;have ht2:(L:Int).tdiv 4=(L:Int)/4:=afg (by omega);simp only[ht2,dT (x:=(L:Int)/4) (by omega),dT (x:=(L:Int)/4*2) (by omega),dT (x:=a+(L:Int)/4*2) (by omega),dT (x:=a+(L:Int)/4*2-1) (by omega),Int.natCast_add,Int.cast_ofNat_Int];refine .ck (by decide) (.bind ((ahh (k:=k) ha (by omega) (by omega) hm (by omega) (by omega) _ _ _ _ hl (by omega) (aae _)).mono (by omega)) λ_ l' W' hr=>?_);exact .pure ⟨hr.1,rfl⟩
theorem Zs (hm:m<50):∀(d:Nat) (l:ε) (i j:Int),Good m l->0<=i->i<=100->j<m->-2<=j->(j-i).toNat<=d->SP cv m (d+1) (λc _ n=>bV n (arr c.b m) i j) l W (Pr l W):=by
 intro d
 induction d with
 |zero=>
  intro l i j hl h0 h9 h1 h2 h3;refine .body (k':=0) (B:=λc _ n=>cy (bV n) n (arr c.b m) i j) (λ_ _ _=>rfl) (by omega) ?_;unfold cy;exact .BR (by simp;omega) (.pure ⟨.refl _,rfl⟩)
 |succ d ih=>
  intro l i j hl h0 h9 h1 h2 h3;refine .body (k':=d+1) (B:=λc _ n=>cy (bV n) n (arr c.b m) i j) (λ_ _ _=>rfl) (by omega) ?_;unfold cy;refine .ite (λhp=>?_) λ_=>.pure ⟨.refl _,rfl⟩;have hp:i<j:=by simpa using hp
  simp only[dT (x:=i+1) (by omega),dT (x:=j-1) (by omega)];have hsw:=mW hl (i:=j) (j:=i) (by omega) (by omega) (by omega) (by omega);refine .swap hl (by omega) (by omega) (by omega) (by omega) ?_;exact (ih _ (i+1) (j-1) (hl.perm hsw) (by omega) (by omega) (by omega) (by omega) (by omega)).post λ_ _ _ hr=>⟨hr.1.trans hsw,hr.2⟩
theorem ahi {a b:Int}{l:ε}(hl:Good m l)(ha:0<=a)(hab:a<=b)(hb:b<=m)(hm:m<50):SP cv m 60 (λc _ n=>eZ n (arr c.b m) a b c.x) l W (Pr l W):=by
 unfold eZ;simp only[dT (x:=b-1) (by omega)];exact .bind ((Zs hm _ l a (b-1) hl ha (by omega) (by omega) (by omega) (aae _)).mono (by omega)) λ_ l' W' hr=>.pure hr
theorem ahj (hm:m<50):∀(d:Nat) (l:ε) (a b lim:Int) (x1 x2:Bool),Good m l->0<=a->a<=b->b<=m->0<=lim->lim<=64->(b-a).toNat<=d ->
  SP cv m (3*d+301) (λc _ n=>(cl n).bG (arr c.b m) a b lim c.x x1 x2) l (λ_=>[]) (Pr l λ_=>[]):=by
 intro d
 induction d with
 |zero=>
  intro l a b lim x1 x2 hl h0 h1 h2 h3 h4 h5;refine .body (k':=300) (B:=λc _ n=>dF (cl n) n (arr c.b m) a b lim c.x x1 x2) (λ_ _ _=>rfl) (by omega) ?_;unfold dF;simp only[dT (x:=b-a) (by omega)];exact .LZ (by simp;omega) (.bind ((Zl hl h0 h1 h2 hm).mono (by omega)) λ_ l' W' hr=>.pure hr)
 |succ d ih=>
  intro l a b lim x1 x2 hl h0 h1 h2 h3 h4 h5;refine .body (k':=3*d+303) (B:=λc _ n=>dF (cl n) n (arr c.b m) a b lim c.x x1 x2) (λ_ _ _=>rfl) (by omega) ?_;unfold dF;simp only[dT (x:=b-a) (by omega)];refine .ite (λ_=>.bind ((Zl hl h0 h1 h2 hm).mono (by omega)) λ_ l' W' hr=>.pure hr) λhp=>?_;have hp:12<b-a:=by simpa using hp
  have rec1:∀{l:ε} (a' b' lim':Int),Good m l->0<=a'->a'<=b'->b'<=m->0<=lim'->lim'<=64->(b' - a').toNat<=d->SP cv m (3*d+303) (λc _ n=>(cl n).cQ (arr c.b m) a' b' lim' c.x) l (λ_=>[]) (Pr l λ_=>[]):=by
   intro l a' b' lim' hl h0 h1 h2 h3 h4 h5;refine .body (k':=3*d+301) (B:=λc _ n=>ez (cl n) n (arr c.b m) a' b' lim' c.x) (λ_ _ _=>rfl) (by omega) ?_;unfold ez;exact .bind (ih l a' b' lim' true true hl h0 h1 h2 h3 h4 h5) λ_ l' W' hr=>.pure hr
  have j3:∀{l:ε} (lim':Int) (y1 y2:Bool) (p:Int),Good m l->0<=lim'->lim'<=64->a<=p->p<b->SP cv m (3*d+303) (λc _ n=>cM (cl n) n (arr c.b m) a b lim' c.x y1 y2 (b-a) p) l (λ_=>[]) (Pr l λ_=>[]):=by
   intro l lim' y1 y2 p hl h3 h4 p1 p2;unfold cM;refine .bind ((acA hl h0 p1 p2 h2 hm).mono (by omega)) λy l' W' hr=>?_;obtain⟨hp',rfl,r1,r2⟩:=hr;have hl':=hl.perm hp';simp only[dT (x:=y.1+1) (by omega)];refine .ck (by decide) (.ite (λ_=>?_) λ_=>?_)
   .refine .bind (rec1 a y.1 lim' hl' h0 r1 (by omega) h3 h4 (by omega)) λ_ l2 W' hr=>?_;obtain⟨hp2,rfl⟩:=hr;exact ((ih l2 (y.1+1) b lim' _ y.2 (hl'.perm hp2) (by omega) (by omega) h2 h3 h4 (by omega)).mono (by omega)).post λ_ _ _ hr=>⟨(hr.1.trans hp2).trans hp',hr.2⟩
   .refine .bind (rec1 (y.1+1) b lim' hl' (by omega) (by omega) h2 h3 h4 (by omega)) λ_ l2 W' hr=>?_;obtain⟨hp2,rfl⟩:=hr;exact ((ih l2 a y.1 lim' _ y.2 (hl'.perm hp2) h0 r1 (by omega) h3 h4 (by omega)).mono (by omega)).post λ_ _ _ hr=>⟨(hr.1.trans hp2).trans hp',hr.2⟩
  have j2:∀{l:ε} (lim':Int) (y1 y2:Bool) (p:Int),Good m l->0<=lim'->lim'<=64->a<=p->p<b->SP cv m (3*d+303) (λc _ n=>bB (cl n) n (arr c.b m) a b lim' c.x y1 y2 (b-a) p) l (λ_=>[]) (Pr l λ_=>[]):=by
   intro l lim' y1 y2 p hl h3 h4 p1 p2;unfold bB;refine .ite (λhq=>?_) λ_=>j3 lim' y1 y2 p hl h3 h4 p1 p2;have hq:0<a:=by simpa using hq
   simp only[dT (x:=a-1) (by omega)];refine .rc hl (by omega) (by omega) (by omega) (by omega) (.ite (λ_=>?_) λ_=>j3 lim' y1 y2 p hl h3 h4 p1 p2);refine .bind ((Zq hl h0 p1 p2 h2 hm).mono (by omega)) λy l' W' hr=>?_;obtain⟨hp',rfl,r1,r2⟩:=hr;exact ((ih l' y b lim' y1 y2 (hl.perm hp') (by omega) r2 h2 h3 h4 (by omega)).mono (by omega)).post λ_ _ _ hr=>⟨hr.1.trans hp',hr.2⟩
  have j1:∀{l:ε} (lim':Int) (y1 y2:Bool) (p t:Int),Good m l->0<=lim'->lim'<=64->a<=p->p<b->SP cv m (3*d+303) (λc _ n=>cN (cl n) n (arr c.b m) a b lim' c.x y1 y2 (b-a) p t) l (λ_=>[]) (Pr l λ_=>[]):=by
   intro l lim' y1 y2 p t hl h3 h4 p1 p2;unfold cN;have e:=j2 lim' y1 y2 p hl h3 h4 p1 p2;refine .ite (λ_=>.ite (λ_=>.ite (λ_=>?_) λ_=>e) λ_=>e) λ_=>e;refine .bind ((Q5 hl h0 (by omega) h2 hm).mono (by omega)) λy l' W' hr=>?_;obtain⟨rfl,rfl⟩:=hr;exact .ite (λ_=>.pure ⟨.refl _,rfl⟩) λ_=>e
  have j0:∀{l:ε} (lim':Int) (y1 y2:Bool),Good m l->0<=lim'->lim'<=64->SP cv m (3*d+303) (λc _ n=>cO (cl n) n (arr c.b m) a b lim' c.x y1 y2 (b-a)) l (λ_=>[]) (Pr l λ_=>[]):=by
   intro l lim' y1 y2 hl h3 h4;unfold cO;refine .bind ((VE hl h0 (by omega) h2 hm).mono (by omega)) λy l' W' hr=>?_;obtain⟨rfl,rfl,r1,r2⟩:=hr;refine .ite (λ_=>?_) λ_=>j1 lim' y1 y2 y.1 y.2 hl h3 h4 r1 r2;simp only[dT (x:=b-1) (by omega),dT (x:=y.1-a) (by omega),dT (x:=b-1-(y.1-a)) (by omega)];refine .bind ((ahi hl h0 h1 h2 hm).mono (by omega)) λ_ l2 W' hr=>?_;obtain⟨hp',rfl⟩:=hr;exact (j1 lim' y1 y2 (b-1-(y.1-a)) 1 (hl.perm hp') h3 h4 (by omega) (by omega)).post λ_ _ _ hr=>⟨hr.1.trans hp',hr.2⟩
  refine .ite (λ_=>.bind ((acz hl h0 h1 h2 hm).mono (by omega)) λ_ l' W' hr=>.pure hr) λhz=>?_;have hz:lim≠0:=by simpa using hz
  refine .ite (λ_=>?_) λ_=>j0 lim x1 x2 hl h3 h4;simp only[dT (x:=lim-1) (by omega)];refine .bind ((Zr hl h0 h1 h2 hm).mono (by omega)) λ_ l' W' hr=>?_;obtain⟨hp',rfl⟩:=hr;exact (j0 (lim-1) x1 x2 (hl.perm hp') (by omega) (by omega)).post λ_ _ _ hr=>⟨hr.1.trans hp',hr.2⟩
theorem acF:∀L:Nat,L<50->Lib.bitLen L<=6:=by decide
theorem acG {l:ε}(hl:Good m l)(hm:m<50):SP cv m 600 (λc _ n=>(cl n).dG (arr c.b m) c.x) l (λ_=>[]) (Pr l λ_=>[]):=by
 refine .body (k':=598) (B:=λc _ n=>jX (cl n) n (arr c.b m) c.x) (λ_ _ _=>rfl) (by omega) ?_;unfold jX pd fP;have hu:IntKind.u64.wrap (((arr 0 m).len:Nat):Int)=m:=yf (by show (0:Int)<=(m:Int);omega) (by show (m:Int)<_;omega);have hb:=acF m hm;refine .bind (R1:=λy l' W'=>y=((Lib.bitLen m:Nat):Int)/\l'=l/\(W'=λ_=>[])) ?_ λy l' W' hr=>?_
 .refine .bind (R1:=λy l' W'=>y=((Lib.bitLen m:Nat):Int)/\l'=l/\(W'=λ_=>[])) ?_ λy l' W' hr=>.pure hr;have:∀c:Cx,IntKind.u64.wrap (((arr c.b m).len:Nat):Int)=m:=λ_=>hu;simp only[this];exact .LZ (by omega) (.pure ⟨by rw[aab],rfl,rfl⟩)
 .obtain⟨rfl,rfl,rfl⟩:=hr;refine .bind ?_ λ_ l' W' hr=>.pure hr;refine .body (k':=500) (B:=λc _ n=>ez (cl n) n (arr c.b m) 0 (m:Int) (Lib.bitLen m:Nat) c.x) (λ_ _ _=>rfl) (by omega) ?_;unfold ez;exact .bind ((ahj hm m l' 0 m _ true true hl (by omega) (by omega) (by omega) (by omega) (by omega) (by omega)).mono (by omega)) λ_ l' W' hr=>.pure hr
theorem SY (cv:Int->Int->Int){m:Nat}(hm:m<50){l:ε}(hl:Good m l):∃l',l'.Perm l/\∀(c:Cx) (P:List bA) (h:ab) (n:Nat),c.m=m->c.OK cv->c.k+600<=n->c.St P h l ->
  Wp ((cl n).dG (arr c.b m) c.x) h λ_ h'=>c.St P h' l':=by
 obtain⟨y,l',W',⟨hp,rfl⟩,hx⟩:=acG (cv:=cv) hl hm;exact⟨l',hp,λc P h n h1 h2 h3 st=>(hx c P h 0 n h1 h2 h3 (by simpa using st)).mono λ_ h' x=>by simpa using x.2⟩
end
end Go.Sh
