
import Derived.Test.YthnfbcloepfooaaGreatDoorPad
set_option linter.all false
namespace Go.Sh
open Go Go.Ago Go.Proofs
section
variable {α β:Type}
abbrev cl (n:Nat):ab:=ab.at n
abbrev RY (n:Nat)(x:ξ)(a b:Int):M Int:=aA (cl n) n x a b
structure Cx where
 h0:af
 b:Nat
 m:Nat
 x:ξ
 k:Nat
 T:List dh->Prop
def Cx.St (c:Cx)(P:List dh)(h:af)(l:ε):Prop:=∃L,c.T L/\Z c.h0 h (.aD c.b (l.map vi) ay::(P++L))
def Cx.OK (cv:Int->Int->Int)(c:Cx):Prop:=∀(n:Nat) (u v:Int) (h:af) (R L:List dh),c.k<=n->0<=u->u<(c.m:Int)->0<=v->v<(c.m:Int)->c.T L->Z c.h0 h (R++L) ->
 Wp (RY n c.x u v) h λr h'=>r=cv u v/\∃L',c.T L'/\Z c.h0 h' (R++L')
def SP (cv:Int->Int->Int)(m k:Nat)(f:Cx->Nat->Nat->M α)(l:ε)(W:Nat->List dh)(R:α->ε->(Nat->List dh)->Prop):Prop:=
 ∃y l' W',R y l' W'/\∀(c:Cx) (P:List dh) (h:af) (q n:Nat),c.m=m->c.OK cv->c.k+k<=n->c.St (W q++P) h l->Wp (f c q n) h λz h'=>z=y/\c.St (W' q++P) h' l'
def Good (m:Nat)(l:ε):Prop:=l.length=m/\∀v∈l,0<=v/\v<(m:Int)
theorem Good.perm {m:Nat}{l l':ε}(hl:Good m l)(hp:l'.Perm l):Good m l':=⟨hp.length_eq.trans hl.1,λv hv=>hl.2 v (hp.mem_iff.1 hv)⟩
def OZ (l:ε)(i:Int):Int:=(l[i.toNat]?).getD 0
theorem xh {m:Nat}{l:ε}(hl:Good m l){i:Int}(h1:0<=i)(h2:i<m):l[i.toNat]?=some (OZ l i)/\0<=OZ l i/\OZ l i<m:=by
 obtain⟨v,hv⟩:=gU (l:=l) (i:=i.toNat) (by have:=hl.1;omega);have:OZ l i=v:=by unfold OZ;rw[hv];rfl
 rw[this];exact⟨hv,hl.2 v (OF hv)⟩
def swp (l:ε)(i j:Int):ε:=(l.set j.toNat (OZ l i)).set i.toNat (OZ l j)
section
variable {cv:Int->Int->Int}{m k:Nat}{l:ε}{W:Nat->List dh}
theorem SP.pure {y:α}{R:α->ε->(Nat->List dh)->Prop}(h:R y l W):SP cv m k (λ_ _ _=>AS y) l W R:=⟨y,l,W,h,λc P h q n _ _ _ st=>ah.2 ⟨rfl,st⟩⟩
theorem SP.bind {f:Cx->Nat->Nat->M α}{g:Cx->Nat->Nat->α->M β}{R1:α->ε->(Nat->List dh)->Prop}{R2:β->ε->(Nat->List dh)->Prop}(hf:SP cv m k f l W R1)
  (hg:∀y l' W',R1 y l' W'->SP cv m k (λc q n=>g c q n y) l' W' R2):SP cv m k (λc q n=>AI (f c q n) (g c q n)) l W R2:=by
 obtain⟨y,l',W',r,hx⟩:=hf;obtain⟨z,l2,W2,r2,hy⟩:=hg y l' W' r;refine⟨z,l2,W2,r2,λc P h q n h1 h2 h3 st=>?_⟩;rw[ag];exact (hx c P h q n h1 h2 h3 st).mono λu h' ⟨e,st'⟩=>by subst e;exact hy c P h' q n h1 h2 h3 st'
theorem SP.mono {k':Nat}{f:Cx->Nat->Nat->M α}{R:α->ε->(Nat->List dh)->Prop}(hk:k<=k')(hs:SP cv m k f l W R):SP cv m k' f l W R:=by
 obtain⟨y,l',W',r,hx⟩:=hs;exact⟨y,l',W',r,λc P h q n h1 h2 h3 st=>hx c P h q n h1 h2 (by omega) st⟩
theorem SP.post {f:Cx->Nat->Nat->M α}{R R':α->ε->(Nat->List dh)->Prop}(hs:SP cv m k f l W R)(hr:∀y l' W',R y l' W'->R' y l' W'):SP cv m k f l W R':=by
 obtain⟨y,l',W',r,hx⟩:=hs;exact⟨y,l',W',hr _ _ _ r,hx⟩
theorem SP.succ {F B:Cx->Nat->Nat->M α}{R:α->ε->(Nat->List dh)->Prop}(hF:∀c q n,F c q (n+1)=B c q n)(hs:SP cv m k B l W R):SP cv m (k+1) F l W R:=by
 obtain⟨y,l',W',r,hx⟩:=hs;refine⟨y,l',W',r,λc P h q n h1 h2 h3 st=>?_⟩;obtain⟨n,rfl⟩:∃n',n=n'+1:=⟨n-1,by omega⟩;rw[hF];exact hx c P h q n h1 h2 (by omega) st
variable {R:β->ε->(Nat->List dh)->Prop}
theorem SP.Bv {p:Prop}[Decidable p]{a b:Cx->Nat->Nat->M β}(hp:p)(hs:SP cv m k a l W R):SP cv m k (λc q n=>if p then a c q n else b c q n) l W R:=by
 simp only[BY hp];exact hs
theorem SP.Ji {p:Prop}[Decidable p]{a b:Cx->Nat->Nat->M β}(hp:¬p)(hs:SP cv m k b l W R):SP cv m k (λc q n=>if p then a c q n else b c q n) l W R:=by
 simp only[By hp];exact hs
theorem SP.ite {p:Prop}[Decidable p]{a b:Cx->Nat->Nat->M β}(ha:p->SP cv m k a l W R)(hb:¬p->SP cv m k b l W R):SP cv m k (λc q n=>if p then a c q n else b c q n) l W R:=by
 by_cases hp:p
 .exact .Bv hp (ha hp)
 .exact .Ji hp (hb hp)
theorem SP.wp {f:Cx->Nat->Nat->M α}{g:Cx->Nat->Nat->α->M β}{v:Cx->Nat->α}{l2:ε}{W2:Nat->List dh}(hf:∀(c:Cx) P h q n,c.m=m->c.OK cv->c.k+k<=n->c.St (W q++P) h l->Wp (f c q n) h λz h'=>z=v c q/\c.St (W2 q++P) h' l2)
  (hg:SP cv m k (λc q n=>g c q n (v c q)) l2 W2 R):SP cv m k (λc q n=>AI (f c q n) (g c q n)) l W R:=by
 obtain⟨z,l3,W3,r2,hy⟩:=hg;refine⟨z,l3,W3,r2,λc P h q n h1 h2 h3 st=>?_⟩;rw[ag];exact (hf c P h q n h1 h2 h3 st).mono λu h' ⟨e,st'⟩=>by subst e;exact hy c P h' q n h1 h2 h3 st'
theorem SP.ix {i:Int}{g:Cx->Nat->Nat->Addr->M β}(h1:0<=i)(h2:i<(m:Int))(hg:SP cv m k (λc q n=>g c q n ⟨c.b,i.toNat,none⟩) l W R):SP cv m k (λc q n=>AI (ao (arr c.b m) i 1) (g c q n)) l W R:=
 SP.wp (v:=λc _=>⟨c.b,i.toNat,none⟩) (λc P h q n _ _ _ st=>by
  have:=yL (b:=c.b) (m:=m) (h:=h) (Q:=λ(z:Addr) h'=>z=⟨c.b,i.toNat,none⟩/\c.St (W q++P) h' l) (f:=AS) h1 (by omega) (ah.2 ⟨rfl,st⟩);rw[ag] at this;exact this.mono λa h' x=>ah.1 x) hg
theorem SP.ld {i:Nat}{v:Int}{g:Cx->Nat->Nat->Int->M β}(hv:l[i]?=some v)(hg:SP cv m k (λc q n=>g c q n v) l W R):SP cv m k (λc q n=>AI (ar li ⟨c.b,i,none⟩) (g c q n)) l W R:=
 SP.wp (v:=λ_ _=>v) (λc P h q n _ _ _ st=>by
  obtain⟨L,h1,z⟩:=st;rw[u0];exact⟨v,LB.ld (z.get 0 rfl) (by rw[aaj,hv];rfl) rfl,rfl,L,h1,z⟩) hg
theorem SP.st {i:Nat}{v:Int}{g:Cx->Nat->Nat->Unit->M β}(hi:i<l.length)(hg:SP cv m k (λc q n=>g c q n ()) (l.set i v) W R):SP cv m k (λc q n=>AI (bE ⟨c.b,i,none⟩ [vi v]) (g c q n)) l W R:=
 SP.wp (v:=λ_ _=>()) (λc P h q n _ _ _ st=>by
  obtain⟨L,h1,z⟩:=st;have:=z.zX 0 (k:=i) (v:=v) (enc:=vi) (xs:=l) (f:=AS) (Q:=λ(_:Unit) h'=>()=()/\c.St (W q++P) h' (l.set i v)) hi (λh' z=>ah.2 ⟨rfl,L,h1,z⟩);rw[ag] at this;exact this.mono λa h' x=>ah.1 x) hg
theorem SP.cmp {u v:Int}{g:Cx->Nat->Nat->Int->M β}(h1:0<=u/\u<(m:Int))(h2:0<=v/\v<(m:Int))(hg:SP cv m k (λc q n=>g c q n (cv u v)) l W R):SP cv m k (λc q n=>AI (RY n c.x u v) (g c q n)) l W R:=
 SP.wp (v:=λ_ _=>cv u v) (λc P h q n hm hc hk st=>by
  obtain⟨L,h3,z⟩:=st;have:=hc n u v h (.aD c.b (l.map vi) ay::(W q++P)) L (by omega) h1.1 (by rw[hm];exact h1.2) h2.1 (by rw[hm];exact h2.2) h3 (by simpa using z);exact this.mono λr h' ⟨e,L',h4,z⟩=>⟨e,L',h4,by simpa using z⟩) hg
theorem SP.ck {b:Bool}{g:Cx->Nat->Nat->Unit->M β}(hb:b=true)(hg:SP cv m k (λc q n=>g c q n ()) l W R):SP cv m k (λc q n=>AI (xZ b) (g c q n)) l W R:=
 SP.wp (v:=λ_ _=>()) (λc P h q n _ _ _ st=>VO.2 ⟨hb,rfl,st⟩) hg
theorem SP.nn {a:Cx->Nat->Addr}{g:Cx->Nat->Nat->Addr->M β}(hg:SP cv m k (λc q n=>g c q n (a c q)) l W R):SP cv m k (λc q n=>AI (Ago.nn (some (a c q))) (g c q n)) l W R:=
 SP.wp (v:=a) (λc P h q n _ _ _ st=>aN.2 ⟨rfl,st⟩) hg
theorem SP.swap {i j:Int}{g:Cx->Nat->Nat->Unit->M β}(hl:Good m l)(h1:0<=i)(h2:i<(m:Int))(h3:0<=j)(h4:j<(m:Int))(hg:SP cv m k (λc q n=>g c q n ()) (swp l i j) W R) :
  SP cv m k (λc q n=>AI (ao (arr c.b m) i 1) λx0=>AI (ao (arr c.b m) j 1) λx1=>AI (ar li x0) λ(x2:Int)=>AI (ar li x1) λ(x3:Int)=>
   AI (ao (arr c.b m) j 1) λx4=>AI (bE x4 [vi x2]) λ_=>AI (ao (arr c.b m) i 1) λx6=>AI (bE x6 [vi x3]) (g c q n)) l W R:=
 .ix h1 h2 (.ix h3 h4 (.ld (xh hl h1 h2).1 (.ld (xh hl h3 h4).1 (.ix h3 h4 (.st (by have:=hl.1;omega) (.ix h1 h2 (.st (by rw[ab2];have:=hl.1;omega) hg)))))))
theorem SP.rc {i j:Int}{g:Cx->Nat->Nat->Int->M β}(hl:Good m l)(h1:0<=i)(h2:i<(m:Int))(h3:0<=j)(h4:j<(m:Int))(hg:SP cv m k (λc q n=>g c q n (cv (OZ l i) (OZ l j))) l W R) :
  SP cv m k (λc q n=>AI (ao (arr c.b m) i 1) λx0=>AI (ao (arr c.b m) j 1) λx1=>AI (ar li x0) λ(x2:Int)=>AI (ar li x1) λ(x3:Int)=>AI (RY n c.x x2 x3) (g c q n)) l W R:=
 .ix h1 h2 (.ix h3 h4 (.ld (xh hl h1 h2).1 (.ld (xh hl h3 h4).1 (.cmp (xh hl h1 h2).2 (xh hl h3 h4).2 hg))))
theorem SP.new {t:κ}{v:ξ}{g:Cx->Nat->Nat->M β}(hs:fi v=true)(hg:SP cv m k (λc q n=>g c n q) l (λq=>[.aD q [v] t]) λy l' _=>R y l' λ_=>[]):SP cv m k (λc _ n=>AI (aJ none t [v]) (g c n)) l (λ_=>[]) R:=by
 obtain⟨y,l',W',r,hx⟩:=hg;refine⟨y,l',_,r,λc P h q n h1 h2 h3 st=>?_⟩;obtain⟨L,h4,z⟩:=st;refine z.new (λb h' z _=>?_) (by simp[hs]);refine (hx c P h' b n h1 h2 h3 ⟨L,h4,z.perm (List.Perm.swap ..)⟩).mono λu h2 ⟨e,L',h5,z⟩=>⟨e,L',h5,z.sub ?_⟩
 grind
theorem SP.qld {t:κ}{v:ξ}{lf:eh}{x:lf.den}{g:Cx->Nat->Nat->lf.den->M β}(hx:xi lf v=some x)(hg:SP cv m k (λc q n=>g c q n x) l (λq=>[.aD q [v] t]) R) :
  SP cv m k (λc q n=>AI (ar lf ⟨q,0,none⟩) (g c q n)) l (λq=>[.aD q [v] t]) R:=
 SP.wp (v:=λ_ _=>x) (λc P h q n _ _ _ st=>by
  obtain⟨L,h1,z⟩:=st;rw[u0];exact⟨x,LB.ld (z.get 1 rfl) rfl hx,rfl,L,h1,z⟩) hg
end
theorem wU {x:Int}(h:-4611686018427387904<=x/\x<=4611686018427387904):IntKind.i64.wrap x=x:=Dc (by omega) (by omega)
section
variable {cv:Int->Int->Int}{m:Nat}{W:Nat->List dh}
end
end
section
variable {α:Type}{cv:Int->Int->Int}{m:Nat}{W:Nat->List dh}{l:ε}
theorem SP.bd {k k':Nat}{l:ε}{F B:Cx->Nat->Nat->M α}{R:α->ε->(Nat->List dh)->Prop}(hF:∀c q n,F c q (n+1)=B c q n)(hk:k'+1<=k)(hs:SP cv m k' B l W R):SP cv m k F l W R:=(SP.succ hF hs).mono hk
abbrev Sm (y0:α)(l:ε)(W:Nat->List dh):α->ε->(Nat->List dh)->Prop:=λy l' W'=>y=y0/\l'=l/\W'=W
def Asc (cv:Int->Int->Int)(m:Nat)(l:ε):Prop:=∀i j:Int,0<=i->i<j->j<(m:Int)->¬cv (OZ l j) (OZ l i)<0
section
variable (hl:Good m l)(o:Asc cv m l)(hm:m<=1000)
include hl o hm
theorem RZ {i:Int}(h1:0<i)(h2:i<m):SP cv m 1 (λc _ n=>(cl n).bT (arr c.b m) 0 m c.x i i) l W (Sm () l W):=by
 refine .bd (k':=0) (B:=λc _ n=>eD (cl n) n (arr c.b m) 0 m c.x i i) (λ_ _ _=>rfl) (by omega) ?_;unfold eD;refine .Bv (by simp;omega) ?_;simp only[wU (x:=i-1) (by omega)];exact .rc hl (by omega) (by omega) (by omega) (by omega) (.Ji (by simpa using o (i-1) i (by omega) (by omega) h2) (.pure ⟨rfl,rfl,rfl⟩))
theorem R4:∀(d:Nat) (i:Int),1<=i->((m:Int)-i).toNat<=d->i<=1001->SP cv m (d+3) (λc _ n=>(cl n).bU (arr c.b m) 0 m c.x i) l W (Sm () l W):=by
 intro d
 induction d with
 |zero=>
  intro i h0 h1 h9;refine .bd (k':=0) (B:=λc _ n=>cq (cl n) n (arr c.b m) 0 m c.x i) (λ_ _ _=>rfl) (by omega) ?_;unfold cq;exact .Ji (by simp;omega) (.pure ⟨rfl,rfl,rfl⟩)
 |succ d ih=>
  intro i h0 h1 h9;refine .bd (k':=d+3) (B:=λc _ n=>cq (cl n) n (arr c.b m) 0 m c.x i) (λ_ _ _=>rfl) (by omega) ?_;unfold cq;refine .ite (λhp=>?_) λ_=>.pure ⟨rfl,rfl,rfl⟩;have hp:i<m:=by simpa using hp
  simp only[wU (x:=i+1) (by omega)];refine .bind ((RZ hl o hm (by omega) hp).mono (by omega)) λ_ l' W' hr=>?_;obtain⟨_,rfl,rfl⟩:=hr;exact ih (i+1) (by omega) (by omega) (by omega)
theorem W6:SP cv m (m+5) (λc _ n=>(cl n).de (arr c.b m) 0 m c.x) l W (Sm () l W):=by
 refine .bd (k':=m+4) (B:=λc _ n=>fq (cl n) n (arr c.b m) 0 m c.x) (λ_ _ _=>rfl) (by omega) ?_;unfold fq;simp only[wU (x:=0+1) (by omega)];exact .bind ((R4 hl o hm m (0+1) (by omega) (by omega) (by omega)).mono (by omega)) λ_ l' W' hr=>.pure hr
theorem AF {a b:Int}(h1:0<=a)(h2:a<b)(h3:b<m):SP cv m 1 (λc q n=>(cl n).cZ (arr c.b m) a b (some (aw q)) c.x) l W (Sm (a,b) l W):=by
 refine .bd (k':=0) (B:=λc q n=>ja (cl n) n (arr c.b m) a b (some (aw q)) c.x) (λ_ _ _=>rfl) (by omega) ?_;unfold ja;exact .rc hl (by omega) (by omega) (by omega) (by omega) (.Ji (by simpa using o a b h1 h2 h3) (.pure ⟨rfl,rfl,rfl⟩))
theorem AG {a b d:Int}(h1:0<=a)(h2:a<b)(h3:b<d)(h4:d<m):SP cv m 3 (λc q n=>(cl n).cY (arr c.b m) a b d (some (aw q)) c.x) l W (Sm b l W):=by
 refine .bd (k':=2) (B:=λc q n=>iZ (cl n) n (arr c.b m) a b d (some (aw q)) c.x) (λ_ _ _=>rfl) (by omega) ?_;unfold iZ;refine .bind ((AF hl o hm h1 h2 (by omega)).mono (by omega)) λx l' W' hr=>?_;obtain⟨rfl,rfl,rfl⟩:=hr;refine .bind ((AF hl o hm (by omega) h3 h4).mono (by omega)) λx l' W' hr=>?_;obtain⟨rfl,rfl,rfl⟩:=hr;refine .bind ((AF hl o hm h1 h2 (by omega)).mono (by omega)) λx l' W' hr=>?_;obtain⟨rfl,rfl,rfl⟩:=hr;exact .pure ⟨rfl,rfl,rfl⟩
theorem yN {a:Int}(h1:1<=a)(h2:a+1<m):SP cv m 4 (λc q n=>(cl n).bJ (arr c.b m) a (some (aw q)) c.x) l W (Sm a l W):=by
 refine .bd (k':=3) (B:=λc q n=>eT (cl n) n (arr c.b m) a (some (aw q)) c.x) (λ_ _ _=>rfl) (by omega) ?_;unfold eT;simp only[wU (x:=a-1) (by omega),wU (x:=a+1) (by omega)];exact .bind ((AG hl o hm (by omega) (by omega) (by omega) h2).mono (by omega)) λ_ l' W' hr=>.pure hr
theorem O0 (h12:12<m):SP cv m 10 (λc _ n=>(cl n).dG (arr c.b m) 0 m c.x) l (λ_=>[]) (λy l' W'=>y.2=1/\l'=l/\W'=λ_=>[]):=by
 refine .bd (k':=9) (B:=λc _ n=>fX (cl n) n (arr c.b m) 0 m c.x) (λ_ _ _=>rfl) (by omega) ?_;unfold fX;have ht:((m:Int)-0).tdiv 4=(m:Int)/4:=by rw[Int.sub_zero];exact Int.tdiv_eq_ediv_of_nonneg (by omega)
 have key:∀(y:Int),SP cv m 9 (λc q n=>bS (cl n) n (aw q) y) l (λq=>[.aD q [vi 0] ay]) (λy l' _=>y.2=1/\l'=l/\((λ_:Nat=>([]:List dh))=λ_=>[])):=by
  intro y;unfold bS;exact .qld rfl (.Bv (by decide) (.pure ⟨rfl,rfl,rfl⟩))
 simp only[wU (x:=(m:Int)-0) (by omega),ht];simp only[wU (x:=(m:Int)/4) (by omega)];simp only[wU (x:=(m:Int)/4*1) (by omega),wU (x:=(m:Int)/4*2) (by omega),wU (x:=(m:Int)/4*3) (by omega)];simp only[wU (x:=0+(m:Int)/4*1) (by omega),wU (x:=0+(m:Int)/4*2) (by omega),wU (x:=0+(m:Int)/4*3) (by omega)];refine .new rfl (.ck (by decide) (.ck (by decide) (.ck (by decide) (.Bv (by simp;omega) (.ite (λ_=>?_) λ_=>?_)))))
 .refine .bind ((yN hl o hm (by omega) (by omega)).mono (by omega)) λx l' W' hr=>?_;obtain⟨rfl,rfl,rfl⟩:=hr;refine .bind ((yN hl o hm (by omega) (by omega)).mono (by omega)) λx l' W' hr=>?_;obtain⟨rfl,rfl,rfl⟩:=hr;refine .bind ((yN hl o hm (by omega) (by omega)).mono (by omega)) λx l' W' hr=>?_;obtain⟨rfl,rfl,rfl⟩:=hr;refine .bind ((AG hl o hm (by omega) (by omega) (by omega) (by omega)).mono (by omega)) λx l' W' hr=>?_;obtain⟨rfl,rfl,rfl⟩:=hr;exact key _
 .refine .bind ((AG hl o hm (by omega) (by omega) (by omega) (by omega)).mono (by omega)) λx l' W' hr=>?_;obtain⟨rfl,rfl,rfl⟩:=hr;exact key _
theorem W7 {j:Int}:∀(d:Nat) (i:Int),1<=i->i<=m->((m:Int)-i).toNat<=d->SP cv m (d+1) (λc _ n=>(cl n).bC (arr c.b m) 0 m c.x i j) l W (Sm (m:Int) l W):=by
 intro d
 induction d with
 |zero=>
  intro i h0 h9 h1;refine .bd (k':=0) (B:=λc _ n=>bI (cl n) n (arr c.b m) 0 m c.x i j) (λ_ _ _=>rfl) (by omega) ?_;unfold bI;exact .Ji (by simp;omega) (.pure ⟨by omega,rfl,rfl⟩)
 |succ d ih=>
  intro i h0 h9 h1;refine .bd (k':=d+1) (B:=λc _ n=>bI (cl n) n (arr c.b m) 0 m c.x i j) (λ_ _ _=>rfl) (by omega) ?_;unfold bI;refine .ite (λhp=>?_) λhp=>.pure ⟨by simp at hp;omega,rfl,rfl⟩;have hp:i<m:=by simpa using hp
  simp only[wU (x:=i+1) (by omega),wU (x:=i-1) (by omega)];exact .rc hl (by omega) (by omega) (by omega) (by omega) (.Bv (by simpa using o (i-1) i (by omega) (by omega) hp) (ih (i+1) (by omega) (by omega) (by omega)))
theorem KL (h0:0<m):SP cv m (m+10) (λc _ n=>(cl n).bY (arr c.b m) 0 m c.x) l W (Sm true l W):=by
 refine .bd (k':=m+9) (B:=λc _ n=>ea (cl n) n (arr c.b m) 0 m c.x) (λ_ _ _=>rfl) (by omega) ?_;unfold ea;simp only[wU (x:=0+1) (by omega)];refine .bind (R1:=Sm (.inr true) l W) ?_ λy l' W' hr=>?_
 .refine .bd (k':=m+8) (B:=λc _ n=>dA (cl n) n (arr c.b m) 0 m c.x (0+1) 0) (λ_ _ _=>rfl) (by omega) ?_;unfold dA;refine .Bv (by decide) (.bind ((W7 hl o hm m (0+1) (by omega) (by omega) (by omega)).mono (by omega)) λx l' W' hr=>?_);obtain⟨rfl,rfl,rfl⟩:=hr;exact .Bv (by simp) (.pure ⟨rfl,rfl,rfl⟩)
 .obtain⟨rfl,rfl,rfl⟩:=hr;exact .pure ⟨rfl,rfl,rfl⟩
theorem W8 {lim:Int}(h0:12<m->lim≠0):SP cv m (m+30) (λc _ n=>(cl n).cO (arr c.b m) 0 m lim c.x) l (λ_=>[]) (Sm () l λ_=>[]):=by
 refine .bd (k':=m+29) (B:=λc _ n=>iB (cl n) n (arr c.b m) 0 m lim c.x) (λ_ _ _=>rfl) (by omega) ?_;unfold iB;refine .bind (R1:=Sm () l λ_=>[]) ?_ λ_ l' W' hr=>.pure hr;refine .bd (k':=m+28) (B:=λc _ n=>gm (cl n) n (arr c.b m) 0 m lim c.x true true) (λ_ _ _=>rfl) (by omega) ?_;unfold gm;simp only[wU (x:=(m:Int)-0) (by omega)];refine .ite (λ_=>.bind ((W6 hl o hm).mono (by omega)) λ_ l' W' hr=>.pure hr) λhp=>?_;have hp:12<m:=by simp at hp;omega
 refine .Ji (by simpa using h0 hp) (.Ji (by decide) ?_);unfold dV;refine .bind ((O0 hl o hm hp).mono (by omega)) λy l' W' hr=>?_;obtain⟨e,rfl,rfl⟩:=hr;refine .Ji (by rw[e];decide) ?_;unfold dU;refine .Bv rfl (.Bv rfl (.Bv (by rw[e];decide) ?_));refine .bind ((KL hl o hm (by omega)).mono (by omega)) λy l' W' hr=>?_;obtain⟨rfl,rfl,rfl⟩:=hr;exact .Bv rfl (.pure ⟨rfl,rfl,rfl⟩)
theorem TW (c:Cx)(P:List dh)(h:af)(n:Nat)(h1:c.m=m)(h2:c.OK cv)(h3:c.k+(m+60)<=n)(h4:c.St P h l):Wp ((cl n).cI (arr c.b m) c.x) h λ_ h'=>c.St P h' l:=by
 have key:SP cv m (m+60) (λc _ n=>(cl n).cI (arr c.b m) c.x) l (λ_=>[]) (Sm () l λ_=>[]):=by
  refine .bd (k':=m+58) (B:=λc _ n=>jm (cl n) n (arr c.b m) c.x) (λ_ _ _=>rfl) (by omega) ?_;unfold jm p6 jo;have hu:IntKind.u64.wrap (((arr 0 m).len:Nat):Int)=m:=by show IntKind.u64.wrap (m:Int)=m;rw[IntKind.wrap_u64];omega
  have hb:12<m->((Lib.bitLen m:Nat):Int)≠0:=λh=>by unfold Lib.bitLen;rw[Lib.bitLenAux,By (by omega)];omega
  refine .bind (R1:=λy l' W'=>y=((Lib.bitLen m:Nat):Int)/\l'=l/\(W'=λ_=>[])) ?_ λy l' W' hr=>?_
  .refine .bind (R1:=λy l' W'=>y=((Lib.bitLen m:Nat):Int)/\l'=l/\(W'=λ_=>[])) ?_ λy l' W' hr=>.pure hr;have:∀c:Cx,IntKind.u64.wrap (((arr c.b m).len:Nat):Int)=m:=λ_=>hu;simp only[this];exact .Bv (by omega) (.pure ⟨by rw[aac],rfl,rfl⟩)
  .obtain⟨rfl,rfl,rfl⟩:=hr;exact .bind ((W8 hl o hm hb).mono (by omega)) λ_ l' W' hr=>.pure hr
 obtain⟨y,l',W',⟨_,rfl,rfl⟩,hx⟩:=key;exact (hx c P h 0 n h1 h2 h3 (by simpa using h4)).mono λ_ h' x=>by simpa using x.2
end
end
end Go.Sh
