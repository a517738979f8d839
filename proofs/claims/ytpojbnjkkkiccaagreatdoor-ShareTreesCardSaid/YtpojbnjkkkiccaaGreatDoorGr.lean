
import Derived.Test.YtpojbnjkkkiccaaGreatDoorAgoZ
import Derived.Test.YtpojbnjkkkiccaaGreatDoorSp
set_option linter.all false
namespace Go.Sh
open Go Go.Ago Go.Proofs
variable {β:Type}{h h' h0:ai}{L:List aZ}{Q:β->ai->Prop}
def IL (h:ai)(s:Sl)(xs:ε):Prop:=∃g,vR h s 1 (xs.map vi) g
def IL.fr {s}{xs}(i:IL h s xs)(f:Fr (λ_=>False) h h'):IL h' s xs:=let ⟨g,r⟩:=i;⟨g,r.fr f λhx=>hx.elim⟩
theorem IL.len {s}{xs}(i:IL h s xs):s.len=xs.length:=let ⟨g,r⟩:=i;r.Aa
def IL.ix {s}{xs}(i:IL h s xs){k}{v}(h1:0<=k)(hv:xs[k.toNat]?=some v){f}(q:∀a g,Cl h a [vi v] g->Wp (f a) h Q):Wp (sh (mz s k 1) f) h Q:=
 let ⟨g,r⟩:=i
 r.Ys h1 hv λa c=>q a g c
structure IU (h:ai) (a:Addr) (x:aq) (ks is:Sl):Prop where
 cl:∃g,Cl h a [vi x.kind,.string x.text,.bool x.ord,aA ks,aA is] g
 keys:IL h ks x.keys
 items:IL h is x.items
def IU.fr {a}{x}{ks is}(d:IU h a x ks is)(f:Fr (λ_=>False) h h'):IU h' a x ks is:=
 ⟨let ⟨g,c⟩:=d.cl;⟨g,c.fr f λhx=>hx.elim⟩,d.keys.fr f,d.items.fr f⟩
def IU.gh {a}{x}{ks is}(d:IU h a x ks is){f:Int×ζ×Bool×Sl×Sl->M β}(q:Wp (f (x.kind,x.text,x.ord,ks,is)) h Q):Wp (sh (cT [li,.str,.bool,.sl,.sl] a) f) h Q:=
 let ⟨_,c⟩:=d.cl
 c.gh (x:=((x.kind,x.text,x.ord,ks,is):j9 [li,.str,.bool,.sl,.sl])) rfl q
def IU.Q0 {a}{x}{ks is}(d:IU h a x ks is){f:Int->M β}(q:Wp (f x.kind) h Q):Wp (sh (dL li (a.plus 0)) f) h Q:=let ⟨_,c⟩:=d.cl;c.ld (o:=0) (l:=li) rfl rfl q
def IU.Q8 {a}{x}{ks is}(d:IU h a x ks is){f:ζ->M β}(q:Wp (f x.text) h Q):Wp (sh (dL .str (a.plus 1)) f) h Q:=let ⟨_,c⟩:=d.cl;c.ld (o:=1) (l:=.str) rfl rfl q
def IU.ldO {a}{x}{ks is}(d:IU h a x ks is){f:Bool->M β}(q:Wp (f x.ord) h Q):Wp (sh (dL .bool (a.plus 2)) f) h Q:=let ⟨_,c⟩:=d.cl;c.ld (o:=2) (l:=.bool) rfl rfl q
def IU.Lp {a}{x}{ks is}(d:IU h a x ks is){f:Sl->M β}(q:Wp (f ks) h Q):Wp (sh (dL .sl (a.plus 3)) f) h Q:=let ⟨_,c⟩:=d.cl;c.ld (o:=3) (l:=.sl) rfl rfl q
def IU.Lq {a}{x}{ks is}(d:IU h a x ks is){f:Sl->M β}(q:Wp (f is) h Q):Wp (sh (dL .sl (a.plus 4)) f) h Q:=let ⟨_,c⟩:=d.cl;c.ld (o:=4) (l:=.sl) rfl rfl q
def ou (h:ai)(s:Sl)(N:List aq):Prop:=
 ∃(R:List aH) (g:Nat),R.map aH.v=N/\vR h s 5 (R.flatMap aH.enc) g/\∀x∈R,IL h x.ks x.kl/\IL h x.is x.il
theorem ou.len {s}{N}(G:ou h s N):s.len=N.length:=by
 obtain⟨R,g,h1,h2,_⟩:=G;have:=h2.1;rw[eG aH.jS] at this
 grind
def ou.at {s}{N}(G:ou h0 s N)(z:Z h0 h L){k}{x}(h1:0<=k)(hx:N[k.toNat]?=some x){f}(q:∀a ks is,IU h a x ks is->IL h0 ks x.keys->IL h0 is x.items->Wp (f a) h Q):Wp (sh (mz s k 5) f) h Q:=by
 have hl:=G.len;have hlt:=(List.getElem?_eq_some_iff.1 hx).1;obtain⟨R,g,h2,h3,h4⟩:=G;rw[<-h2,abh] at hx;cases hr:R[k.toNat]? with
 |none=>rw[hr] at hx;cases hx
 |some r=>
  rw[hr] at hx;have hx:r.v=x:=acZ hx;subst hx;obtain⟨h5,h6⟩:=h4 r (IN hr);exact (h3.fr z.fr λhx=>hx.elim).ixN aH.jS h1 (by omega) hr λa c=>q a r.ks r.is ⟨⟨g,c⟩,h5.fr z.fr,h6.fr z.fr⟩ h5 h6
theorem ou.P3 {s}{N}(G:ou h0 s N)(z:Z h0 h L){k}{x}(h1:0<=k)(hx:N[k.toNat]?=some x){f}(q:∀a ks is,IU h0 a x ks is->Wp (f a) h Q):Wp (sh (mz s k 5) f) h Q:=by
 have hl:=G.len;have hlt:=(List.getElem?_eq_some_iff.1 hx).1;obtain⟨R,g,h2,h3,h4⟩:=G;rw[<-h2,abh] at hx;cases hr:R[k.toNat]? with
 |none=>rw[hr] at hx;cases hx
 |some r=>
  rw[hr] at hx;have hx:r.v=x:=acZ hx;subst hx;obtain⟨h5,h6⟩:=h4 r (IN hr);have w:∃a,(λa h'=>h'=h0/\IU h0 a r.v r.ks r.is) a h0/\mz s k 5 h=some (a,h):=by
   obtain⟨a,h',e,hq⟩:=(ah.1 (h3.ixN (Q:=λa h'=>h'=h0/\IU h0 a r.v r.ks r.is) aH.jS h1 (by omega) hr λa c=>ag.2 ⟨rfl,⟨g,c⟩,h5,h6⟩));obtain⟨_,_,e2,hq⟩:=hq;cases e2;refine⟨a,⟨rfl,hq.2⟩,?_⟩
   grind [mz]
  obtain⟨a,⟨_,hd⟩,e⟩:=w;rw[ah];exact⟨a,h,e,q a _ _ hd⟩
def _root_.Go.Ago.Z.node (z:Z h0 h L){x:aq}{ks is:Sl}{f:Nat->M β}
  (q:∀b h',Z h0 h' (.ar b [vi x.kind,.string x.text,.bool x.ord,aA ks,aA is] av::L)->Wp (f b) h' Q) :
  Wp (sh (iI none av [vi 0,Value.string (ofBytes []),Value.bool false,aE,aE]) λb=>sh (rN (ak b) [vi x.kind,.string x.text,.bool x.ord,aA ks,aA is]) λ_=>f b) h Q:=by
 refine z.new λb h1 z1 _=>z1.st 0 λh2 z2=>q b h2 z2
def ZA {v:ξ} n:(List.replicate n [v]).flatten=List.replicate n v:=by
 simp_all
def pI {γ:Type}{enc:γ->ξ}{x} n:(List.replicate n [enc x]).flatten=(List.replicate n x).map enc:=by
 simp_all
theorem amz {a}(h1:-9223372036854775808<=a)(h2:a<9223372036854775807):IntKind.i64.wrap (a+1)=a+1:=IntWalk.i64_in _ ⟨by omega,by omega⟩
end Go.Sh
