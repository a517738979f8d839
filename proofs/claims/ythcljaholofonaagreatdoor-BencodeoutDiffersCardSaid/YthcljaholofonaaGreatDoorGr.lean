
import Derived.Test.YthcljaholofonaaGreatDoorAgoZ
import Derived.Test.YthcljaholofonaaGreatDoorSp
set_option linter.all false
namespace Go.Sh
open Go Go.Ago Go.Proofs
variable {β:Type}{h h' h0:aj}{L:List bA}{Q:β->aj->Prop}
def IL (h:aj)(s:Sl)(xs:ε):Prop:=∃g,wK h s 1 (xs.map vi) g
def IL.fr {s}{xs}(i:IL h s xs)(f:Fr (λ_=>False) h h'):IL h' s xs:=let ⟨g,r⟩:=i;⟨g,r.fr f λhx=>hx.elim⟩
theorem IL.len {s}{xs}(i:IL h s xs):s.len=xs.length:=let ⟨g,r⟩:=i;r.Hg
def IL.ix {s}{xs}(i:IL h s xs){k}{v}(h1:0<=k)(hv:xs[k.toNat]?=some v){f}(q:∀a g,Cl h a [vi v] g->Wp (f a) h Q):Wp (sh (ni s k 1) f) h Q:=
 let ⟨g,r⟩:=i
 r.Jf h1 hv λa c=>q a g c
structure Ji (h:aj) (a:Addr) (x:ao) (ks is:Sl):Prop where
 cl:∃g,Cl h a [vi x.kind,.string x.text,.bool x.ord,aA ks,aA is] g
 keys:IL h ks x.keys
 items:IL h is x.items
def Ji.fr {a}{x}{ks is}(d:Ji h a x ks is)(f:Fr (λ_=>False) h h'):Ji h' a x ks is:=
 ⟨let ⟨g,c⟩:=d.cl;⟨g,c.fr f λhx=>hx.elim⟩,d.keys.fr f,d.items.fr f⟩
def Ji.eZ {a}{x}{ks is}(d:Ji h a x ks is){f:Int×ζ×Bool×Sl×Sl->M β}(q:Wp (f (x.kind,x.text,x.ord,ks,is)) h Q):Wp (sh (cF [li,.str,.bool,.sl,.sl] a) f) h Q:=
 let ⟨_,c⟩:=d.cl
 c.eZ (x:=((x.kind,x.text,x.ord,ks,is):pC [li,.str,.bool,.sl,.sl])) rfl q
def Ji.Sa {a}{x}{ks is}(d:Ji h a x ks is){f:Int->M β}(q:Wp (f x.kind) h Q):Wp (sh (dz li (a.plus 0)) f) h Q:=let ⟨_,c⟩:=d.cl;c.ld (o:=0) (l:=li) rfl rfl q
def Ji.O0 {a}{x}{ks is}(d:Ji h a x ks is){f:ζ->M β}(q:Wp (f x.text) h Q):Wp (sh (dz .str (a.plus 1)) f) h Q:=let ⟨_,c⟩:=d.cl;c.ld (o:=1) (l:=.str) rfl rfl q
def Ji.ldO {a}{x}{ks is}(d:Ji h a x ks is){f:Bool->M β}(q:Wp (f x.ord) h Q):Wp (sh (dz .bool (a.plus 2)) f) h Q:=let ⟨_,c⟩:=d.cl;c.ld (o:=2) (l:=.bool) rfl rfl q
def Ji.Fj {a}{x}{ks is}(d:Ji h a x ks is){f:Sl->M β}(q:Wp (f ks) h Q):Wp (sh (dz .sl (a.plus 3)) f) h Q:=let ⟨_,c⟩:=d.cl;c.ld (o:=3) (l:=.sl) rfl rfl q
def Ji.Hh {a}{x}{ks is}(d:Ji h a x ks is){f:Sl->M β}(q:Wp (f is) h Q):Wp (sh (dz .sl (a.plus 4)) f) h Q:=let ⟨_,c⟩:=d.cl;c.ld (o:=4) (l:=.sl) rfl rfl q
def iK (h:aj)(s:Sl)(N:List ao):Prop:=
 ∃(R:List bh) (g:Nat),R.map bh.v=N/\wK h s 5 (R.flatMap bh.enc) g/\∀x∈R,IL h x.ks x.kl/\IL h x.is x.il
def iK.fr {s}{N}(G:iK h s N)(f:Fr (λ_=>False) h h'):iK h' s N:=
 let ⟨R,g,h1,h2,h3⟩:=G
 ⟨R,g,h1,h2.fr f (λhx=>hx.elim),λx hx=>⟨(h3 x hx).1.fr f,(h3 x hx).2.fr f⟩⟩
theorem iK.len {s}{N}(G:iK h s N):s.len=N.length:=by
 obtain⟨R,g,h1,h2,_⟩:=G;have:=h2.1;rw[jg bh.pI] at this
 grind
def iK.ix {s}{N}(G:iK h s N){k}{x}(h1:0<=k)(hx:N[k.toNat]?=some x){f}(q:∀a ks is,Ji h a x ks is->Wp (f a) h Q):Wp (sh (ni s k 5) f) h Q:=by
 have hl:=G.len;have hlt:=(List.getElem?_eq_some_iff.1 hx).1;obtain⟨R,g,h2,h3,h4⟩:=G;rw[<-h2,abt] at hx;cases hr:R[k.toNat]? with
 |none=>rw[hr] at hx;cases hx
 |some r=>
  rw[hr] at hx;have hx:r.v=x:=ahh hx;subst hx;obtain⟨h5,h6⟩:=h4 r (BY hr);exact h3.ixN bh.pI h1 (by omega) hr λa c=>q a r.ks r.is ⟨⟨g,c⟩,h5,h6⟩
def iK.at {s}{N}(G:iK h0 s N)(z:Z h0 h L){k}{x}(h1:0<=k)(hx:N[k.toNat]?=some x){f}(q:∀a ks is,Ji h a x ks is->IL h0 ks x.keys->IL h0 is x.items->Wp (f a) h Q):Wp (sh (ni s k 5) f) h Q:=by
 have hl:=G.len;have hlt:=(List.getElem?_eq_some_iff.1 hx).1;obtain⟨R,g,h2,h3,h4⟩:=G;rw[<-h2,abt] at hx;cases hr:R[k.toNat]? with
 |none=>rw[hr] at hx;cases hx
 |some r=>
  rw[hr] at hx;have hx:r.v=x:=ahh hx;subst hx;obtain⟨h5,h6⟩:=h4 r (BY hr);exact (h3.fr z.fr λhx=>hx.elim).ixN bh.pI h1 (by omega) hr λa c=>q a r.ks r.is ⟨⟨g,c⟩,h5.fr z.fr,h6.fr z.fr⟩ h5 h6
def iK.Wf {s}{N}(G:iK h0 s N)(z:Z h0 h L){k}{x}(h1:0<=k)(hx:N[k.toNat]?=some x){f}(q:∀a ks is,Ji h0 a x ks is->Wp (f a) h Q):Wp (sh (ni s k 5) f) h Q:=by
 have hl:=G.len;have hlt:=(List.getElem?_eq_some_iff.1 hx).1;obtain⟨R,g,h2,h3,h4⟩:=G;rw[<-h2,abt] at hx;cases hr:R[k.toNat]? with
 |none=>rw[hr] at hx;cases hx
 |some r=>
  rw[hr] at hx;have hx:r.v=x:=ahh hx;subst hx;obtain⟨h5,h6⟩:=h4 r (BY hr);have w:∃a,(λa h'=>h'=h0/\Ji h0 a r.v r.ks r.is) a h0/\ni s k 5 h=some (a,h):=by
   obtain⟨a,h',e,hq⟩:=(ah.1 (h3.ixN (Q:=λa h'=>h'=h0/\Ji h0 a r.v r.ks r.is) bh.pI h1 (by omega) hr λa c=>ag.2 ⟨rfl,⟨g,c⟩,h5,h6⟩));obtain⟨_,_,e2,hq⟩:=hq;cases e2;refine⟨a,⟨rfl,hq.2⟩,?_⟩
   grind [ni]
  obtain⟨a,⟨_,hd⟩,e⟩:=w;rw[ah];exact⟨a,h,e,q a _ _ hd⟩
def _root_.Go.Ago.Z.node (z:Z h0 h L){x:ao}{ks is:Sl}{f:Nat->M β}
  (q:∀b h',Z h0 h' (.au b [vi x.kind,.string x.text,.bool x.ord,aA ks,aA is] ar::L)->Wp (f b) h' Q) :
  Wp (sh (gG none ar [vi 0,Value.string (ofBytes []),Value.bool false,aI,aI]) λb=>sh (sL (ak b) [vi x.kind,.string x.text,.bool x.ord,aA ks,aA is]) λ_=>f b) h Q:=by
 refine z.new λb h1 z1 _=>z1.st 0 λh2 z2=>q b h2 z2
def aac {v:ξ} n:(List.replicate n [v]).flatten=List.replicate n v:=by
 simp_all
def lH {γ:Type}{enc:γ->ξ}{x} n:(List.replicate n [enc x]).flatten=(List.replicate n x).map enc:=by
 simp_all
theorem aog {a}(h1:-9223372036854775808<=a)(h2:a<9223372036854775807):IntKind.i64.wrap (a+1)=a+1:=IntWalk.i64_in _ ⟨by omega,by omega⟩
end Go.Sh
