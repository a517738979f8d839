
import Derived.Test.YtdbjhobkhjneeaaGreatDoorAgoZ
import Derived.Test.YtdbjhobkhjneeaaGreatDoorSp
set_option linter.all false
namespace Go.Sh
open Go Go.Ago Go.Proofs
variable {β:Type}{h h' h0:aj}{L:List bJ}{Q:β->aj->Prop}
def IL (h:aj)(s:Sl)(xs:ε):Prop:=∃g,rY h s 1 (xs.map vi) g
def IL.fr {s}{xs}(i:IL h s xs)(f:Fr (λ_=>False) h h'):IL h' s xs:=let ⟨g,r⟩:=i;⟨g,r.fr f λhx=>hx.elim⟩
theorem IL.len {s}{xs}(i:IL h s xs):s.len=xs.length:=let ⟨g,r⟩:=i;r.Jq
def IL.ix {s}{xs}(i:IL h s xs){k}{v}(h1:0<=k)(hv:xs[k.toNat]?=some v){f}(q:∀a g,Cl h a [vi v] g->Wp (f a) h Q):Wp (sh (mc s k 1) f) h Q:=
 let ⟨g,r⟩:=i
 r.X7 h1 hv λa c=>q a g c
structure F7 (h:aj) (a:Addr) (x:al) (ks is:Sl):Prop where
 cl:∃g,Cl h a [vi x.kind,.string x.text,.bool x.ord,aC ks,aC is] g
 keys:IL h ks x.keys
 items:IL h is x.items
def F7.fr {a}{x}{ks is}(d:F7 h a x ks is)(f:Fr (λ_=>False) h h'):F7 h' a x ks is:=
 ⟨let ⟨g,c⟩:=d.cl;⟨g,c.fr f λhx=>hx.elim⟩,d.keys.fr f,d.items.fr f⟩
def F7.fH {a}{x}{ks is}(d:F7 h a x ks is){f:Int×ζ×Bool×Sl×Sl->M β}(q:Wp (f (x.kind,x.text,x.ord,ks,is)) h Q):Wp (sh (bK [li,.str,.bool,.sl,.sl] a) f) h Q:=
 let ⟨_,c⟩:=d.cl
 c.fH (x:=((x.kind,x.text,x.ord,ks,is):cF [li,.str,.bool,.sl,.sl])) rfl q
def F7.Ov {a}{x}{ks is}(d:F7 h a x ks is){f:Int->M β}(q:Wp (f x.kind) h Q):Wp (sh (eU li (a.plus 0)) f) h Q:=let ⟨_,c⟩:=d.cl;c.ld (o:=0) (l:=li) rfl rfl q
def F7.Jd {a}{x}{ks is}(d:F7 h a x ks is){f:ζ->M β}(q:Wp (f x.text) h Q):Wp (sh (eU .str (a.plus 1)) f) h Q:=let ⟨_,c⟩:=d.cl;c.ld (o:=1) (l:=.str) rfl rfl q
def F7.ldO {a}{x}{ks is}(d:F7 h a x ks is){f:Bool->M β}(q:Wp (f x.ord) h Q):Wp (sh (eU .bool (a.plus 2)) f) h Q:=let ⟨_,c⟩:=d.cl;c.ld (o:=2) (l:=.bool) rfl rfl q
def F7.Js {a}{x}{ks is}(d:F7 h a x ks is){f:Sl->M β}(q:Wp (f ks) h Q):Wp (sh (eU .sl (a.plus 3)) f) h Q:=let ⟨_,c⟩:=d.cl;c.ld (o:=3) (l:=.sl) rfl rfl q
def F7.Ed {a}{x}{ks is}(d:F7 h a x ks is){f:Sl->M β}(q:Wp (f is) h Q):Wp (sh (eU .sl (a.plus 4)) f) h Q:=let ⟨_,c⟩:=d.cl;c.ld (o:=4) (l:=.sl) rfl rfl q
def kP (h:aj)(s:Sl)(N:List al):Prop:=
 ∃(R:List cm) (g:Nat),R.map cm.v=N/\rY h s 5 (R.flatMap cm.enc) g/\∀x∈R,IL h x.ks x.kl/\IL h x.is x.il
def kP.fr {s}{N}(G:kP h s N)(f:Fr (λ_=>False) h h'):kP h' s N:=
 let ⟨R,g,h1,h2,h3⟩:=G
 ⟨R,g,h1,h2.fr f (λhx=>hx.elim),λx hx=>⟨(h3 x hx).1.fr f,(h3 x hx).2.fr f⟩⟩
theorem kP.len {s}{N}(G:kP h s N):s.len=N.length:=by
 obtain⟨R,g,h1,h2,_⟩:=G;have:=h2.1;rw[oU cm.xj] at this
 grind
def kP.at {s}{N}(G:kP h0 s N)(z:Z h0 h L){k}{x}(h1:0<=k)(hx:N[k.toNat]?=some x){f}(q:∀a ks is,F7 h a x ks is->IL h0 ks x.keys->IL h0 is x.items->Wp (f a) h Q):Wp (sh (mc s k 5) f) h Q:=by
 have hl:=G.len;have hlt:=(List.getElem?_eq_some_iff.1 hx).1;obtain⟨R,g,h2,h3,h4⟩:=G;rw[<-h2,abF] at hx;cases hr:R[k.toNat]? with
 |none=>rw[hr] at hx;cases hx
 |some r=>
  rw[hr] at hx;have hx:r.v=x:=abL hx;subst hx;obtain⟨h5,h6⟩:=h4 r (IN hr);exact (h3.fr z.fr λhx=>hx.elim).ixN cm.xj h1 (by omega) hr λa c=>q a r.ks r.is ⟨⟨g,c⟩,h5.fr z.fr,h6.fr z.fr⟩ h5 h6
theorem kP.Ss {s}{N}(G:kP h0 s N)(z:Z h0 h L){k}{x}(h1:0<=k)(hx:N[k.toNat]?=some x){f}(q:∀a ks is,F7 h0 a x ks is->Wp (f a) h Q):Wp (sh (mc s k 5) f) h Q:=by
 have hl:=G.len;have hlt:=(List.getElem?_eq_some_iff.1 hx).1;obtain⟨R,g,h2,h3,h4⟩:=G;rw[<-h2,abF] at hx;cases hr:R[k.toNat]? with
 |none=>rw[hr] at hx;cases hx
 |some r=>
  rw[hr] at hx;have hx:r.v=x:=abL hx;subst hx;obtain⟨h5,h6⟩:=h4 r (IN hr);have w:∃a,(λa h'=>h'=h0/\F7 h0 a r.v r.ks r.is) a h0/\mc s k 5 h=some (a,h):=by
   obtain⟨a,h',e,hq⟩:=(ag.1 (h3.ixN (Q:=λa h'=>h'=h0/\F7 h0 a r.v r.ks r.is) cm.xj h1 (by omega) hr λa c=>af.2 ⟨rfl,⟨g,c⟩,h5,h6⟩));obtain⟨_,_,e2,hq⟩:=hq;cases e2;refine⟨a,⟨rfl,hq.2⟩,?_⟩
   grind [mc]
  obtain⟨a,⟨_,hd⟩,e⟩:=w;rw[ag];exact⟨a,h,e,q a _ _ hd⟩
def _root_.Go.Ago.Z.node (z:Z h0 h L){x:al}{ks is:Sl}{f:Nat->M β}
  (q:∀b h',Z h0 h' (.au b [vi x.kind,.string x.text,.bool x.ord,aC ks,aC is] ar::L)->Wp (f b) h' Q) :
  Wp (sh (iB none ar [vi 0,Value.string (ofBytes []),Value.bool false,aI,aI]) λb=>sh (rE (ak b) [vi x.kind,.string x.text,.bool x.ord,aC ks,aC is]) λ_=>f b) h Q:=by
 refine z.new λb h1 z1 _=>z1.st 0 λh2 z2=>q b h2 z2
def Yk {v:ο} n:(List.replicate n [v]).flatten=List.replicate n v:=by
 simp_all
def pQ {γ:Type}{enc:γ->ο}{x} n:(List.replicate n [enc x]).flatten=(List.replicate n x).map enc:=by
 simp_all
theorem ak4 {a}(h1:-9223372036854775808<=a)(h2:a<9223372036854775807):IntKind.i64.wrap (a+1)=a+1:=IntWalk.i64_in _ ⟨by omega,by omega⟩
end Go.Sh
