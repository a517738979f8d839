
import Derived.Test.YtdbjhobkhjneeaaGreatDoorAgoZ
import Derived.Test.YtdbjhobkhjneeaaGreatDoorSp
set_option linter.all false
namespace Go.Sh
open Go Go.Ago Go.Proofs
variable {β:Type}{h h' h0:aj}{L:List bN}{Q:β->aj->Prop}
def IL (h:aj)(s:Sl)(xs:ε):Prop:=∃g,vj h s 1 (xs.map vi) g
def IL.fr {s}{xs}(i:IL h s xs)(f:Fr (λ_=>False) h h'):IL h' s xs:=let ⟨g,r⟩:=i;⟨g,r.fr f λhx=>hx.elim⟩
theorem IL.len {s}{xs}(i:IL h s xs):s.len=xs.length:=let ⟨g,r⟩:=i;r.Jh
def IL.ix {s}{xs}(i:IL h s xs){k}{v}(h1:0<=k)(hv:xs[k.toNat]?=some v){f}(q:∀a g,Cl h a [vi v] g->Wp (f a) h Q):Wp (sh (mT s k 1) f) h Q:=
 let ⟨g,r⟩:=i
 r.XH h1 hv λa c=>q a g c
structure FY (h:aj) (a:Addr) (x:al) (ks is:Sl):Prop where
 cl:∃g,Cl h a [vi x.kind,.string x.text,.bool x.ord,aC ks,aC is] g
 keys:IL h ks x.keys
 items:IL h is x.items
def FY.fr {a}{x}{ks is}(d:FY h a x ks is)(f:Fr (λ_=>False) h h'):FY h' a x ks is:=
 ⟨let ⟨g,c⟩:=d.cl;⟨g,c.fr f λhx=>hx.elim⟩,d.keys.fr f,d.items.fr f⟩
def FY.fI {a}{x}{ks is}(d:FY h a x ks is){f:Int×ζ×Bool×Sl×Sl->M β}(q:Wp (f (x.kind,x.text,x.ord,ks,is)) h Q):Wp (sh (bY [li,.str,.bool,.sl,.sl] a) f) h Q:=
 let ⟨_,c⟩:=d.cl
 c.fI (x:=((x.kind,x.text,x.ord,ks,is):eC [li,.str,.bool,.sl,.sl])) rfl q
def FY.Od {a}{x}{ks is}(d:FY h a x ks is){f:Int->M β}(q:Wp (f x.kind) h Q):Wp (sh (e9 li (a.plus 0)) f) h Q:=let ⟨_,c⟩:=d.cl;c.ld (o:=0) (l:=li) rfl rfl q
def FY.I4 {a}{x}{ks is}(d:FY h a x ks is){f:ζ->M β}(q:Wp (f x.text) h Q):Wp (sh (e9 .str (a.plus 1)) f) h Q:=let ⟨_,c⟩:=d.cl;c.ld (o:=1) (l:=.str) rfl rfl q
def FY.ldO {a}{x}{ks is}(d:FY h a x ks is){f:Bool->M β}(q:Wp (f x.ord) h Q):Wp (sh (e9 .bool (a.plus 2)) f) h Q:=let ⟨_,c⟩:=d.cl;c.ld (o:=2) (l:=.bool) rfl rfl q
def FY.Jj {a}{x}{ks is}(d:FY h a x ks is){f:Sl->M β}(q:Wp (f ks) h Q):Wp (sh (e9 .sl (a.plus 3)) f) h Q:=let ⟨_,c⟩:=d.cl;c.ld (o:=3) (l:=.sl) rfl rfl q
def FY.D6 {a}{x}{ks is}(d:FY h a x ks is){f:Sl->M β}(q:Wp (f is) h Q):Wp (sh (e9 .sl (a.plus 4)) f) h Q:=let ⟨_,c⟩:=d.cl;c.ld (o:=4) (l:=.sl) rfl rfl q
def lJ (h:aj)(s:Sl)(N:List al):Prop:=
 ∃(R:List cT) (g:Nat),R.map cT.v=N/\vj h s 5 (R.flatMap cT.enc) g/\∀x∈R,IL h x.ks x.kl/\IL h x.is x.il
def lJ.fr {s}{N}(G:lJ h s N)(f:Fr (λ_=>False) h h'):lJ h' s N:=
 let ⟨R,g,h1,h2,h3⟩:=G
 ⟨R,g,h1,h2.fr f (λhx=>hx.elim),λx hx=>⟨(h3 x hx).1.fr f,(h3 x hx).2.fr f⟩⟩
theorem lJ.len {s}{N}(G:lJ h s N):s.len=N.length:=by
 obtain⟨R,g,h1,h2,_⟩:=G;have:=h2.1;rw[oR cT.xd] at this
 grind
def lJ.at {s}{N}(G:lJ h0 s N)(z:Z h0 h L){k}{x}(h1:0<=k)(hx:N[k.toNat]?=some x){f}(q:∀a ks is,FY h a x ks is->IL h0 ks x.keys->IL h0 is x.items->Wp (f a) h Q):Wp (sh (mT s k 5) f) h Q:=by
 have hl:=G.len;have hlt:=(List.getElem?_eq_some_iff.1 hx).1;obtain⟨R,g,h2,h3,h4⟩:=G;rw[<-h2,abi] at hx;cases hr:R[k.toNat]? with
 |none=>rw[hr] at hx;cases hx
 |some r=>
  rw[hr] at hx;have hx:r.v=x:=abu hx;subst hx;obtain⟨h5,h6⟩:=h4 r (IN hr);exact (h3.fr z.fr λhx=>hx.elim).ixN cT.xd h1 (by omega) hr λa c=>q a r.ks r.is ⟨⟨g,c⟩,h5.fr z.fr,h6.fr z.fr⟩ h5 h6
theorem lJ.RX {s}{N}(G:lJ h0 s N)(z:Z h0 h L){k}{x}(h1:0<=k)(hx:N[k.toNat]?=some x){f}(q:∀a ks is,FY h0 a x ks is->Wp (f a) h Q):Wp (sh (mT s k 5) f) h Q:=by
 have hl:=G.len;have hlt:=(List.getElem?_eq_some_iff.1 hx).1;obtain⟨R,g,h2,h3,h4⟩:=G;rw[<-h2,abi] at hx;cases hr:R[k.toNat]? with
 |none=>rw[hr] at hx;cases hx
 |some r=>
  rw[hr] at hx;have hx:r.v=x:=abu hx;subst hx;obtain⟨h5,h6⟩:=h4 r (IN hr);have w:∃a,(λa h'=>h'=h0/\FY h0 a r.v r.ks r.is) a h0/\mT s k 5 h=some (a,h):=by
   obtain⟨a,h',e,hq⟩:=(ag.1 (h3.ixN (Q:=λa h'=>h'=h0/\FY h0 a r.v r.ks r.is) cT.xd h1 (by omega) hr λa c=>af.2 ⟨rfl,⟨g,c⟩,h5,h6⟩));obtain⟨_,_,e2,hq⟩:=hq;cases e2;refine⟨a,⟨rfl,hq.2⟩,?_⟩
   grind [mT]
  obtain⟨a,⟨_,hd⟩,e⟩:=w;rw[ag];exact⟨a,h,e,q a _ _ hd⟩
def _root_.Go.Ago.Z.node (z:Z h0 h L){x:al}{ks is:Sl}{f:Nat->M β}
  (q:∀b h',Z h0 h' (.ar b [vi x.kind,.string x.text,.bool x.ord,aC ks,aC is] az::L)->Wp (f b) h' Q) :
  Wp (sh (iR none az [vi 0,Value.string (ofBytes []),Value.bool false,aI,aI]) λb=>sh (sU (ak b) [vi x.kind,.string x.text,.bool x.ord,aC ks,aC is]) λ_=>f b) h Q:=by
 refine z.new λb h1 z1 _=>z1.st 0 λh2 z2=>q b h2 z2
def XU {v:ο} n:(List.replicate n [v]).flatten=List.replicate n v:=by
 simp_all
def pJ {γ:Type}{enc:γ->ο}{x} n:(List.replicate n [enc x]).flatten=(List.replicate n x).map enc:=by
 simp_all
theorem akR {a}(h1:-9223372036854775808<=a)(h2:a<9223372036854775807):IntKind.i64.wrap (a+1)=a+1:=IntWalk.i64_in _ ⟨by omega,by omega⟩
end Go.Sh
