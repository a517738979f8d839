
import Derived.Test.YtajnpfnomgjlaaaGreatDoorAgoZ
import Derived.Test.YtajnpfnomgjlaaaGreatDoorSp
set_option linter.all false
namespace Go.Sh
open Go Go.Ago Go.Proofs
variable {β:Type}{h h' h0:ai}{L:List bG}{Q:β->ai->Prop}
def IL (h:ai)(s:Sl)(xs:ε):Prop:=∃g,wq h s 1 (xs.map vi) g
theorem IL.fr {s xs}(i:IL h s xs)(f:Fr (λ_=>False) h h'):IL h' s xs:=let ⟨g,r⟩:=i;⟨g,r.fr f λhx=>hx.elim⟩
theorem IL.len {s xs}(i:IL h s xs):s.len=xs.length:=let ⟨g,r⟩:=i;r.Dn
theorem IL.ix {s xs}(i:IL h s xs){k v}(h1:0<=k)(hv:xs[k.toNat]?=some v){f}(q:∀a g,Cl h a [vi v] g->Wp (f a) h Q):Wp (sh (ar s k 1) f) h Q:=
 let ⟨g,r⟩:=i
 r.VZ h1 hv λa c=>q a g c
structure EF (h:ai) (a:Addr) (x:av) (ks is:Sl):Prop where
 cl:∃g,Cl h a [vi x.kind,.string x.text,.bool x.ord,aI ks,aI is] g
 keys:IL h ks x.keys
 items:IL h is x.items
theorem EF.fr {a x ks is}(d:EF h a x ks is)(f:Fr (λ_=>False) h h'):EF h' a x ks is:=
 ⟨let ⟨g,c⟩:=d.cl;⟨g,c.fr f λhx=>hx.elim⟩,d.keys.fr f,d.items.fr f⟩
theorem EF.iN {a x ks is}(d:EF h a x ks is){f:Int×ζ×Bool×Sl×Sl->M β}(q:Wp (f (x.kind,x.text,x.ord,ks,is)) h Q):Wp (sh (aE [li,.str,.bool,.sl,.sl] a) f) h Q:=
 let ⟨_,c⟩:=d.cl
 c.iN (x:=((x.kind,x.text,x.ord,ks,is):mD [li,.str,.bool,.sl,.sl])) rfl q
theorem EF.Nl {a x ks is}(d:EF h a x ks is){f:Int->M β}(q:Wp (f x.kind) h Q):Wp (sh (aq li (a.plus 0)) f) h Q:=let ⟨_,c⟩:=d.cl;c.ld (o:=0) (l:=li) rfl rfl q
theorem EF.LR {a x ks is}(d:EF h a x ks is){f:ζ->M β}(q:Wp (f x.text) h Q):Wp (sh (aq .str (a.plus 1)) f) h Q:=let ⟨_,c⟩:=d.cl;c.ld (o:=1) (l:=.str) rfl rfl q
theorem EF.ldO {a x ks is}(d:EF h a x ks is){f:Bool->M β}(q:Wp (f x.ord) h Q):Wp (sh (aq .bool (a.plus 2)) f) h Q:=let ⟨_,c⟩:=d.cl;c.ld (o:=2) (l:=.bool) rfl rfl q
theorem EF.HI {a x ks is}(d:EF h a x ks is){f:Sl->M β}(q:Wp (f ks) h Q):Wp (sh (aq .sl (a.plus 3)) f) h Q:=let ⟨_,c⟩:=d.cl;c.ld (o:=3) (l:=.sl) rfl rfl q
theorem EF.HJ {a x ks is}(d:EF h a x ks is){f:Sl->M β}(q:Wp (f is) h Q):Wp (sh (aq .sl (a.plus 4)) f) h Q:=let ⟨_,c⟩:=d.cl;c.ld (o:=4) (l:=.sl) rfl rfl q
def oI (h:ai)(s:Sl)(N:List av):Prop:=
 ∃(R:List bC) (g:Nat),R.map bC.v=N/\wq h s 5 (R.flatMap bC.enc) g/\∀x∈R,IL h x.ks x.kl/\IL h x.is x.il
theorem oI.fr {s N}(G:oI h s N)(f:Fr (λ_=>False) h h'):oI h' s N:=
 let ⟨R,g,h1,h2,h3⟩:=G
 ⟨R,g,h1,h2.fr f (λhx=>hx.elim),λx hx=>⟨(h3 x hx).1.fr f,(h3 x hx).2.fr f⟩⟩
theorem oI.len {s N}(G:oI h s N):s.len=N.length:=by
 obtain⟨R,g,h1,h2,_⟩:=G;have:=h2.1;rw[gN bC.nJ] at this
 grind
theorem oI.ix {s N}(G:oI h s N){k x}(h1:0<=k)(hx:N[k.toNat]?=some x){f}(q:∀a ks is,EF h a x ks is->Wp (f a) h Q):Wp (sh (ar s k 5) f) h Q:=by
 have hl:=G.len;have hlt:=(List.getElem?_eq_some_iff.1 hx).1;obtain⟨R,g,h2,h3,h4⟩:=G;rw[<-h2,abE] at hx;cases hr:R[k.toNat]? with
 |none=>rw[hr] at hx;cases hx
 |some r=>
  rw[hr] at hx;have hx:r.v=x:=adP hx;subst hx;obtain⟨h5,h6⟩:=h4 r (BY hr);exact h3.ixN bC.nJ h1 (by omega) hr λa c=>q a r.ks r.is ⟨⟨g,c⟩,h5,h6⟩
theorem oI.at {s N}(G:oI h0 s N)(z:Z h0 h L){k x}(h1:0<=k)(hx:N[k.toNat]?=some x){f}(q:∀a ks is,EF h a x ks is->IL h0 ks x.keys->IL h0 is x.items->Wp (f a) h Q):Wp (sh (ar s k 5) f) h Q:=by
 have hl:=G.len;have hlt:=(List.getElem?_eq_some_iff.1 hx).1;obtain⟨R,g,h2,h3,h4⟩:=G;rw[<-h2,abE] at hx;cases hr:R[k.toNat]? with
 |none=>rw[hr] at hx;cases hx
 |some r=>
  rw[hr] at hx;have hx:r.v=x:=adP hx;subst hx;obtain⟨h5,h6⟩:=h4 r (BY hr);exact (h3.fr z.fr λhx=>hx.elim).ixN bC.nJ h1 (by omega) hr λa c=>q a r.ks r.is ⟨⟨g,c⟩,h5.fr z.fr,h6.fr z.fr⟩ h5 h6
theorem oI.ZD {s N}(G:oI h0 s N)(z:Z h0 h L){k x}(h1:0<=k)(hx:N[k.toNat]?=some x){f}(q:∀a ks is,EF h0 a x ks is->Wp (f a) h Q):Wp (sh (ar s k 5) f) h Q:=by
 have hl:=G.len;have hlt:=(List.getElem?_eq_some_iff.1 hx).1;obtain⟨R,g,h2,h3,h4⟩:=G;rw[<-h2,abE] at hx;cases hr:R[k.toNat]? with
 |none=>rw[hr] at hx;cases hx
 |some r=>
  rw[hr] at hx;have hx:r.v=x:=adP hx;subst hx;obtain⟨h5,h6⟩:=h4 r (BY hr);have w:∃a,(λa h'=>h'=h0/\EF h0 a r.v r.ks r.is) a h0/\ar s k 5 h=some (a,h):=by
   obtain⟨a,h',e,hq⟩:=(ah.1 (h3.ixN (Q:=λa h'=>h'=h0/\EF h0 a r.v r.ks r.is) bC.nJ h1 (by omega) hr λa c=>ag.2 ⟨rfl,⟨g,c⟩,h5,h6⟩));obtain⟨_,_,e2,hq⟩:=hq;cases e2;refine⟨a,⟨rfl,hq.2⟩,?_⟩
   grind [ar]
  obtain⟨a,⟨_,hd⟩,e⟩:=w;rw[ah];exact⟨a,h,e,q a _ _ hd⟩
theorem _root_.Go.Ago.Z.node (z:Z h0 h L){x:av}{ks is:Sl}{f:Nat->M β}
  (q:∀b h',Z h0 h' (.au b [vi x.kind,.string x.text,.bool x.ord,aI ks,aI is] aA::L)->Wp (f b) h' Q) :
  Wp (sh (aF none aA [vi 0,Value.string (ofBytes []),Value.bool false,aO,aO]) λb=>sh (bh (al b) [vi x.kind,.string x.text,.bool x.ord,aI ks,aI is]) λ_=>f b) h Q:=by
 refine z.new λb h1 z1 _=>z1.st 0 λh2 z2=>q b h2 z2
theorem Wc {v:ξ} n:(List.replicate n [v]).flatten=List.replicate n v:=by
 simp_all
theorem oP {γ:Type}{enc:γ->ξ}{x} n:(List.replicate n [enc x]).flatten=(List.replicate n x).map enc:=by
 simp_all
theorem ag7 {a}(h1:-9223372036854775808<=a)(h2:a<9223372036854775807):IntKind.i64.wrap (a+1)=a+1:=IntWalk.i64_in _ ⟨by omega,by omega⟩
end Go.Sh
