
import Derived.Test.YthnfbcloepfooaaGreatDoorAgoZ
import Derived.Test.YthnfbcloepfooaaGreatDoorSp
set_option linter.all false
namespace Go.Sh
open Go Go.Ago Go.Proofs
variable {β:Type}{h h' h0:af}{L:List dh}{Q:β->af->Prop}
def IL (h:af)(s:Sl)(xs:ε):Prop:=∃g,Bb h s 1 (xs.map vi) g
theorem IL.fr {s:Sl}{xs:ε}(i:IL h s xs)(f:Fr (λ_=>False) h h'):IL h' s xs:=let ⟨g,r⟩:=i;⟨g,r.fr f λhx=>hx.elim⟩
theorem IL.len {s:Sl}{xs:ε}(i:IL h s xs):s.len=xs.length:=let ⟨g,r⟩:=i;r.CL
theorem IL.ix {s:Sl}{xs:ε}(i:IL h s xs){k:Int}{v:Int}(h1:0<=k)(hv:xs[k.toNat]?=some v){f:Addr->M β}(q:∀a g,Cl h a [vi v] g->Wp (f a) h Q):Wp (AI (ao s k 1) f) h Q:=
 let ⟨g,r⟩:=i
 r.Yw h1 hv λa c=>q a g c
structure Ev (h:af) (a:Addr) (x:aq) (ks is:Sl):Prop where
 cl:∃g,Cl h a [vi x.kind,.string x.text,.bool x.ord,aS ks,aS is] g
 keys:IL h ks x.keys
 items:IL h is x.items
theorem Ev.fr {a:Addr}{x:aq}{ks is:Sl}(d:Ev h a x ks is)(f:Fr (λ_=>False) h h'):Ev h' a x ks is:=
 ⟨let ⟨g,c⟩:=d.cl;⟨g,c.fr f λhx=>hx.elim⟩,d.keys.fr f,d.items.fr f⟩
theorem Ev.jV {a:Addr}{x:aq}{ks is:Sl}(d:Ev h a x ks is){f:Int×ζ×Bool×Sl×Sl->M β}(q:Wp (f (x.kind,x.text,x.ord,ks,is)) h Q):Wp (AI (bh [li,.str,.bool,.sl,.sl] a) f) h Q:=
 let ⟨_,c⟩:=d.cl
 c.jV (x:=((x.kind,x.text,x.ord,ks,is):mF [li,.str,.bool,.sl,.sl])) rfl q
theorem Ev.V1 {a:Addr}{x:aq}{ks is:Sl}(d:Ev h a x ks is){f:Int->M β}(q:Wp (f x.kind) h Q):Wp (AI (ar li (a.plus 0)) f) h Q:=let ⟨_,c⟩:=d.cl;c.ld (o:=0) (l:=li) rfl rfl q
theorem Ev.Jv {a:Addr}{x:aq}{ks is:Sl}(d:Ev h a x ks is){f:ζ->M β}(q:Wp (f x.text) h Q):Wp (AI (ar .str (a.plus 1)) f) h Q:=let ⟨_,c⟩:=d.cl;c.ld (o:=1) (l:=.str) rfl rfl q
theorem Ev.ZW {a:Addr}{x:aq}{ks is:Sl}(d:Ev h a x ks is){f:Bool->M β}(q:Wp (f x.ord) h Q):Wp (AI (ar .bool (a.plus 2)) f) h Q:=let ⟨_,c⟩:=d.cl;c.ld (o:=2) (l:=.bool) rfl rfl q
theorem Ev.V2 {a:Addr}{x:aq}{ks is:Sl}(d:Ev h a x ks is){f:Sl->M β}(q:Wp (f ks) h Q):Wp (AI (ar .sl (a.plus 3)) f) h Q:=let ⟨_,c⟩:=d.cl;c.ld (o:=3) (l:=.sl) rfl rfl q
theorem Ev.Tt {a:Addr}{x:aq}{ks is:Sl}(d:Ev h a x ks is){f:Sl->M β}(q:Wp (f is) h Q):Wp (AI (ar .sl (a.plus 4)) f) h Q:=let ⟨_,c⟩:=d.cl;c.ld (o:=4) (l:=.sl) rfl rfl q
def mE (h:af)(s:Sl)(N:List aq):Prop:=
 ∃(R:List eo) (g:Nat),R.map eo.v=N/\Bb h s 5 (R.flatMap eo.enc) g/\∀x∈R,IL h x.ks x.kl/\IL h x.is x.il
theorem mE.fr {s:Sl}{N:List aq}(G:mE h s N)(f:Fr (λ_=>False) h h'):mE h' s N:=
 let ⟨R,g,h1,h2,h3⟩:=G
 ⟨R,g,h1,h2.fr f (λhx=>hx.elim),λx hx=>⟨(h3 x hx).1.fr f,(h3 x hx).2.fr f⟩⟩
theorem mE.len {s:Sl}{N:List aq}(G:mE h s N):s.len=N.length:=by
 obtain⟨R,g,h1,h2,_⟩:=G;have:=h2.1;rw[fP eo.iA] at this;rw[<-h1,aaQ];omega
theorem mE.ix {s:Sl}{N:List aq}(G:mE h s N){k:Int}{x:aq}(h1:0<=k)(hx:N[k.toNat]?=some x){f:Addr->M β}(q:∀a ks is,Ev h a x ks is->Wp (f a) h Q):Wp (AI (ao s k 5) f) h Q:=by
 have hl:=G.len;have hlt:=(List.getElem?_eq_some_iff.1 hx).1;obtain⟨R,g,h2,h3,h4⟩:=G;rw[<-h2,aaj] at hx;cases hr:R[k.toNat]? with
 |none=>rw[hr] at hx;cases hx
 |some r=>
  rw[hr] at hx;have hx:r.v=x:=aao hx;subst hx;obtain⟨h5,h6⟩:=h4 r (OF hr);exact h3.Xj eo.iA h1 (by omega) hr λa c=>q a r.ks r.is ⟨⟨g,c⟩,h5,h6⟩
theorem mE.at {s:Sl}{N:List aq}(G:mE h0 s N)(z:Z h0 h L){k:Int}{x:aq}(h1:0<=k)(hx:N[k.toNat]?=some x){f:Addr->M β}(q:∀a ks is,Ev h a x ks is->IL h0 ks x.keys->IL h0 is x.items->Wp (f a) h Q):Wp (AI (ao s k 5) f) h Q:=by
 have hl:=G.len;have hlt:=(List.getElem?_eq_some_iff.1 hx).1;obtain⟨R,g,h2,h3,h4⟩:=G;rw[<-h2,aaj] at hx;cases hr:R[k.toNat]? with
 |none=>rw[hr] at hx;cases hx
 |some r=>
  rw[hr] at hx;have hx:r.v=x:=aao hx;subst hx;obtain⟨h5,h6⟩:=h4 r (OF hr);exact (h3.fr z.fr λhx=>hx.elim).Xj eo.iA h1 (by omega) hr λa c=>q a r.ks r.is ⟨⟨g,c⟩,h5.fr z.fr,h6.fr z.fr⟩ h5 h6
theorem mE.Yx {s:Sl}{N:List aq}(G:mE h0 s N)(z:Z h0 h L){k:Int}{x:aq}(h1:0<=k)(hx:N[k.toNat]?=some x){f:Addr->M β}(q:∀a ks is,Ev h0 a x ks is->Wp (f a) h Q):Wp (AI (ao s k 5) f) h Q:=by
 have hl:=G.len;have hlt:=(List.getElem?_eq_some_iff.1 hx).1;obtain⟨R,g,h2,h3,h4⟩:=G;rw[<-h2,aaj] at hx;cases hr:R[k.toNat]? with
 |none=>rw[hr] at hx;cases hx
 |some r=>
  rw[hr] at hx;have hx:r.v=x:=aao hx;subst hx;obtain⟨h5,h6⟩:=h4 r (OF hr);have w:∃a,(λa h'=>h'=h0/\Ev h0 a r.v r.ks r.is) a h0/\ao s k 5 h=some (a,h):=by
   obtain⟨a,h',e,hq⟩:=(ag.1 (h3.Xj (Q:=λa h'=>h'=h0/\Ev h0 a r.v r.ks r.is) eo.iA h1 (by omega) hr (f:=AS) λa c=>ah.2 ⟨rfl,⟨g,c⟩,h5,h6⟩));obtain⟨_,_,e2,hq⟩:=hq;cases e2;refine⟨a,⟨rfl,hq.2⟩,?_⟩;unfold ao at e⊢;cases hs:s.a with
   |none=>rw[hs] at e;cases e
   |some a0=>
    grind
  obtain⟨a,⟨_,hd⟩,e⟩:=w;rw[ag];exact⟨a,h,e,q a _ _ hd⟩
theorem _root_.Go.Ago.Z.node (z:Z h0 h L){x:aq}{ks is:Sl}{f:Nat->M β}
  (q:∀b h',Z h0 h' (.aD b [vi x.kind,.string x.text,.bool x.ord,aS ks,aS is] aH::L)->Wp (f b) h' Q) :
  Wp (AI (aJ none aH [vi 0,Value.string (ofBytes []),Value.bool false,aZ,aZ]) λb=>AI (bE (aw b) [vi x.kind,.string x.text,.bool x.ord,aS ks,aS is]) λ_=>f b) h Q:=by
 refine z.new λb h1 z1 _=>z1.st 0 λh2 z2=>q b h2 z2
theorem IC {v:ξ}(n:Nat):(List.replicate n [v]).flatten=List.replicate n v:=by
 simp_all
theorem l6 {γ:Type}{enc:γ->ξ}{x:γ}(n:Nat):(List.replicate n [enc x]).flatten=(List.replicate n x).map enc:=by
 rw[IC,abN]
theorem ID {a:Int}(h1:-9223372036854775808<=a)(h2:a<9223372036854775807):IntKind.i64.wrap (a+1)=a+1:=IntWalk.i64_in _ ⟨by omega,by omega⟩
end Go.Sh
