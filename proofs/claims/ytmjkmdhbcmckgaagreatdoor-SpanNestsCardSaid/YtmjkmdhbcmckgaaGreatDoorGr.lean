
import Derived.Test.YtmjkmdhbcmckgaaGreatDoorAgoP
import Derived.Test.YtmjkmdhbcmckgaaGreatDoorAgoZ
import Derived.Test.YtmjkmdhbcmckgaaGreatDoorSp
set_option linter.all false
namespace Go.Sh
open Go Go.Ago Go.Proofs
variable {β:Type}{h h' h0:AHeap}{L:List Own}{Q:β→AHeap→Prop}
def IL (h:AHeap)(s:Sl)(xs:List Int):Prop:=∃ g,RSl h s 1 (xs.map vi) g
theorem IL.fr {s:Sl}{xs:List Int}(i:IL h s xs)(f:Fr (fun _=>False) h h'):IL h' s xs:=let ⟨g,r⟩:=i;⟨g,r.fr f fun hx=>hx.elim⟩
theorem IL.len {s:Sl}{xs:List Int}(i:IL h s xs):s.len=xs.length:=let ⟨g,r⟩:=i;r.len1
theorem IL.ix {s:Sl}{xs:List Int}(i:IL h s xs){k:Int}{v:Int}(h1:0≤k)(hv:xs[k.toNat]?=some v){f:Addr→M β}(q:∀ a g,Cl h a [vi v] g→Wp (f a) h Q):Wp (M.bind (idxA s k 1) f) h Q :=
 let ⟨g,r⟩:=i
 r.ix1 h1 hv fun a c=>q a g c
structure NdR (h:AHeap) (a:Addr) (x:NodeV) (ks is:Sl):Prop where
 cl:∃ g,Cl h a [vi x.kind,.string x.text,.bool x.ord,vsl ks,vsl is] g
 keys:IL h ks x.keys
 items:IL h is x.items
theorem NdR.fr {a:Addr}{x:NodeV}{ks is:Sl}(d:NdR h a x ks is)(f:Fr (fun _=>False) h h'):NdR h' a x ks is :=
 ⟨let ⟨g,c⟩:=d.cl;⟨g,c.fr f fun hx=>hx.elim⟩,d.keys.fr f,d.items.fr f⟩
theorem NdR.lds {a:Addr}{x:NodeV}{ks is:Sl}(d:NdR h a x ks is){f:Int×ByteArray×Bool×Sl×Sl→M β}(q:Wp (f (x.kind,x.text,x.ord,ks,is)) h Q):Wp (M.bind (ldLs [li,.str,.bool,.sl,.sl] a) f) h Q :=
 let ⟨_,c⟩:=d.cl
 c.lds (x:=((x.kind,x.text,x.ord,ks,is):LsDen [li,.str,.bool,.sl,.sl])) rfl q
theorem NdR.ldK {a:Addr}{x:NodeV}{ks is:Sl}(d:NdR h a x ks is){f:Int→M β}(q:Wp (f x.kind) h Q):Wp (M.bind (ldL li (a.plus 0)) f) h Q:=let ⟨_,c⟩:=d.cl;c.ld (o:=0) (l:=li) rfl rfl q
theorem NdR.ldT {a:Addr}{x:NodeV}{ks is:Sl}(d:NdR h a x ks is){f:ByteArray→M β}(q:Wp (f x.text) h Q):Wp (M.bind (ldL .str (a.plus 1)) f) h Q:=let ⟨_,c⟩:=d.cl;c.ld (o:=1) (l:=.str) rfl rfl q
theorem NdR.ldks {a:Addr}{x:NodeV}{ks is:Sl}(d:NdR h a x ks is){f:Sl→M β}(q:Wp (f ks) h Q):Wp (M.bind (ldL .sl (a.plus 3)) f) h Q:=let ⟨_,c⟩:=d.cl;c.ld (o:=3) (l:=.sl) rfl rfl q
theorem NdR.ldis {a:Addr}{x:NodeV}{ks is:Sl}(d:NdR h a x ks is){f:Sl→M β}(q:Wp (f is) h Q):Wp (M.bind (ldL .sl (a.plus 4)) f) h Q:=let ⟨_,c⟩:=d.cl;c.ld (o:=4) (l:=.sl) rfl rfl q
def GrR (h:AHeap)(s:Sl)(N:List NodeV):Prop :=
 ∃ (R:List NodeR) (g:Nat),R.map NodeR.v=N∧RSl h s 5 (R.flatMap NodeR.enc) g∧∀ x ∈ R,IL h x.ks x.kl∧IL h x.is x.il
theorem GrR.fr {s:Sl}{N:List NodeV}(G:GrR h s N)(f:Fr (fun _=>False) h h'):GrR h' s N :=
 let ⟨R,g,h1,h2,h3⟩:=G
 ⟨R,g,h1,h2.fr f (fun hx=>hx.elim),fun x hx=>⟨(h3 x hx).1.fr f,(h3 x hx).2.fr f⟩⟩
theorem GrR.len {s:Sl}{N:List NodeV}(G:GrR h s N):s.len=N.length:=by
 obtain⟨R,g,h1,h2,_⟩:=G
 have:=h2.1
 rw [flat_length NodeR.enc_len] at this
 rw [← h1,List.length_map];omega
theorem GrR.ix {s:Sl}{N:List NodeV}(G:GrR h s N){k:Int}{x:NodeV}(h1:0≤k)(hx:N[k.toNat]?=some x){f:Addr→M β}(q:∀ a ks is,NdR h a x ks is→Wp (f a) h Q):Wp (M.bind (idxA s k 5) f) h Q:=by
 have hl:=G.len
 have hlt:=(List.getElem?_eq_some_iff.1 hx).1
 obtain⟨R,g,h2,h3,h4⟩:=G
 rw [← h2,List.getElem?_map] at hx
 cases hr:R[k.toNat]? with
 | none=>rw [hr] at hx;cases hx
 | some r =>
  rw [hr] at hx
  have hx:r.v=x:=Option.some.inj hx
  subst hx
  obtain⟨h5,h6⟩:=h4 r (List.mem_of_getElem? hr)
  exact h3.ixN NodeR.enc_len h1 (by omega) hr fun a c=>q a r.ks r.is ⟨⟨g,c⟩,h5,h6⟩
theorem GrR.at {s:Sl}{N:List NodeV}(G:GrR h0 s N)(z:Z h0 h L){k:Int}{x:NodeV}(h1:0≤k)(hx:N[k.toNat]?=some x){f:Addr→M β}(q:∀ a ks is,NdR h a x ks is→IL h0 ks x.keys→IL h0 is x.items→Wp (f a) h Q):Wp (M.bind (idxA s k 5) f) h Q:=by
 have hl:=G.len
 have hlt:=(List.getElem?_eq_some_iff.1 hx).1
 obtain⟨R,g,h2,h3,h4⟩:=G
 rw [← h2,List.getElem?_map] at hx
 cases hr:R[k.toNat]? with
 | none=>rw [hr] at hx;cases hx
 | some r =>
  rw [hr] at hx
  have hx:r.v=x:=Option.some.inj hx
  subst hx
  obtain⟨h5,h6⟩:=h4 r (List.mem_of_getElem? hr)
  exact (h3.fr z.fr fun hx=>hx.elim).ixN NodeR.enc_len h1 (by omega) hr fun a c=>q a r.ks r.is ⟨⟨g,c⟩,h5.fr z.fr,h6.fr z.fr⟩ h5 h6
theorem GrR.at0 {s:Sl}{N:List NodeV}(G:GrR h0 s N)(z:Z h0 h L){k:Int}{x:NodeV}(h1:0≤k)(hx:N[k.toNat]?=some x){f:Addr→M β}(q:∀ a ks is,NdR h0 a x ks is→Wp (f a) h Q):Wp (M.bind (idxA s k 5) f) h Q:=by
 have hl:=G.len
 have hlt:=(List.getElem?_eq_some_iff.1 hx).1
 obtain⟨R,g,h2,h3,h4⟩:=G
 rw [← h2,List.getElem?_map] at hx
 cases hr:R[k.toNat]? with
 | none=>rw [hr] at hx;cases hx
 | some r =>
  rw [hr] at hx
  have hx:r.v=x:=Option.some.inj hx
  subst hx
  obtain⟨h5,h6⟩:=h4 r (List.mem_of_getElem? hr)
  have w:∃ a,(fun a h'=>h'=h0∧NdR h0 a r.v r.ks r.is) a h0∧idxA s k 5 h=some (a,h):=by
   obtain⟨a,h',e,hq⟩:=(Wp_bind.1 (h3.ixN (Q:=fun a h'=>h'=h0∧NdR h0 a r.v r.ks r.is) NodeR.enc_len h1 (by omega) hr (f:=M.pure) fun a c=>Wp_pure.2 ⟨rfl,⟨g,c⟩,h5,h6⟩))
   obtain⟨_,_,e2,hq⟩:=hq
   cases e2
   refine⟨a,⟨rfl,hq.2⟩,?_⟩
   unfold idxA at e ⊢
   cases hs:s.a with
   | none=>rw [hs] at e;cases e
   | some a0 =>
    rw [hs] at e
    simp only at e ⊢
    split at e
    ·rename_i hc;rw [if_pos hc];cases e;rfl
    ·cases e
  obtain⟨a,⟨_,hd⟩,e⟩:=w
  rw [Wp_bind]
  exact⟨a,h,e,q a _ _ hd⟩
theorem _root_.Go.Ago.Z.node (z:Z h0 h L){x:NodeV}{ks is:Sl}{f:Nat→M β}
  (q:∀ b h',Z h0 h' (.blk b [vi x.kind,.string x.text,.bool x.ord,vsl ks,vsl is] T_api_Node::L)→Wp (f b) h' Q) :
  Wp (M.bind (newB none T_api_Node [vi 0,Value.string (ofBytes []),Value.bool false,vsl0,vsl0]) fun b=>M.bind (stN (adr b) [vi x.kind,.string x.text,.bool x.ord,vsl ks,vsl is]) fun _=>f b) h Q:=by
 refine z.new fun b h1 z1 _=>z1.st 0 fun h2 z2=>q b h2 z2
theorem rep_flat {v:Value}(n:Nat):(List.replicate n [v]).flatten=List.replicate n v:=by
 induction n with
 | zero=>rfl
 | succ n ih=>rw [List.replicate_succ,List.flatten_cons,ih];rfl
theorem rep_map {γ:Type}{enc:γ→Value}{x:γ}(n:Nat):(List.replicate n [enc x]).flatten=(List.replicate n x).map enc:=by
 rw [rep_flat,List.map_replicate]
theorem wrap1 {a:Int}(h1:-9223372036854775808≤a)(h2:a<9223372036854775807):IntKind.i64.wrap (a+1)=a+1:=IntWalk.i64_in _ ⟨by omega,by omega⟩
end Go.Sh
