
import Derived.Test.YtmfkngdglbcngaaGreatDoorGv
import Derived.Test.YtmfkngdglbcngaaGreatDoorBi
set_option linter.all false
namespace Go.Sh
open Go Go.Ago Go.Proofs
variable {α β:Type}{h h' h0:af}{L:List bu}{Q:β->af->Prop}
def bump (c:ε)(x:Int):Option ε:=(gt c x).map λv=>c.set x.toNat (IntKind.i64.wrap (v+1))
def tN:ε->ε->Option ε
 |[],c=>some c
 |x::xs,c=>(bump c x).bind (tN xs)
def J7:List ak->ε->Option ε
 |[],c=>some c
 |x::xs,c=>((tN x.keys c).bind (tN x.items)).bind (J7 xs)
def iX (N:List ak)(root:Int):Option ε:=(bump (List.replicate N.length 0) root).bind (J7 N)
theorem BH {c c':ε}{x:Int}(hb:bump c x=some c'):c'.length=c.length:=by
 grind [bump,gt]
theorem wA:∀{xs c c':ε},tN xs c=some c'->c'.length=c.length
 |[],c,c',hb=>by cases hb;rfl
 |x::xs,c,c',hb=>by
  rw[tN] at hb;cases h1:bump c x with
  |none=>rw[h1] at hb;cases hb
  |some c1=>rw[h1] at hb;rw[wA hb,BH h1]
theorem Mr:∀{N:List ak} {c c':ε},J7 N c=some c'->c'.length=c.length
 |[],c,c',hb=>by cases hb;rfl
 |x::xs,c,c',hb=>by
  rw[J7] at hb;cases h1:tN x.keys c with
  |none=>rw[h1] at hb;cases hb
  |some c1=>
   rw[h1] at hb;simp only[aeR] at hb;cases h2:tN x.items c1 with
   |none=>rw[h2] at hb;cases hb
   |some c2=>rw[h2] at hb;rw[Mr hb,wA h2,wA h1]
theorem J8 {i b n cap:Nat}{e:κ}{c c':ε}{x:Int}(z:Z h0 h L)(hi:L[i]?=some (.au b (c.map vi) e))(hb:bump c x=some c')(hn:n=c.length){f:M β}
  (q:∀h',Z h0 h' (L.set i (.au b (c'.map vi) e))->Wp f h' Q) :
  Wp (sh (aw ⟨some ⟨b,0,none⟩,n,cap⟩ x 1) λa=>sh (ar li a) λ(v:Int)=>sh (aw ⟨some ⟨b,0,none⟩,n,cap⟩ x 1) λa2=>sh (bF a2 [vi (IntKind.i64.wrap (v+1))]) λ_=>f) h Q:=by
 unfold bump at hb;cases hg:gt c x with
 |none=>rw[hg] at hb;cases hb
 |some v=>
  rw[hg] at hb;have hb:c.set x.toNat (IntKind.i64.wrap (v+1))=c':=ab0 hb;obtain⟨g1,g2⟩:=aD hg;have hlt:=(List.getElem?_eq_some_iff.1 g2).1;refine G4 g1 (by omega) ?_;refine z.ld i (o:=x.toNat*1) (l:=li) (x:=v) ?_ hi (by rw[ac0,abo,g2];rfl) rfl;refine G4 g1 (by omega) ?_;rw[ac0];refine z.As i (xs:=c) hlt (λh1 z=>?_) hi;rw[hb] at z;exact q h1 z
theorem adi {b cap:Nat}{e:κ}{sl:Sl}{xs:ε}(il:IL h0 sl xs){B:Nat}(hB:B<1073741824)(hl:xs.length<=B)(a1:Addr)(a2:Sl)(a3 a4:Int) :
  ∀(n i:Nat) (c r:ε) (h:af) (L:List bu),xs.length-i<n->i<=xs.length->tN (xs.drop i) c=some r->Z h0 h (.au b (c.map vi) e::L) ->
   Wp (j6 n ⟨some ⟨b,0,none⟩,c.length,cap⟩ a1 a2 a3 a4 sl (sl.len:Int) (i:Int)) h λ_ h'=>Z h0 h' (.au b (r.map vi) e::L):=by
 intro n
 induction n with
 |zero=>intro i c r h L h1;omega
 |succ n ih=>
  intro i c r h L h1 h2 hb z;rw[yM];unfold qz;rw[il.len];by_cases hi:i<xs.length
  .rw[AT (by simp;omega)];obtain⟨x,hx⟩:=fY hi;rw[drop_cons hx,tN] at hb;cases hb1:bump c x with
   |none=>rw[hb1] at hb;cases hb
   |some c1=>
    rw[hb1] at hb;refine (il.fr z.fr).ix (by omega) (by simpa using hx) λa g cl=>cl.sy (l:=li) rfl rfl ?_;refine J8 (i:=0) z rfl hb1 rfl λh2 z=>?_;have:=ih (i+1) c1 r h2 L (by omega) (by omega) hb z;rw[vq (ag4 hi) (by omega)];rw[il.len,BH hb1] at this;exact this
  .rw[By (by simp;omega),ag];have:xs.drop i=[]:=abV (by omega);rw[this] at hb;cases hb;exact z
theorem adj {b cap:Nat}{e:κ}{sl:Sl}{xs:ε}(il:IL h0 sl xs){B:Nat}(hB:B<1073741824)(hl:xs.length<=B)(a2:Sl)(a3 a4:Int) :
  ∀(n i:Nat) (c r:ε) (h:af) (L:List bu),xs.length-i<n->i<=xs.length->tN (xs.drop i) c=some r->Z h0 h (.au b (c.map vi) e::L) ->
   Wp (j7 n ⟨some ⟨b,0,none⟩,c.length,cap⟩ a2 a3 a4 sl (sl.len:Int) (i:Int)) h λ_ h'=>Z h0 h' (.au b (r.map vi) e::L):=by
 intro n
 induction n with
 |zero=>intro i c r h L h1;omega
 |succ n ih=>
  intro i c r h L h1 h2 hb z;rw[yN];unfold qA;rw[il.len];by_cases hi:i<xs.length
  .rw[AT (by simp;omega)];obtain⟨x,hx⟩:=fY hi;rw[drop_cons hx,tN] at hb;cases hb1:bump c x with
   |none=>rw[hb1] at hb;cases hb
   |some c1=>
    rw[hb1] at hb;refine (il.fr z.fr).ix (by omega) (by simpa using hx) λa g cl=>cl.sy (l:=li) rfl rfl ?_;refine J8 (i:=0) z rfl hb1 rfl λh2 z=>?_;have:=ih (i+1) c1 r h2 L (by omega) (by omega) hb z;rw[vq (ag4 hi) (by omega)];rw[il.len,BH hb1] at this;exact this
  .rw[By (by simp;omega),ag];have:xs.drop i=[]:=abV (by omega);rw[this] at hb;cases hb;exact z
theorem adk {s:Sl}{N:List ak}(G:kX h0 s N){B:Nat}(hB:Bd N B){b cap:Nat}{e:κ} :
  ∀(n i:Nat) (c r:ε) (h:af) (L:List bu),N.length-i+B+5<n->i<=N.length->J7 (N.drop i) c=some r->Z h0 h (.au b (c.map vi) e::L) ->
   Wp (j8 n ⟨some ⟨b,0,none⟩,c.length,cap⟩ s (s.len:Int) (i:Int)) h λ_ h'=>Z h0 h' (.au b (r.map vi) e::L):=by
 intro n
 induction n with
 |zero=>intro i c r h L h1;omega
 |succ n ih=>
  intro i c r h L h1 h2 hb z;rw[yO];unfold qB;rw[G.len];by_cases hi:i<N.length
  .rw[AT (by simp;omega)];obtain⟨x,hx⟩:=fY hi;rw[drop_cons hx,J7] at hb;have hbd:=hB.2.2 x (IN hx);cases hb1:tN x.keys c with
   |none=>rw[hb1] at hb;cases hb
   |some c1=>
    rw[hb1] at hb;simp only[aeR] at hb;cases hb2:tN x.items c1 with
    |none=>rw[hb2] at hb;cases hb
    |some c2=>
     rw[hb2] at hb;simp only[aeR] at hb;refine G.at z (by omega) (by simpa using hx) λa ks is nd ik ii=>nd.fC ?_;refine z.node λx2 h2' z=>?_;refine z.ld 0 (o:=3) (l:=.sl) ?_;have z:=z.perm (List.Perm.swap _ _ _);rw[ah];refine (adi ik hB.2.1 hbd.1 _ _ _ _ n 0 c c1 _ _ (by omega) (by omega) (by simpa using hb1) z).mono λ_ h3 z=>?_;refine z.ld 1 (o:=4) (l:=.sl) ?_;rw[ah,<-wA hb1];refine (adj ii hB.2.1 hbd.2 _ _ _ n 0 c1 c2 _ _ (by omega) (by omega) (by simpa using hb2) z).mono λ_ h4 z=>?_;have z:=(z.perm (List.Perm.swap _ _ _)).drop;have:=ih (i+1) c2 r h4 L (by omega) (by omega) hb z;rw[vq (ag4 hi) (by have:=hB.1;have:=hB.2.1;omega)];rw[G.len,wA hb2] at this;exact this
  .rw[By (by simp;omega),ag];have:N.drop i=[]:=abV (by omega);rw[this] at hb;cases hb;exact z
theorem Tg {s:Sl}{root:Int}{N:List ak}(z:Z h0 h L)(G:kX h0 s N){B:Nat}(hB:Bd N B){n:Nat}(hn:2*B+6<n){r:ε}(hr:iX N root=some r) :
  Wp (tY n (s,root)) h λx h'=>∃b,x=⟨some ⟨b,0,none⟩,N.length,N.length+1⟩/\r.length=N.length/\Z h0 h' (.au b (r.map vi) av::L):=by
 unfold tY;unfold iX at hr;cases h1:bump (List.replicate N.length 0) root with
 |none=>rw[h1] at hr;cases hr
 |some c1=>
  rw[h1] at hr;simp only[aeR] at hr;refine z.new λx0 h1' z f1=>?_;refine z.ld 0 (o:=0) (l:=.sl) ?_;rw[G.len];refine z.Mc (by omega) (by have:=hB.1;have:=hB.2.1;unfold cF;omega) λb h2 z f2=>?_;rw[IT] at z⊢;rw[oD (enc:=vi)] at z;refine z.ld 1 (o:=1) (l:=li) ?_;refine J8 (i:=0) z rfl h1 (by simp) λh3 z=>?_;refine z.ld 1 (o:=0) (l:=.sl) ?_;rw[ah];have hl:=BH h1;rw[aeD] at hl;have:=adk G hB (cap:=N.length+1) n 0 c1 r h3 (.au x0 [aH s,vi root] aj::L) (by have:=hB.1;omega) (by omega) (by simpa using hr) z;rw[hl] at this;refine this.mono λ_ h4 z=>?_;rw[ag];exact⟨b,rfl,by rw[Mr hr,hl],(z.perm (List.Perm.swap _ _ _)).drop⟩
def CK (k:Nat)(N:List ak):ε->List Bool->Option (List Bool)
 |[],ms=>some ms
 |x::xs,ms=>(yb k N x ms).bind (CK k N xs)
def Nh (k:Nat)(N:List ak):List ak->List Bool->Option (List Bool)
 |[],ms=>some ms
 |x::xs,ms=>(CK k N x.keys ms).bind (Nh k N xs)
theorem Gb {k:Nat}{N:List ak}:∀{xs:ε} {ms r:List Bool},CK k N xs ms=some r->r.length=ms.length
 |[],ms,r,hb=>by cases hb;rfl
 |x::xs,ms,r,hb=>by
  rw[CK] at hb;cases h1:yb k N x ms with
  |none=>rw[h1] at hb;cases hb
  |some c1=>rw[h1] at hb;rw[Gb hb,(EN k N).1 _ _ _ h1]
theorem QB {k:Nat}{N:List ak}:∀{xs:List ak} {ms r:List Bool},Nh k N xs ms=some r->r.length=ms.length
 |[],ms,r,hb=>by cases hb;rfl
 |x::xs,ms,r,hb=>by
  rw[Nh] at hb;cases h1:CK k N x.keys ms with
  |none=>rw[h1] at hb;cases hb
  |some c1=>rw[h1] at hb;rw[QB hb,Gb h1]
theorem adl {s:Sl}{root:Int}{N:List ak}(G:kX h0 s N){B:Nat}(hB:Bd N B){b b0 cap k:Nat}{e:κ}{sl:Sl}{xs:ε}(il:IL h0 sl xs)(hl:xs.length<=B)(a2:Sl)(a3 a4:Int) :
  ∀(n i:Nat) (c r:List Bool) (h:af) (L:List bu),k+(xs.length-i)<n->i<=xs.length->CK k N (xs.drop i) c=some r->Z h0 h (.au b (c.map .bool) e::.au b0 [aH s,vi root] aj::L) ->
   Wp (j9 n (an b0) ⟨some ⟨b,0,none⟩,c.length,cap⟩ a2 a3 a4 sl (sl.len:Int) (i:Int)) h λ_ h'=>Z h0 h' (.au b (r.map .bool) e::.au b0 [aH s,vi root] aj::L):=by
 intro n
 induction n with
 |zero=>intro i c r h L h1;omega
 |succ n ih=>
  intro i c r h L h1 h2 hb z;rw[yP];unfold qC;rw[il.len];by_cases hi:i<xs.length
  .rw[AT (by simp;omega)];obtain⟨x,hx⟩:=fY hi;rw[drop_cons hx,CK] at hb;cases hb1:yb k N x c with
   |none=>rw[hb1] at hb;cases hb
   |some c1=>
    rw[hb1] at hb;refine (il.fr z.fr).ix (by omega) (by simpa using hx) λa g cl=>cl.sy (l:=li) rfl rfl ?_;refine z.fC 1 (ls:=[.sl,li]) (x:=(s,root)) ?_;rw[ah];refine (AZ z G hB hb1 (by omega)).mono λ_ h2 z=>?_;have:=ih (i+1) c1 r h2 L (by omega) (by omega) hb z;rw[vq (ag4 hi) (by have:=hB.2.1;omega)];rw[il.len,(EN k N).1 _ _ _ hb1] at this;exact this
  .rw[By (by simp;omega),ag];have:xs.drop i=[]:=abV (by omega);rw[this] at hb;cases hb;exact z
theorem adm {s:Sl}{root:Int}{N:List ak}(G:kX h0 s N){B:Nat}(hB:Bd N B){b b0 cap k:Nat}{e:κ} :
  ∀(n i:Nat) (c r:List Bool) (h:af) (L:List bu),k+(N.length-i)+B+5<n->i<=N.length->Nh k N (N.drop i) c=some r->Z h0 h (.au b (c.map .bool) e::.au b0 [aH s,vi root] aj::L) ->
   Wp (ke n (an b0) ⟨some ⟨b,0,none⟩,c.length,cap⟩ s (s.len:Int) (i:Int)) h λ_ h'=>Z h0 h' (.au b (r.map .bool) e::.au b0 [aH s,vi root] aj::L):=by
 intro n
 induction n with
 |zero=>intro i c r h L h1;omega
 |succ n ih=>
  intro i c r h L h1 h2 hb z;rw[yQ];unfold qD;rw[G.len];by_cases hi:i<N.length
  .rw[AT (by simp;omega)];obtain⟨x,hx⟩:=fY hi;rw[drop_cons hx,Nh] at hb;have hbd:=hB.2.2 x (IN hx);cases hb1:CK k N x.keys c with
   |none=>rw[hb1] at hb;cases hb
   |some c1=>
    rw[hb1] at hb;simp only[aeR] at hb;refine G.at z (by omega) (by simpa using hx) λa ks is nd ik ii=>nd.fC ?_;refine z.node λx2 h2' z=>?_;refine z.ld 0 (o:=3) (l:=.sl) ?_;have z:=z.perm ((List.Perm.swap _ _ _).trans (List.Perm.cons _ (List.Perm.swap _ _ _)));rw[ah];refine (adl (k:=k) G hB ik hbd.1 _ _ _ n 0 c c1 _ _ (by omega) (by omega) (by simpa using hb1) z).mono λ_ h3 z=>?_;have z:=(z.perm ((List.Perm.cons _ (List.Perm.swap _ _ _)).trans (List.Perm.swap _ _ _))).drop;have:=ih (i+1) c1 r h3 L (by omega) (by omega) hb z;rw[vq (ag4 hi) (by have:=hB.1;have:=hB.2.1;omega)];rw[G.len,Gb hb1] at this;exact this
  .rw[By (by simp;omega),ag];have:N.drop i=[]:=abV (by omega);rw[this] at hb;cases hb;exact z
theorem Th {s:Sl}{root:Int}{N:List ak}(z:Z h0 h L)(G:kX h0 s N){B:Nat}(hB:Bd N B){k n:Nat}(hn:k+2*B+6<n){r:List Bool}(hr:Nh k N N (List.replicate N.length false)=some r) :
  Wp (tZ n (s,root)) h λx h'=>∃b,x=⟨some ⟨b,0,none⟩,N.length,N.length+1⟩/\r.length=N.length/\Z h0 h' (.au b (r.map .bool) vG::L):=by
 unfold tZ;refine z.new λx0 h1' z f1=>?_;refine z.ld 0 (o:=0) (l:=.sl) ?_;rw[G.len];refine z.Mc (by omega) (by have:=hB.1;have:=hB.2.1;unfold cF;omega) λb h2 z f2=>?_;rw[IT] at z⊢;rw[oD (enc:=Value.bool)] at z;refine z.ld 1 (o:=0) (l:=.sl) ?_;rw[ah];have:=adm (k:=k) (root:=root) G hB (cap:=N.length+1) n 0 _ r _ L (by have:=hB.1;omega) (by omega) (by simpa using hr) z;rw[aeD] at this;refine this.mono λ_ h4 z=>?_;rw[ag];exact⟨b,rfl,by rw[QB hr,aeD],(z.perm (List.Perm.swap _ _ _)).drop⟩
end Go.Sh
