
import Derived.Test.YtpojbnjkkkiccaaGreatDoorGv
import Derived.Test.YtpojbnjkkkiccaaGreatDoorBi
set_option linter.all false
namespace Go.Sh
open Go Go.Ago Go.Proofs
variable {α β:Type}{h h' h0:ai}{L:List aZ}{Q:β->ai->Prop}
def bump (c:ε)(x:Int):Option ε:=(gt c x).map λv=>c.set x.toNat (IntKind.i64.wrap (v+1))
def mZ:ε->ε->Option ε
 |[],c=>some c
 |x::xs,c=>(bump c x).bind (mZ xs)
def N4:List aq->ε->Option ε
 |[],c=>some c
 |x::xs,c=>((mZ x.keys c).bind (mZ x.items)).bind (N4 xs)
def gC (N:List aq)(root:Int):Option ε:=(bump (List.replicate N.length 0) root).bind (N4 N)
theorem zE {c c'}{x}(hb:bump c x=some c'):c'.length=c.length:=by
 grind [bump,gt]
theorem vd:∀{xs c c'},mZ xs c=some c'->c'.length=c.length
 |[],c,c',hb=>by cases hb;rfl
 |x::xs,c,c',hb=>by
  rw[mZ] at hb;cases h1:bump c x with
  |none=>grind
  |some c1=>rw[h1] at hb;rw[vd hb,zE h1]
theorem Qu:∀{N} {c c'},N4 N c=some c'->c'.length=c.length
 |[],c,c',hb=>by cases hb;rfl
 |x::xs,c,c',hb=>by
  rw[N4] at hb;cases h1:mZ x.keys c with
  |none=>grind
  |some c1=>
   rw[h1] at hb;simp at hb;cases h2:mZ x.items c1 with
   |none=>grind
   |some c2=>rw[h2] at hb;rw[Qu hb,vd h2,vd h1]
def Gf {i b n cap}{e}{c c'}{x}(z:Z h0 h L)(hi:L[i]?=some (.ar b (c.map vi) e))(hb:bump c x=some c')(hn:n=c.length){f}
  (q:∀h',Z h0 h' (L.set i (.ar b (c'.map vi) e))->Wp f h' Q) :
  Wp (sh (mz ⟨some ⟨b,0,none⟩,n,cap⟩ x 1) λa=>sh (dL li a) λ(v:Int)=>sh (mz ⟨some ⟨b,0,none⟩,n,cap⟩ x 1) λa2=>sh (rN a2 [vi (IntKind.i64.wrap (v+1))]) λ_=>f) h Q:=by
 unfold bump at hb;cases hg:gt c x with
 |none=>rw[hg] at hb;cases hb
 |some v=>
  rw[hg] at hb;have hb:c.set x.toNat (IntKind.i64.wrap (v+1))=c':=acZ hb;obtain⟨g1,g2⟩:=aB hg;have hlt:=(List.getElem?_eq_some_iff.1 g2).1;refine GF g1 (by omega) ?_;refine z.ld i ?_ hi (by rw[ahS,abh,g2];rfl) rfl;refine GF g1 (by omega) ?_;rw[ahS];refine z.DV i hlt (λh1 z=>?_) hi;rw[hb] at z;exact q h1 z
theorem akT {b cap}{e}{sl}{xs}(il:IL h0 sl xs){B}(hB:B<1073741824)(hl:xs.length<=B) a1 a2 a3 a4 :
  ∀n i c r h L ,xs.length-i<n->i<=xs.length->mZ (xs.drop i) c=some r->Z h0 h (.ar b (c.map vi) e::L) ->
   Wp (oC n ⟨some ⟨b,0,none⟩,c.length,cap⟩ a1 a2 a3 a4 sl (sl.len:Int) (i:Int)) h λ_ h'=>Z h0 h' (.ar b (r.map vi) e::L):=by
 intro n
 induction n with
 |zero=>intro i c r h L h1;omega
 |succ n ih=>
  intro i c r h L h1 h2 hb z;rw[BU];unfold td;rw[il.len];by_cases hi:i<xs.length
  .rw[By (by grind)];obtain⟨x,hx⟩:=eC hi;rw[drop_cons hx,mZ] at hb;cases hb1:bump c x with
   |none=>rw[hb1] at hb;cases hb
   |some c1=>
    rw[hb1] at hb;refine (il.fr z.fr).ix (by omega) (by simpa using hx) λa g cl=>cl.sL rfl rfl ?_;refine Gf (i:=0) z rfl hb1 rfl λh2 z=>?_;have:=ih (i+1) c1 r h2 L (by omega) (by omega) hb z;rw[wZ (anK hi) (by omega)];rw[il.len,zE hb1] at this;exact this
  .rw[AT (by grind),ag];have:xs.drop i=[]:=abY (by omega);rw[this] at hb;cases hb;exact z
theorem akU {b cap}{e}{sl}{xs}(il:IL h0 sl xs){B}(hB:B<1073741824)(hl:xs.length<=B) a2 a3 a4 :
  ∀n i c r h L ,xs.length-i<n->i<=xs.length->mZ (xs.drop i) c=some r->Z h0 h (.ar b (c.map vi) e::L) ->
   Wp (oD n ⟨some ⟨b,0,none⟩,c.length,cap⟩ a2 a3 a4 sl (sl.len:Int) (i:Int)) h λ_ h'=>Z h0 h' (.ar b (r.map vi) e::L):=by
 intro n
 induction n with
 |zero=>intro i c r h L h1;omega
 |succ n ih=>
  intro i c r h L h1 h2 hb z;rw[BV];unfold tf;rw[il.len];by_cases hi:i<xs.length
  .rw[By (by grind)];obtain⟨x,hx⟩:=eC hi;rw[drop_cons hx,mZ] at hb;cases hb1:bump c x with
   |none=>rw[hb1] at hb;cases hb
   |some c1=>
    rw[hb1] at hb;refine (il.fr z.fr).ix (by omega) (by simpa using hx) λa g cl=>cl.sL rfl rfl ?_;refine Gf (i:=0) z rfl hb1 rfl λh2 z=>?_;have:=ih (i+1) c1 r h2 L (by omega) (by omega) hb z;rw[wZ (anK hi) (by omega)];rw[il.len,zE hb1] at this;exact this
  .rw[AT (by grind),ag];have:xs.drop i=[]:=abY (by omega);rw[this] at hb;cases hb;exact z
theorem akV {s}{N}(G:ou h0 s N){B}(hB:Bd N B){b cap}{e} :
  ∀n i c r h L ,N.length-i+B+5<n->i<=N.length->N4 (N.drop i) c=some r->Z h0 h (.ar b (c.map vi) e::L) ->
   Wp (oE n ⟨some ⟨b,0,none⟩,c.length,cap⟩ s (s.len:Int) (i:Int)) h λ_ h'=>Z h0 h' (.ar b (r.map vi) e::L):=by
 intro n
 induction n with
 |zero=>intro i c r h L h1;omega
 |succ n ih=>
  intro i c r h L h1 h2 hb z;rw[BW];unfold tg;rw[G.len];by_cases hi:i<N.length
  .rw[By (by grind)];obtain⟨x,hx⟩:=eC hi;rw[drop_cons hx,N4] at hb;have hbd:=hB.2.2 x (IN hx);cases hb1:mZ x.keys c with
   |none=>rw[hb1] at hb;cases hb
   |some c1=>
    rw[hb1] at hb;simp at hb;cases hb2:mZ x.items c1 with
    |none=>rw[hb2] at hb;cases hb
    |some c2=>
     rw[hb2] at hb;simp at hb;refine G.at z (by omega) (by simpa using hx) λa ks is nd ik ii=>nd.gh ?_;refine z.node λx2 h2' z=>?_;refine z.ld 0 ?_;have z:=z.perm (List.Perm.swap _ _ _);rw[ah];refine (akT ik hB.2.1 hbd.1 _ _ _ _ n 0 c c1 _ _ (by omega) (by omega) (by grind) z).mono λ_ h3 z=>?_;refine z.ld 1 ?_;rw[ah,<-vd hb1];refine (akU ii hB.2.1 hbd.2 _ _ _ n 0 c1 c2 _ _ (by omega) (by omega) (by grind) z).mono λ_ h4 z=>?_;have z:=(z.perm (List.Perm.swap _ _ _)).drop;have:=ih (i+1) c2 r h4 L (by omega) (by omega) hb z;rw[wZ (anK hi) (by have:=hB.1;have:=hB.2.1;omega)];rw[G.len,vd hb2] at this;exact this
  .rw[AT (by grind),ag];have:N.drop i=[]:=abY (by omega);rw[this] at hb;cases hb;exact z
theorem XV {s}{root}{N}(z:Z h0 h L)(G:ou h0 s N){B}(hB:Bd N B){n}(hn:2*B+6<n){r}(hr:gC N root=some r) :
  Wp (wG n (s,root)) h λx h'=>∃b,x=⟨some ⟨b,0,none⟩,N.length,N.length+1⟩/\r.length=N.length/\Z h0 h' (.ar b (r.map vi) al::L):=by
 unfold wG;unfold gC at hr;cases h1:bump (List.replicate N.length 0) root with
 |none=>rw[h1] at hr;cases hr
 |some c1=>
  rw[h1] at hr;simp at hr;refine z.new λx0 h1' z f1=>?_;refine z.ld 0 ?_;rw[G.len];refine z.Mi (by omega) (by have:=hB.1;have:=hB.2.1;grind [da]) λb h2 z f2=>?_;rw[aba] at z⊢;rw[pI] at z;refine z.ld 1 ?_;refine Gf (i:=0) z rfl h1 (by simp) λh3 z=>?_;refine z.ld 1 ?_;rw[ah];have hl:=zE h1;rw[af2] at hl;have:=akV G hB (cap:=N.length+1) n 0 c1 r h3 (.ar x0 [aA s,vi root] aj::L) (by have:=hB.1;omega) (by omega) (by grind) z;rw[hl] at this;refine this.mono λ_ h4 z=>?_;rw[ag];exact⟨b,rfl,by rw[Qu hr,hl],(z.perm (List.Perm.swap _ _ _)).drop⟩
def Hu (k:Nat)(N:List aq):ε->List Bool->Option (List Bool)
 |[],ms=>some ms
 |x::xs,ms=>(D4 k N x ms).bind (Hu k N xs)
def Ve (k:Nat)(N:List aq):List aq->List Bool->Option (List Bool)
 |[],ms=>some ms
 |x::xs,ms=>(Hu k N x.keys ms).bind (Ve k N xs)
theorem KL {k}{N}:∀{xs} {ms r},Hu k N xs ms=some r->r.length=ms.length
 |[],ms,r,hb=>by cases hb;rfl
 |x::xs,ms,r,hb=>by
  rw[Hu] at hb;cases h1:D4 k N x ms with
  |none=>grind
  |some c1=>rw[h1] at hb;rw[KL hb,(N0 k N).1 _ _ _ h1]
theorem Vf {k}{N}:∀{xs} {ms r},Ve k N xs ms=some r->r.length=ms.length
 |[],ms,r,hb=>by cases hb;rfl
 |x::xs,ms,r,hb=>by
  rw[Ve] at hb;cases h1:Hu k N x.keys ms with
  |none=>grind
  |some c1=>rw[h1] at hb;rw[Vf hb,KL h1]
theorem akW {s}{root}{N}(G:ou h0 s N){B}(hB:Bd N B){b b0 cap k}{e}{sl}{xs}(il:IL h0 sl xs)(hl:xs.length<=B) a2 a3 a4 :
  ∀n i c r h L ,k+(xs.length-i)<n->i<=xs.length->Hu k N (xs.drop i) c=some r->Z h0 h (.ar b (c.map .bool) e::.ar b0 [aA s,vi root] aj::L) ->
   Wp (oM n (ak b0) ⟨some ⟨b,0,none⟩,c.length,cap⟩ a2 a3 a4 sl (sl.len:Int) (i:Int)) h λ_ h'=>Z h0 h' (.ar b (r.map .bool) e::.ar b0 [aA s,vi root] aj::L):=by
 intro n
 induction n with
 |zero=>intro i c r h L h1;omega
 |succ n ih=>
  intro i c r h L h1 h2 hb z;rw[B9];unfold tB;rw[il.len];by_cases hi:i<xs.length
  .rw[By (by grind)];obtain⟨x,hx⟩:=eC hi;rw[drop_cons hx,Hu] at hb;cases hb1:D4 k N x c with
   |none=>rw[hb1] at hb;cases hb
   |some c1=>
    rw[hb1] at hb;refine (il.fr z.fr).ix (by omega) (by simpa using hx) λa g cl=>cl.sL rfl rfl ?_;refine z.gh 1 (ls:=[.sl,li]) (x:=(s,root)) ?_;rw[ah];refine (KK z G hB hb1 (by omega)).mono λ_ h2 z=>?_;have:=ih (i+1) c1 r h2 L (by omega) (by omega) hb z;rw[wZ (anK hi) (by have:=hB.2.1;omega)];rw[il.len,(N0 k N).1 _ _ _ hb1] at this;exact this
  .rw[AT (by grind),ag];have:xs.drop i=[]:=abY (by omega);rw[this] at hb;cases hb;exact z
theorem akX {s}{root}{N}(G:ou h0 s N){B}(hB:Bd N B){b b0 cap k}{e} :
  ∀n i c r h L ,k+(N.length-i)+B+5<n->i<=N.length->Ve k N (N.drop i) c=some r->Z h0 h (.ar b (c.map .bool) e::.ar b0 [aA s,vi root] aj::L) ->
   Wp (oN n (ak b0) ⟨some ⟨b,0,none⟩,c.length,cap⟩ s (s.len:Int) (i:Int)) h λ_ h'=>Z h0 h' (.ar b (r.map .bool) e::.ar b0 [aA s,vi root] aj::L):=by
 intro n
 induction n with
 |zero=>intro i c r h L h1;omega
 |succ n ih=>
  intro i c r h L h1 h2 hb z;rw[Ca];unfold tC;rw[G.len];by_cases hi:i<N.length
  .rw[By (by grind)];obtain⟨x,hx⟩:=eC hi;rw[drop_cons hx,Ve] at hb;have hbd:=hB.2.2 x (IN hx);cases hb1:Hu k N x.keys c with
   |none=>rw[hb1] at hb;cases hb
   |some c1=>
    rw[hb1] at hb;simp at hb;refine G.at z (by omega) (by simpa using hx) λa ks is nd ik ii=>nd.gh ?_;refine z.node λx2 h2' z=>?_;refine z.ld 0 ?_;have z:=z.perm ((List.Perm.swap _ _ _).trans (List.Perm.cons _ (List.Perm.swap _ _ _)));rw[ah];refine (akW (k:=k) G hB ik hbd.1 _ _ _ n 0 c c1 _ _ (by omega) (by omega) (by grind) z).mono λ_ h3 z=>?_;have z:=(z.perm ((List.Perm.cons _ (List.Perm.swap _ _ _)).trans (List.Perm.swap _ _ _))).drop;have:=ih (i+1) c1 r h3 L (by omega) (by omega) hb z;rw[wZ (anK hi) (by have:=hB.1;have:=hB.2.1;omega)];rw[G.len,KL hb1] at this;exact this
  .rw[AT (by grind),ag];have:N.drop i=[]:=abY (by omega);rw[this] at hb;cases hb;exact z
theorem XW {s}{root}{N}(z:Z h0 h L)(G:ou h0 s N){B}(hB:Bd N B){k n}(hn:k+2*B+6<n){r}(hr:Ve k N N (List.replicate N.length false)=some r) :
  Wp (wI n (s,root)) h λx h'=>∃b,x=⟨some ⟨b,0,none⟩,N.length,N.length+1⟩/\r.length=N.length/\Z h0 h' (.ar b (r.map .bool) Ep::L):=by
 unfold wI;refine z.new λx0 h1' z f1=>?_;refine z.ld 0 ?_;rw[G.len];refine z.Mi (by omega) (by have:=hB.1;have:=hB.2.1;grind [da]) λb h2 z f2=>?_;rw[aba] at z⊢;rw[pI] at z;refine z.ld 1 ?_;rw[ah];have:=akX (k:=k) (root:=root) G hB (cap:=N.length+1) n 0 _ r _ L (by have:=hB.1;omega) (by omega) (by grind) z;rw[af2] at this;refine this.mono λ_ h4 z=>?_;rw[ag];exact⟨b,rfl,by rw[Vf hr,af2],(z.perm (List.Perm.swap _ _ _)).drop⟩
end Go.Sh
