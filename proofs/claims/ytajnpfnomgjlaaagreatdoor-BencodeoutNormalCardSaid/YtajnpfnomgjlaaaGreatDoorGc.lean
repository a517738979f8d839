
import Derived.Test.YtajnpfnomgjlaaaGreatDoorGv
import Derived.Test.YtajnpfnomgjlaaaGreatDoorBi
set_option linter.all false
namespace Go.Sh
open Go Go.Ago Go.Proofs
variable {α β:Type}{h h' h0:ai}{L:List bG}{Q:β->ai->Prop}
def bump (c:ε)(x:Int):Option ε:=(gt c x).map λv=>c.set x.toNat (IntKind.i64.wrap (v+1))
def oz:ε->ε->Option ε
 |[],c=>some c
 |x::xs,c=>(bump c x).bind (oz xs)
def Lh:List av->ε->Option ε
 |[],c=>some c
 |x::xs,c=>((oz x.keys c).bind (oz x.items)).bind (Lh xs)
def lP (N:List av)(root:Int):Option ε:=(bump (List.replicate N.length 0) root).bind (Lh N)
theorem xA {c c' x}(hb:bump c x=some c'):c'.length=c.length:=by
 grind [bump,gt]
theorem tV:∀{xs c c'},oz xs c=some c'->c'.length=c.length
 |[],c,c',hb=>by cases hb;rfl
 |x::xs,c,c',hb=>by
  rw[oz] at hb;cases h1:bump c x with
  |none=>rw[h1] at hb;cases hb
  |some c1=>rw[h1] at hb;rw[tV hb,xA h1]
theorem Nu:∀{N} {c c'},Lh N c=some c'->c'.length=c.length
 |[],c,c',hb=>by cases hb;rfl
 |x::xs,c,c',hb=>by
  rw[Lh] at hb;cases h1:oz x.keys c with
  |none=>rw[h1] at hb;cases hb
  |some c1=>
   rw[h1] at hb;simp at hb;cases h2:oz x.items c1 with
   |none=>rw[h2] at hb;cases hb
   |some c2=>rw[h2] at hb;rw[Nu hb,tV h2,tV h1]
theorem CB {i b n cap e c c' x}(z:Z h0 h L)(hi:L[i]?=some (.au b (c.map vi) e))(hb:bump c x=some c')(hn:n=c.length){f}
  (q:∀h',Z h0 h' (L.set i (.au b (c'.map vi) e))->Wp f h' Q) :
  Wp (sh (ar ⟨some ⟨b,0,none⟩,n,cap⟩ x 1) λa=>sh (aq li a) λ(v:Int)=>sh (ar ⟨some ⟨b,0,none⟩,n,cap⟩ x 1) λa2=>sh (bh a2 [vi (IntKind.i64.wrap (v+1))]) λ_=>f) h Q:=by
 unfold bump at hb;cases hg:gt c x with
 |none=>rw[hg] at hb;cases hb
 |some v=>
  rw[hg] at hb;have hb:c.set x.toNat (IntKind.i64.wrap (v+1))=c':=adP hb;obtain⟨g1,g2⟩:=aC hg;have hlt:=(List.getElem?_eq_some_iff.1 g2).1;refine Ek g1 (by omega) ?_;refine z.ld i ?_ hi (by rw[ae1,abE,g2];rfl) rfl;refine Ek g1 (by omega) ?_;rw[ae1];refine z.A3 i hlt (λh1 z=>?_) hi;rw[hb] at z;exact q h1 z
theorem ae8 {b cap e sl xs}(il:IL h0 sl xs){B}(hB:B<1073741824)(hl:xs.length<=B) a1 a2 a3 a4 :
  ∀n i c r h L ,xs.length-i<n->i<=xs.length->oz (xs.drop i) c=some r->Z h0 h (.au b (c.map vi) e::L) ->
   Wp (iQ n ⟨some ⟨b,0,none⟩,c.length,cap⟩ a1 a2 a3 a4 sl (sl.len:Int) (i:Int)) h λ_ h'=>Z h0 h' (.au b (r.map vi) e::L):=by
 intro n
 induction n with
 |zero=>intro i c r h L h1;omega
 |succ n ih=>
  intro i c r h L h1 h2 hb z;rw[zB];unfold mN;rw[il.len];by_cases hi:i<xs.length
  .rw[By (by simp;omega)];obtain⟨x,hx⟩:=eY hi;rw[drop_cons hx,oz] at hb;cases hb1:bump c x with
   |none=>rw[hb1] at hb;cases hb
   |some c1=>
    rw[hb1] at hb;refine (il.fr z.fr).ix (by omega) (by simpa using hx) λa g cl=>cl.rD rfl rfl ?_;refine CB (i:=0) z rfl hb1 rfl λh2 z=>?_;have:=ih (i+1) c1 r h2 L (by omega) (by omega) hb z;rw[vk (aid hi) (by omega)];rw[il.len,xA hb1] at this;exact this
  .rw[AT (by simp;omega),ag];have:xs.drop i=[]:=abZ (by omega);rw[this] at hb;cases hb;exact z
theorem ae9 {b cap e sl xs}(il:IL h0 sl xs){B}(hB:B<1073741824)(hl:xs.length<=B) a2 a3 a4 :
  ∀n i c r h L ,xs.length-i<n->i<=xs.length->oz (xs.drop i) c=some r->Z h0 h (.au b (c.map vi) e::L) ->
   Wp (iR n ⟨some ⟨b,0,none⟩,c.length,cap⟩ a2 a3 a4 sl (sl.len:Int) (i:Int)) h λ_ h'=>Z h0 h' (.au b (r.map vi) e::L):=by
 intro n
 induction n with
 |zero=>intro i c r h L h1;omega
 |succ n ih=>
  intro i c r h L h1 h2 hb z;rw[zC];unfold mO;rw[il.len];by_cases hi:i<xs.length
  .rw[By (by simp;omega)];obtain⟨x,hx⟩:=eY hi;rw[drop_cons hx,oz] at hb;cases hb1:bump c x with
   |none=>rw[hb1] at hb;cases hb
   |some c1=>
    rw[hb1] at hb;refine (il.fr z.fr).ix (by omega) (by simpa using hx) λa g cl=>cl.rD rfl rfl ?_;refine CB (i:=0) z rfl hb1 rfl λh2 z=>?_;have:=ih (i+1) c1 r h2 L (by omega) (by omega) hb z;rw[vk (aid hi) (by omega)];rw[il.len,xA hb1] at this;exact this
  .rw[AT (by simp;omega),ag];have:xs.drop i=[]:=abZ (by omega);rw[this] at hb;cases hb;exact z
theorem afa {s N}(G:oI h0 s N){B}(hB:Bd N B){b cap e} :
  ∀n i c r h L ,N.length-i+B+5<n->i<=N.length->Lh (N.drop i) c=some r->Z h0 h (.au b (c.map vi) e::L) ->
   Wp (iS n ⟨some ⟨b,0,none⟩,c.length,cap⟩ s (s.len:Int) (i:Int)) h λ_ h'=>Z h0 h' (.au b (r.map vi) e::L):=by
 intro n
 induction n with
 |zero=>intro i c r h L h1;omega
 |succ n ih=>
  intro i c r h L h1 h2 hb z;rw[zD];unfold mP;rw[G.len];by_cases hi:i<N.length
  .rw[By (by simp;omega)];obtain⟨x,hx⟩:=eY hi;rw[drop_cons hx,Lh] at hb;have hbd:=hB.2.2 x (BY hx);cases hb1:oz x.keys c with
   |none=>rw[hb1] at hb;cases hb
   |some c1=>
    rw[hb1] at hb;simp at hb;cases hb2:oz x.items c1 with
    |none=>rw[hb2] at hb;cases hb
    |some c2=>
     rw[hb2] at hb;simp at hb;refine G.at z (by omega) (by simpa using hx) λa ks is nd ik ii=>nd.iN ?_;refine z.node λx2 h2' z=>?_;refine z.ld 0 ?_;have z:=z.perm (List.Perm.swap _ _ _);rw[ah];refine (ae8 ik hB.2.1 hbd.1 _ _ _ _ n 0 c c1 _ _ (by omega) (by omega) (by simpa using hb1) z).mono λ_ h3 z=>?_;refine z.ld 1 ?_;rw[ah,<-tV hb1];refine (ae9 ii hB.2.1 hbd.2 _ _ _ n 0 c1 c2 _ _ (by omega) (by omega) (by simpa using hb2) z).mono λ_ h4 z=>?_;have z:=(z.perm (List.Perm.swap _ _ _)).drop;have:=ih (i+1) c2 r h4 L (by omega) (by omega) hb z;rw[vk (aid hi) (by have:=hB.1;have:=hB.2.1;omega)];rw[G.len,tV hb2] at this;exact this
  .rw[AT (by simp;omega),ag];have:N.drop i=[]:=abZ (by omega);rw[this] at hb;cases hb;exact z
theorem Un {s root N}(z:Z h0 h L)(G:oI h0 s N){B}(hB:Bd N B){n}(hn:2*B+6<n){r}(hr:lP N root=some r) :
  Wp (oQ n (s,root)) h λx h'=>∃b,x=⟨some ⟨b,0,none⟩,N.length,N.length+1⟩/\r.length=N.length/\Z h0 h' (.au b (r.map vi) an::L):=by
 unfold oQ;unfold lP at hr;cases h1:bump (List.replicate N.length 0) root with
 |none=>rw[h1] at hr;cases hr
 |some c1=>
  rw[h1] at hr;simp at hr;refine z.new λx0 h1' z f1=>?_;refine z.ld 0 ?_;rw[G.len];refine z.EC (by omega) (by have:=hB.1;have:=hB.2.1;unfold cF;omega) λb h2 z f2=>?_;rw[aa1] at z⊢;rw[oP] at z;refine z.ld 1 ?_;refine CB (i:=0) z rfl h1 (by simp) λh3 z=>?_;refine z.ld 1 ?_;rw[ah];have hl:=xA h1;rw[adV] at hl;have:=afa G hB (cap:=N.length+1) n 0 c1 r h3 (.au x0 [aI s,vi root] aj::L) (by have:=hB.1;omega) (by omega) (by simpa using hr) z;rw[hl] at this;refine this.mono λ_ h4 z=>?_;rw[ag];exact⟨b,rfl,by rw[Nu hr,hl],(z.perm (List.Perm.swap _ _ _)).drop⟩
def DQ (k:Nat)(N:List av):ε->List Bool->Option (List Bool)
 |[],ms=>some ms
 |x::xs,ms=>(Al k N x ms).bind (DQ k N xs)
def U2 (k:Nat)(N:List av):List av->List Bool->Option (List Bool)
 |[],ms=>some ms
 |x::xs,ms=>(DQ k N x.keys ms).bind (U2 k N xs)
theorem G0 {k N}:∀{xs} {ms r},DQ k N xs ms=some r->r.length=ms.length
 |[],ms,r,hb=>by cases hb;rfl
 |x::xs,ms,r,hb=>by
  rw[DQ] at hb;cases h1:Al k N x ms with
  |none=>rw[h1] at hb;cases hb
  |some c1=>rw[h1] at hb;rw[G0 hb,(Lg k N).1 _ _ _ h1]
theorem Re {k N}:∀{xs} {ms r},U2 k N xs ms=some r->r.length=ms.length
 |[],ms,r,hb=>by cases hb;rfl
 |x::xs,ms,r,hb=>by
  rw[U2] at hb;cases h1:DQ k N x.keys ms with
  |none=>rw[h1] at hb;cases hb
  |some c1=>rw[h1] at hb;rw[Re hb,G0 h1]
theorem afb {s root N}(G:oI h0 s N){B}(hB:Bd N B){b b0 cap k e sl xs}(il:IL h0 sl xs)(hl:xs.length<=B) a2 a3 a4 :
  ∀n i c r h L ,k+(xs.length-i)<n->i<=xs.length->DQ k N (xs.drop i) c=some r->Z h0 h (.au b (c.map .bool) e::.au b0 [aI s,vi root] aj::L) ->
   Wp (iX n (al b0) ⟨some ⟨b,0,none⟩,c.length,cap⟩ a2 a3 a4 sl (sl.len:Int) (i:Int)) h λ_ h'=>Z h0 h' (.au b (r.map .bool) e::.au b0 [aI s,vi root] aj::L):=by
 intro n
 induction n with
 |zero=>intro i c r h L h1;omega
 |succ n ih=>
  intro i c r h L h1 h2 hb z;rw[zL];unfold na;rw[il.len];by_cases hi:i<xs.length
  .rw[By (by simp;omega)];obtain⟨x,hx⟩:=eY hi;rw[drop_cons hx,DQ] at hb;cases hb1:Al k N x c with
   |none=>rw[hb1] at hb;cases hb
   |some c1=>
    rw[hb1] at hb;refine (il.fr z.fr).ix (by omega) (by simpa using hx) λa g cl=>cl.rD rfl rfl ?_;refine z.iN 1 (ls:=[.sl,li]) (x:=(s,root)) ?_;rw[ah];refine (GX z G hB hb1 (by omega)).mono λ_ h2 z=>?_;have:=ih (i+1) c1 r h2 L (by omega) (by omega) hb z;rw[vk (aid hi) (by have:=hB.2.1;omega)];rw[il.len,(Lg k N).1 _ _ _ hb1] at this;exact this
  .rw[AT (by simp;omega),ag];have:xs.drop i=[]:=abZ (by omega);rw[this] at hb;cases hb;exact z
theorem afc {s root N}(G:oI h0 s N){B}(hB:Bd N B){b b0 cap k e} :
  ∀n i c r h L ,k+(N.length-i)+B+5<n->i<=N.length->U2 k N (N.drop i) c=some r->Z h0 h (.au b (c.map .bool) e::.au b0 [aI s,vi root] aj::L) ->
   Wp (iY n (al b0) ⟨some ⟨b,0,none⟩,c.length,cap⟩ s (s.len:Int) (i:Int)) h λ_ h'=>Z h0 h' (.au b (r.map .bool) e::.au b0 [aI s,vi root] aj::L):=by
 intro n
 induction n with
 |zero=>intro i c r h L h1;omega
 |succ n ih=>
  intro i c r h L h1 h2 hb z;rw[zM];unfold nf;rw[G.len];by_cases hi:i<N.length
  .rw[By (by simp;omega)];obtain⟨x,hx⟩:=eY hi;rw[drop_cons hx,U2] at hb;have hbd:=hB.2.2 x (BY hx);cases hb1:DQ k N x.keys c with
   |none=>rw[hb1] at hb;cases hb
   |some c1=>
    rw[hb1] at hb;simp at hb;refine G.at z (by omega) (by simpa using hx) λa ks is nd ik ii=>nd.iN ?_;refine z.node λx2 h2' z=>?_;refine z.ld 0 ?_;have z:=z.perm ((List.Perm.swap _ _ _).trans (List.Perm.cons _ (List.Perm.swap _ _ _)));rw[ah];refine (afb (k:=k) G hB ik hbd.1 _ _ _ n 0 c c1 _ _ (by omega) (by omega) (by simpa using hb1) z).mono λ_ h3 z=>?_;have z:=(z.perm ((List.Perm.cons _ (List.Perm.swap _ _ _)).trans (List.Perm.swap _ _ _))).drop;have:=ih (i+1) c1 r h3 L (by omega) (by omega) hb z;rw[vk (aid hi) (by have:=hB.1;have:=hB.2.1;omega)];rw[G.len,G0 hb1] at this;exact this
  .rw[AT (by simp;omega),ag];have:N.drop i=[]:=abZ (by omega);rw[this] at hb;cases hb;exact z
theorem Uo {s root N}(z:Z h0 h L)(G:oI h0 s N){B}(hB:Bd N B){k n}(hn:k+2*B+6<n){r}(hr:U2 k N N (List.replicate N.length false)=some r) :
  Wp (qa n (s,root)) h λx h'=>∃b,x=⟨some ⟨b,0,none⟩,N.length,N.length+1⟩/\r.length=N.length/\Z h0 h' (.au b (r.map .bool) Bp::L):=by
 unfold qa;refine z.new λx0 h1' z f1=>?_;refine z.ld 0 ?_;rw[G.len];refine z.EC (by omega) (by have:=hB.1;have:=hB.2.1;unfold cF;omega) λb h2 z f2=>?_;rw[aa1] at z⊢;rw[oP] at z;refine z.ld 1 ?_;rw[ah];have:=afc (k:=k) (root:=root) G hB (cap:=N.length+1) n 0 _ r _ L (by have:=hB.1;omega) (by omega) (by simpa using hr) z;rw[adV] at this;refine this.mono λ_ h4 z=>?_;rw[ag];exact⟨b,rfl,by rw[Re hr,adV],(z.perm (List.Perm.swap _ _ _)).drop⟩
end Go.Sh
