
import Derived.Test.YthcljaholofonaaGreatDoorGv
import Derived.Test.YthcljaholofonaaGreatDoorBi
set_option linter.all false
namespace Go.Sh
open Go Go.Ago Go.Proofs
variable {α β:Type}{h h' h0:aj}{L:List bA}{Q:β->aj->Prop}
def bump (c:ε)(x:Int):Option ε:=(gt c x).map λv=>c.set x.toNat (IntKind.i64.wrap (v+1))
def jO:ε->ε->Option ε
 |[],c=>some c
 |x::xs,c=>(bump c x).bind (jO xs)
def Od:List ao->ε->Option ε
 |[],c=>some c
 |x::xs,c=>((jO x.keys c).bind (jO x.items)).bind (Od xs)
def wV (N:List ao)(root:Int):Option ε:=(bump (List.replicate N.length 0) root).bind (Od N)
theorem u9 {c c'}{x}(hb:bump c x=some c'):c'.length=c.length:=by
 grind [bump,gt]
def qF:∀{xs c c'},jO xs c=some c'->c'.length=c.length
 |[],c,c',hb=>by cases hb;rfl
 |x::xs,c,c',hb=>by
  rw[jO] at hb;cases h1:bump c x with
  |none=>grind
  |some c1=>rw[h1] at hb;rw[qF hb,u9 h1]
def Qv:∀{N} {c c'},Od N c=some c'->c'.length=c.length
 |[],c,c',hb=>by cases hb;rfl
 |x::xs,c,c',hb=>by
  rw[Od] at hb;cases h1:jO x.keys c with
  |none=>grind
  |some c1=>
   rw[h1] at hb;simp at hb;cases h2:jO x.items c1 with
   |none=>grind
   |some c2=>rw[h2] at hb;rw[Qv hb,qF h2,qF h1]
def zK {i b n cap}{e}{c c'}{x}(z:Z h0 h L)(hi:L[i]?=some (.au b (c.map vi) e))(hb:bump c x=some c')(hn:n=c.length){f}
  (q:∀h',Z h0 h' (L.set i (.au b (c'.map vi) e))->Wp f h' Q) :
  Wp (sh (ni ⟨some ⟨b,0,none⟩,n,cap⟩ x 1) λa=>sh (dz li a) λ(v:Int)=>sh (ni ⟨some ⟨b,0,none⟩,n,cap⟩ x 1) λa2=>sh (sL a2 [vi (IntKind.i64.wrap (v+1))]) λ_=>f) h Q:=by
 unfold bump at hb;cases hg:gt c x with
 |none=>rw[hg] at hb;cases hb
 |some v=>
  rw[hg] at hb;have hb:c.set x.toNat (IntKind.i64.wrap (v+1))=c':=ahh hb;obtain⟨g1,g2⟩:=ax hg;have hlt:=(List.getElem?_eq_some_iff.1 g2).1;refine ze g1 (by omega) ?_;refine z.ld i ?_ hi (by rw[adY,abt,g2];rfl) rfl;refine ze g1 (by omega) ?_;rw[adY];refine z.Cb i hlt (λh1 z=>?_) hi;rw[hb] at z;exact q h1 z
def alN {b cap}{e}{sl}{xs}(il:IL h0 sl xs){B}(hB:B<1073741824)(hl:xs.length<=B) a1 a2 a3 a4 :
  ∀n i c r h L ,xs.length-i<n->i<=xs.length->jO (xs.drop i) c=some r->Z h0 h (.au b (c.map vi) e::L) ->
   Wp (qi n ⟨some ⟨b,0,none⟩,c.length,cap⟩ a1 a2 a3 a4 sl (sl.len:Int) (i:Int)) h λ_ h'=>Z h0 h' (.au b (r.map vi) e::L):=by
 intro n
 induction n with
 |zero=>intro i c r h L h1;omega
 |succ n ih=>
  intro i c r h L h1 h2 hb z;rw[Di];unfold uy;rw[il.len];by_cases hi:i<xs.length
  .rw[By (by grind)];obtain⟨x,hx⟩:=cG hi;rw[drop_cons hx,jO] at hb;cases hb1:bump c x with
   |none=>rw[hb1] at hb;cases hb
   |some c1=>
    rw[hb1] at hb;refine (il.fr z.fr).ix (by omega) (by simpa using hx) λa g cl=>cl.mN rfl rfl ?_;refine zK (i:=0) z rfl hb1 rfl λh2 z=>?_;have:=ih (i+1) c1 r h2 L (by omega) (by omega) hb z;rw[pA (anR hi) (by omega)];rw[il.len,u9 hb1] at this;exact this
  .rw[AT (by grind),ag];have:xs.drop i=[]:=aco (by omega);rw[this] at hb;cases hb;exact z
def alO {b cap}{e}{sl}{xs}(il:IL h0 sl xs){B}(hB:B<1073741824)(hl:xs.length<=B) a2 a3 a4 :
  ∀n i c r h L ,xs.length-i<n->i<=xs.length->jO (xs.drop i) c=some r->Z h0 h (.au b (c.map vi) e::L) ->
   Wp (qj n ⟨some ⟨b,0,none⟩,c.length,cap⟩ a2 a3 a4 sl (sl.len:Int) (i:Int)) h λ_ h'=>Z h0 h' (.au b (r.map vi) e::L):=by
 intro n
 induction n with
 |zero=>intro i c r h L h1;omega
 |succ n ih=>
  intro i c r h L h1 h2 hb z;rw[Dj];unfold uz;rw[il.len];by_cases hi:i<xs.length
  .rw[By (by grind)];obtain⟨x,hx⟩:=cG hi;rw[drop_cons hx,jO] at hb;cases hb1:bump c x with
   |none=>rw[hb1] at hb;cases hb
   |some c1=>
    rw[hb1] at hb;refine (il.fr z.fr).ix (by omega) (by simpa using hx) λa g cl=>cl.mN rfl rfl ?_;refine zK (i:=0) z rfl hb1 rfl λh2 z=>?_;have:=ih (i+1) c1 r h2 L (by omega) (by omega) hb z;rw[pA (anR hi) (by omega)];rw[il.len,u9 hb1] at this;exact this
  .rw[AT (by grind),ag];have:xs.drop i=[]:=aco (by omega);rw[this] at hb;cases hb;exact z
def alP {s}{N}(G:iK h0 s N){B}(hB:Bd N B){b cap}{e} :
  ∀n i c r h L ,N.length-i+B+5<n->i<=N.length->Od (N.drop i) c=some r->Z h0 h (.au b (c.map vi) e::L) ->
   Wp (qk n ⟨some ⟨b,0,none⟩,c.length,cap⟩ s (s.len:Int) (i:Int)) h λ_ h'=>Z h0 h' (.au b (r.map vi) e::L):=by
 intro n
 induction n with
 |zero=>intro i c r h L h1;omega
 |succ n ih=>
  intro i c r h L h1 h2 hb z;rw[Dk];unfold uA;rw[G.len];by_cases hi:i<N.length
  .rw[By (by grind)];obtain⟨x,hx⟩:=cG hi;rw[drop_cons hx,Od] at hb;have hbd:=hB.2.2 x (BY hx);cases hb1:jO x.keys c with
   |none=>rw[hb1] at hb;cases hb
   |some c1=>
    rw[hb1] at hb;simp at hb;cases hb2:jO x.items c1 with
    |none=>rw[hb2] at hb;cases hb
    |some c2=>
     rw[hb2] at hb;simp at hb;refine G.at z (by omega) (by simpa using hx) λa ks is nd ik ii=>nd.eZ ?_;refine z.node λx2 h2' z=>?_;refine z.ld 0 ?_;have z:=z.perm (List.Perm.swap _ _ _);rw[ah];refine (alN ik hB.2.1 hbd.1 _ _ _ _ n 0 c c1 _ _ (by omega) (by omega) (by grind) z).mono λ_ h3 z=>?_;refine z.ld 1 ?_;rw[ah,<-qF hb1];refine (alO ii hB.2.1 hbd.2 _ _ _ n 0 c1 c2 _ _ (by omega) (by omega) (by grind) z).mono λ_ h4 z=>?_;have z:=(z.perm (List.Perm.swap _ _ _)).drop;have:=ih (i+1) c2 r h4 L (by omega) (by omega) hb z;rw[pA (anR hi) (by have:=hB.1;have:=hB.2.1;omega)];rw[G.len,qF hb2] at this;exact this
  .rw[AT (by grind),ag];have:N.drop i=[]:=aco (by omega);rw[this] at hb;cases hb;exact z
def Ye {s}{root}{N}(z:Z h0 h L)(G:iK h0 s N){B}(hB:Bd N B){n}(hn:2*B+6<n){r}(hr:wV N root=some r) :
  Wp (uB n (s,root)) h λx h'=>∃b,x=⟨some ⟨b,0,none⟩,N.length,N.length+1⟩/\r.length=N.length/\Z h0 h' (.au b (r.map vi) an::L):=by
 unfold uB;unfold wV at hr;cases h1:bump (List.replicate N.length 0) root with
 |none=>rw[h1] at hr;cases hr
 |some c1=>
  rw[h1] at hr;simp at hr;refine z.new λx0 h1' z f1=>?_;refine z.ld 0 ?_;rw[G.len];refine z.Ig (by omega) (by have:=hB.1;have:=hB.2.1;grind [bJ]) λb h2 z f2=>?_;rw[IS] at z⊢;rw[lH] at z;refine z.ld 1 ?_;refine zK (i:=0) z rfl h1 (by simp) λh3 z=>?_;refine z.ld 1 ?_;rw[ah];have hl:=u9 h1;rw[aeP] at hl;have:=alP G hB (cap:=N.length+1) n 0 c1 r h3 (.au x0 [aA s,vi root] ai::L) (by have:=hB.1;omega) (by omega) (by grind) z;rw[hl] at this;refine this.mono λ_ h4 z=>?_;rw[ag];exact⟨b,rfl,by rw[Qv hr,hl],(z.perm (List.Perm.swap _ _ _)).drop⟩
def Mf (k:Nat)(N:List ao):ε->List Bool->Option (List Bool)
 |[],ms=>some ms
 |x::xs,ms=>(FP k N x ms).bind (Mf k N xs)
def inK (k:Nat)(N:List ao):List ao->List Bool->Option (List Bool)
 |[],ms=>some ms
 |x::xs,ms=>(Mf k N x.keys ms).bind (inK k N xs)
def KJ {k}{N}:∀{xs} {ms r},Mf k N xs ms=some r->r.length=ms.length
 |[],ms,r,hb=>by cases hb;rfl
 |x::xs,ms,r,hb=>by
  rw[Mf] at hb;cases h1:FP k N x ms with
  |none=>grind
  |some c1=>rw[h1] at hb;rw[KJ hb,(Ob k N).1 _ _ _ h1]
def UP {k}{N}:∀{xs} {ms r},inK k N xs ms=some r->r.length=ms.length
 |[],ms,r,hb=>by cases hb;rfl
 |x::xs,ms,r,hb=>by
  rw[inK] at hb;cases h1:Mf k N x.keys ms with
  |none=>grind
  |some c1=>rw[h1] at hb;rw[UP hb,KJ h1]
def alQ {s}{root}{N}(G:iK h0 s N){B}(hB:Bd N B){b b0 cap k}{e}{sl}{xs}(il:IL h0 sl xs)(hl:xs.length<=B) a2 a3 a4 :
  ∀n i c r h L ,k+(xs.length-i)<n->i<=xs.length->Mf k N (xs.drop i) c=some r->Z h0 h (.au b (c.map .bool) e::.au b0 [aA s,vi root] ai::L) ->
   Wp (qs n (ak b0) ⟨some ⟨b,0,none⟩,c.length,cap⟩ a2 a3 a4 sl (sl.len:Int) (i:Int)) h λ_ h'=>Z h0 h' (.au b (r.map .bool) e::.au b0 [aA s,vi root] ai::L):=by
 intro n
 induction n with
 |zero=>intro i c r h L h1;omega
 |succ n ih=>
  intro i c r h L h1 h2 hb z;rw[Dw];unfold uM;rw[il.len];by_cases hi:i<xs.length
  .rw[By (by grind)];obtain⟨x,hx⟩:=cG hi;rw[drop_cons hx,Mf] at hb;cases hb1:FP k N x c with
   |none=>rw[hb1] at hb;cases hb
   |some c1=>
    rw[hb1] at hb;refine (il.fr z.fr).ix (by omega) (by simpa using hx) λa g cl=>cl.mN rfl rfl ?_;refine z.eZ 1 (ls:=[.sl,li]) (x:=(s,root)) ?_;rw[ah];refine (KH z G hB hb1 (by omega)).mono λ_ h2 z=>?_;have:=ih (i+1) c1 r h2 L (by omega) (by omega) hb z;rw[pA (anR hi) (by have:=hB.2.1;omega)];rw[il.len,(Ob k N).1 _ _ _ hb1] at this;exact this
  .rw[AT (by grind),ag];have:xs.drop i=[]:=aco (by omega);rw[this] at hb;cases hb;exact z
def alR {s}{root}{N}(G:iK h0 s N){B}(hB:Bd N B){b b0 cap k}{e} :
  ∀n i c r h L ,k+(N.length-i)+B+5<n->i<=N.length->inK k N (N.drop i) c=some r->Z h0 h (.au b (c.map .bool) e::.au b0 [aA s,vi root] ai::L) ->
   Wp (qt n (ak b0) ⟨some ⟨b,0,none⟩,c.length,cap⟩ s (s.len:Int) (i:Int)) h λ_ h'=>Z h0 h' (.au b (r.map .bool) e::.au b0 [aA s,vi root] ai::L):=by
 intro n
 induction n with
 |zero=>intro i c r h L h1;omega
 |succ n ih=>
  intro i c r h L h1 h2 hb z;rw[Dx];unfold uN;rw[G.len];by_cases hi:i<N.length
  .rw[By (by grind)];obtain⟨x,hx⟩:=cG hi;rw[drop_cons hx,inK] at hb;have hbd:=hB.2.2 x (BY hx);cases hb1:Mf k N x.keys c with
   |none=>rw[hb1] at hb;cases hb
   |some c1=>
    rw[hb1] at hb;simp at hb;refine G.at z (by omega) (by simpa using hx) λa ks is nd ik ii=>nd.eZ ?_;refine z.node λx2 h2' z=>?_;refine z.ld 0 ?_;have z:=z.perm ((List.Perm.swap _ _ _).trans (List.Perm.cons _ (List.Perm.swap _ _ _)));rw[ah];refine (alQ (k:=k) G hB ik hbd.1 _ _ _ n 0 c c1 _ _ (by omega) (by omega) (by grind) z).mono λ_ h3 z=>?_;have z:=(z.perm ((List.Perm.cons _ (List.Perm.swap _ _ _)).trans (List.Perm.swap _ _ _))).drop;have:=ih (i+1) c1 r h3 L (by omega) (by omega) hb z;rw[pA (anR hi) (by have:=hB.1;have:=hB.2.1;omega)];rw[G.len,KJ hb1] at this;exact this
  .rw[AT (by grind),ag];have:N.drop i=[]:=aco (by omega);rw[this] at hb;cases hb;exact z
def Yf {s}{root}{N}(z:Z h0 h L)(G:iK h0 s N){B}(hB:Bd N B){k n}(hn:k+2*B+6<n){r}(hr:inK k N N (List.replicate N.length false)=some r) :
  Wp (xN n (s,root)) h λx h'=>∃b,x=⟨some ⟨b,0,none⟩,N.length,N.length+1⟩/\r.length=N.length/\Z h0 h' (.au b (r.map .bool) e9::L):=by
 unfold xN;refine z.new λx0 h1' z f1=>?_;refine z.ld 0 ?_;rw[G.len];refine z.Ig (by omega) (by have:=hB.1;have:=hB.2.1;grind [bJ]) λb h2 z f2=>?_;rw[IS] at z⊢;rw[lH] at z;refine z.ld 1 ?_;rw[ah];have:=alR (k:=k) (root:=root) G hB (cap:=N.length+1) n 0 _ r _ L (by have:=hB.1;omega) (by omega) (by grind) z;rw[aeP] at this;refine this.mono λ_ h4 z=>?_;rw[ag];exact⟨b,rfl,by rw[UP hr,aeP],(z.perm (List.Perm.swap _ _ _)).drop⟩
end Go.Sh
