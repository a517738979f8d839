
import Derived.Test.YtdbjhobkhjneeaaGreatDoorGv
import Derived.Test.YtdbjhobkhjneeaaGreatDoorBi
set_option linter.all false
namespace Go.Sh
open Go Go.Ago Go.Proofs
variable {α β:Type}{h h' h0:aj}{L:List bN}{Q:β->aj->Prop}
def bump (c:ε)(x:Int):Option ε:=(gt c x).map λv=>c.set x.toNat (IntKind.i64.wrap (v+1))
def vm:ε->ε->Option ε
 |[],c=>some c
 |x::xs,c=>(bump c x).bind (vm xs)
def LK:List al->ε->Option ε
 |[],c=>some c
 |x::xs,c=>((vm x.keys c).bind (vm x.items)).bind (LK xs)
def kW (N:List al)(root:Int):Option ε:=(bump (List.replicate N.length 0) root).bind (LK N)
def Ed {c c'}{x}(hb:bump c x=some c'):c'.length=c.length:=by
 grind [bump,gt]
def yq:∀{xs c c'},vm xs c=some c'->c'.length=c.length
 |[],c,c',hb=>by cases hb;rfl
 |x::xs,c,c',hb=>by
  rw[vm] at hb;cases h1:bump c x with
  |none=>grind
  |some c1=>rw[h1] at hb;rw[yq hb,Ed h1]
def Ok:∀{N} {c c'},LK N c=some c'->c'.length=c.length
 |[],c,c',hb=>by cases hb;rfl
 |x::xs,c,c',hb=>by
  rw[LK] at hb;cases h1:vm x.keys c with
  |none=>grind
  |some c1=>
   rw[h1] at hb;simp at hb;cases h2:vm x.items c1 with
   |none=>grind
   |some c2=>rw[h2] at hb;rw[Ok hb,yq h2,yq h1]
def LM {i b n cap}{e}{c c'}{x}(z:Z h0 h L)(hi:L[i]?=some (.ar b (c.map vi) e))(hb:bump c x=some c')(hn:n=c.length){f}
  (q:∀h',Z h0 h' (L.set i (.ar b (c'.map vi) e))->Wp f h' Q) :
  Wp (sh (mT ⟨some ⟨b,0,none⟩,n,cap⟩ x 1) λa=>sh (e9 li a) λ(v:Int)=>sh (mT ⟨some ⟨b,0,none⟩,n,cap⟩ x 1) λa2=>sh (sU a2 [vi (IntKind.i64.wrap (v+1))]) λ_=>f) h Q:=by
 unfold bump at hb;cases hg:gt c x with
 |none=>rw[hg] at hb;cases hb
 |some v=>
  rw[hg] at hb;have hb:c.set x.toNat (IntKind.i64.wrap (v+1))=c':=abu hb;obtain⟨g1,g2⟩:=aB hg;have hlt:=(List.getElem?_eq_some_iff.1 g2).1;refine Ji g1 (by omega) ?_;refine z.ld i ?_ hi (by rw[adU,abi,g2];rfl) rfl;refine Ji g1 (by omega) ?_;rw[adU];refine z.CB i hlt (λh1 z=>?_) hi;rw[hb] at z;exact q h1 z
def aiJ {b cap}{e}{sl}{xs}(il:IL h0 sl xs){B}(hB:B<1073741824)(hl:xs.length<=B) a1 a2 a3 a4 :
  ∀n i c r h L ,xs.length-i<n->i<=xs.length->vm (xs.drop i) c=some r->Z h0 h (.ar b (c.map vi) e::L) ->
   Wp (nP n ⟨some ⟨b,0,none⟩,c.length,cap⟩ a1 a2 a3 a4 sl (sl.len:Int) (i:Int)) h λ_ h'=>Z h0 h' (.ar b (r.map vi) e::L):=by
 intro n
 induction n with
 |zero=>intro i c r h L h1;omega
 |succ n ih=>
  intro i c r h L h1 h2 hb z;rw[AO];unfold rW;rw[il.len];by_cases hi:i<xs.length
  .rw[By (by grind)];obtain⟨x,hx⟩:=gG hi;rw[drop_cons hx,vm] at hb;cases hb1:bump c x with
   |none=>rw[hb1] at hb;cases hb
   |some c1=>
    rw[hb1] at hb;refine (il.fr z.fr).ix (by omega) (by simpa using hx) λa g cl=>cl.tn rfl rfl ?_;refine LM (i:=0) z rfl hb1 rfl λh2 z=>?_;have:=ih (i+1) c1 r h2 L (by omega) (by omega) hb z;rw[w3 (amr hi) (by omega)];rw[il.len,Ed hb1] at this;exact this
  .rw[AT (by grind),af];have:xs.drop i=[]:=abn (by omega);rw[this] at hb;cases hb;exact z
def aiK {b cap}{e}{sl}{xs}(il:IL h0 sl xs){B}(hB:B<1073741824)(hl:xs.length<=B) a2 a3 a4 :
  ∀n i c r h L ,xs.length-i<n->i<=xs.length->vm (xs.drop i) c=some r->Z h0 h (.ar b (c.map vi) e::L) ->
   Wp (nQ n ⟨some ⟨b,0,none⟩,c.length,cap⟩ a2 a3 a4 sl (sl.len:Int) (i:Int)) h λ_ h'=>Z h0 h' (.ar b (r.map vi) e::L):=by
 intro n
 induction n with
 |zero=>intro i c r h L h1;omega
 |succ n ih=>
  intro i c r h L h1 h2 hb z;rw[AP];unfold rX;rw[il.len];by_cases hi:i<xs.length
  .rw[By (by grind)];obtain⟨x,hx⟩:=gG hi;rw[drop_cons hx,vm] at hb;cases hb1:bump c x with
   |none=>rw[hb1] at hb;cases hb
   |some c1=>
    rw[hb1] at hb;refine (il.fr z.fr).ix (by omega) (by simpa using hx) λa g cl=>cl.tn rfl rfl ?_;refine LM (i:=0) z rfl hb1 rfl λh2 z=>?_;have:=ih (i+1) c1 r h2 L (by omega) (by omega) hb z;rw[w3 (amr hi) (by omega)];rw[il.len,Ed hb1] at this;exact this
  .rw[AT (by grind),af];have:xs.drop i=[]:=abn (by omega);rw[this] at hb;cases hb;exact z
def aiL {s}{N}(G:lJ h0 s N){B}(hB:Bd N B){b cap}{e} :
  ∀n i c r h L ,N.length-i+B+5<n->i<=N.length->LK (N.drop i) c=some r->Z h0 h (.ar b (c.map vi) e::L) ->
   Wp (nR n ⟨some ⟨b,0,none⟩,c.length,cap⟩ s (s.len:Int) (i:Int)) h λ_ h'=>Z h0 h' (.ar b (r.map vi) e::L):=by
 intro n
 induction n with
 |zero=>intro i c r h L h1;omega
 |succ n ih=>
  intro i c r h L h1 h2 hb z;rw[AQ];unfold rY;rw[G.len];by_cases hi:i<N.length
  .rw[By (by grind)];obtain⟨x,hx⟩:=gG hi;rw[drop_cons hx,LK] at hb;have hbd:=hB.2.2 x (IN hx);cases hb1:vm x.keys c with
   |none=>rw[hb1] at hb;cases hb
   |some c1=>
    rw[hb1] at hb;simp at hb;cases hb2:vm x.items c1 with
    |none=>rw[hb2] at hb;cases hb
    |some c2=>
     rw[hb2] at hb;simp at hb;refine G.at z (by omega) (by simpa using hx) λa ks is nd ik ii=>nd.fI ?_;refine z.node λx2 h2' z=>?_;refine z.ld 0 ?_;have z:=z.perm (List.Perm.swap _ _ _);rw[ag];refine (aiJ ik hB.2.1 hbd.1 _ _ _ _ n 0 c c1 _ _ (by omega) (by omega) (by grind) z).mono λ_ h3 z=>?_;refine z.ld 1 ?_;rw[ag,<-yq hb1];refine (aiK ii hB.2.1 hbd.2 _ _ _ n 0 c1 c2 _ _ (by omega) (by omega) (by grind) z).mono λ_ h4 z=>?_;have z:=(z.perm (List.Perm.swap _ _ _)).drop;have:=ih (i+1) c2 r h4 L (by omega) (by omega) hb z;rw[w3 (amr hi) (by have:=hB.1;have:=hB.2.1;omega)];rw[G.len,yq hb2] at this;exact this
  .rw[AT (by grind),af];have:N.drop i=[]:=abn (by omega);rw[this] at hb;cases hb;exact z
def VS {s}{root}{N}(z:Z h0 h L)(G:lJ h0 s N){B}(hB:Bd N B){n}(hn:2*B+6<n){r}(hr:kW N root=some r) :
  Wp (vB n (s,root)) h λx h'=>∃b,x=⟨some ⟨b,0,none⟩,N.length,N.length+1⟩/\r.length=N.length/\Z h0 h' (.ar b (r.map vi) au::L):=by
 unfold vB;unfold kW at hr;cases h1:bump (List.replicate N.length 0) root with
 |none=>rw[h1] at hr;cases hr
 |some c1=>
  rw[h1] at hr;simp at hr;refine z.new λx0 h1' z f1=>?_;refine z.ld 0 ?_;rw[G.len];refine z.MH (by omega) (by have:=hB.1;have:=hB.2.1;grind [cQ]) λb h2 z f2=>?_;rw[OF] at z⊢;rw[pJ] at z;refine z.ld 1 ?_;refine LM (i:=0) z rfl h1 (by simp) λh3 z=>?_;refine z.ld 1 ?_;rw[ag];have hl:=Ed h1;rw[aeA] at hl;have:=aiL G hB (cap:=N.length+1) n 0 c1 r h3 (.ar x0 [aC s,vi root] ah::L) (by have:=hB.1;omega) (by omega) (by grind) z;rw[hl] at this;refine this.mono λ_ h4 z=>?_;rw[af];exact⟨b,rfl,by rw[Ok hr,hl],(z.perm (List.Perm.swap _ _ _)).drop⟩
def Fj (k:Nat)(N:List al):ε->List Bool->Option (List Bool)
 |[],ms=>some ms
 |x::xs,ms=>(Cb k N x ms).bind (Fj k N xs)
def Si (k:Nat)(N:List al):List al->List Bool->Option (List Bool)
 |[],ms=>some ms
 |x::xs,ms=>(Fj k N x.keys ms).bind (Si k N xs)
def Ig {k}{N}:∀{xs} {ms r},Fj k N xs ms=some r->r.length=ms.length
 |[],ms,r,hb=>by cases hb;rfl
 |x::xs,ms,r,hb=>by
  rw[Fj] at hb;cases h1:Cb k N x ms with
  |none=>grind
  |some c1=>rw[h1] at hb;rw[Ig hb,(GL k N).1 _ _ _ h1]
def Sj {k}{N}:∀{xs} {ms r},Si k N xs ms=some r->r.length=ms.length
 |[],ms,r,hb=>by cases hb;rfl
 |x::xs,ms,r,hb=>by
  rw[Si] at hb;cases h1:Fj k N x.keys ms with
  |none=>grind
  |some c1=>rw[h1] at hb;rw[Sj hb,Ig h1]
def aiM {s}{root}{N}(G:lJ h0 s N){B}(hB:Bd N B){b b0 cap k}{e}{sl}{xs}(il:IL h0 sl xs)(hl:xs.length<=B) a2 a3 a4 :
  ∀n i c r h L ,k+(xs.length-i)<n->i<=xs.length->Fj k N (xs.drop i) c=some r->Z h0 h (.ar b (c.map .bool) e::.ar b0 [aC s,vi root] ah::L) ->
   Wp (nY n (ak b0) ⟨some ⟨b,0,none⟩,c.length,cap⟩ a2 a3 a4 sl (sl.len:Int) (i:Int)) h λ_ h'=>Z h0 h' (.ar b (r.map .bool) e::.ar b0 [aC s,vi root] ah::L):=by
 intro n
 induction n with
 |zero=>intro i c r h L h1;omega
 |succ n ih=>
  intro i c r h L h1 h2 hb z;rw[AZ];unfold sr;rw[il.len];by_cases hi:i<xs.length
  .rw[By (by grind)];obtain⟨x,hx⟩:=gG hi;rw[drop_cons hx,Fj] at hb;cases hb1:Cb k N x c with
   |none=>rw[hb1] at hb;cases hb
   |some c1=>
    rw[hb1] at hb;refine (il.fr z.fr).ix (by omega) (by simpa using hx) λa g cl=>cl.tn rfl rfl ?_;refine z.fI 1 (ls:=[.sl,li]) (x:=(s,root)) ?_;rw[ag];refine (Dl z G hB hb1 (by omega)).mono λ_ h2 z=>?_;have:=ih (i+1) c1 r h2 L (by omega) (by omega) hb z;rw[w3 (amr hi) (by have:=hB.2.1;omega)];rw[il.len,(GL k N).1 _ _ _ hb1] at this;exact this
  .rw[AT (by grind),af];have:xs.drop i=[]:=abn (by omega);rw[this] at hb;cases hb;exact z
def aiN {s}{root}{N}(G:lJ h0 s N){B}(hB:Bd N B){b b0 cap k}{e} :
  ∀n i c r h L ,k+(N.length-i)+B+5<n->i<=N.length->Si k N (N.drop i) c=some r->Z h0 h (.ar b (c.map .bool) e::.ar b0 [aC s,vi root] ah::L) ->
   Wp (nZ n (ak b0) ⟨some ⟨b,0,none⟩,c.length,cap⟩ s (s.len:Int) (i:Int)) h λ_ h'=>Z h0 h' (.ar b (r.map .bool) e::.ar b0 [aC s,vi root] ah::L):=by
 intro n
 induction n with
 |zero=>intro i c r h L h1;omega
 |succ n ih=>
  intro i c r h L h1 h2 hb z;rw[A0];unfold su;rw[G.len];by_cases hi:i<N.length
  .rw[By (by grind)];obtain⟨x,hx⟩:=gG hi;rw[drop_cons hx,Si] at hb;have hbd:=hB.2.2 x (IN hx);cases hb1:Fj k N x.keys c with
   |none=>rw[hb1] at hb;cases hb
   |some c1=>
    rw[hb1] at hb;simp at hb;refine G.at z (by omega) (by simpa using hx) λa ks is nd ik ii=>nd.fI ?_;refine z.node λx2 h2' z=>?_;refine z.ld 0 ?_;have z:=z.perm ((List.Perm.swap _ _ _).trans (List.Perm.cons _ (List.Perm.swap _ _ _)));rw[ag];refine (aiM (k:=k) G hB ik hbd.1 _ _ _ n 0 c c1 _ _ (by omega) (by omega) (by grind) z).mono λ_ h3 z=>?_;have z:=(z.perm ((List.Perm.cons _ (List.Perm.swap _ _ _)).trans (List.Perm.swap _ _ _))).drop;have:=ih (i+1) c1 r h3 L (by omega) (by omega) hb z;rw[w3 (amr hi) (by have:=hB.1;have:=hB.2.1;omega)];rw[G.len,Ig hb1] at this;exact this
  .rw[AT (by grind),af];have:N.drop i=[]:=abn (by omega);rw[this] at hb;cases hb;exact z
def VT {s}{root}{N}(z:Z h0 h L)(G:lJ h0 s N){B}(hB:Bd N B){k n}(hn:k+2*B+6<n){r}(hr:Si k N N (List.replicate N.length false)=some r) :
  Wp (vD n (s,root)) h λx h'=>∃b,x=⟨some ⟨b,0,none⟩,N.length,N.length+1⟩/\r.length=N.length/\Z h0 h' (.ar b (r.map .bool) xC::L):=by
 unfold vD;refine z.new λx0 h1' z f1=>?_;refine z.ld 0 ?_;rw[G.len];refine z.MH (by omega) (by have:=hB.1;have:=hB.2.1;grind [cQ]) λb h2 z f2=>?_;rw[OF] at z⊢;rw[pJ] at z;refine z.ld 1 ?_;rw[ag];have:=aiN (k:=k) (root:=root) G hB (cap:=N.length+1) n 0 _ r _ L (by have:=hB.1;omega) (by omega) (by grind) z;rw[aeA] at this;refine this.mono λ_ h4 z=>?_;rw[af];exact⟨b,rfl,by rw[Sj hr,aeA],(z.perm (List.Perm.swap _ _ _)).drop⟩
end Go.Sh
