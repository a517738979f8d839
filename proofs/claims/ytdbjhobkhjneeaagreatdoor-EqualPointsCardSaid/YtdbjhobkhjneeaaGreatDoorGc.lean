
import Derived.Test.YtdbjhobkhjneeaaGreatDoorGv
import Derived.Test.YtdbjhobkhjneeaaGreatDoorBi
set_option linter.all false
namespace Go.Sh
open Go Go.Ago Go.Proofs
variable {α β:Type}{h h' h0:aj}{L:List bJ}{Q:β->aj->Prop}
def bump (c:ε)(x:Int):Option ε:=(gt c x).map λv=>c.set x.toNat (IntKind.i64.wrap (v+1))
def vp:ε->ε->Option ε
 |[],c=>some c
 |x::xs,c=>(bump c x).bind (vp xs)
def LY:List al->ε->Option ε
 |[],c=>some c
 |x::xs,c=>((vp x.keys c).bind (vp x.items)).bind (LY xs)
def kX (N:List al)(root:Int):Option ε:=(bump (List.replicate N.length 0) root).bind (LY N)
theorem Em {c c'}{x}(hb:bump c x=some c'):c'.length=c.length:=by
 grind [bump,gt]
theorem yx:∀{xs c c'},vp xs c=some c'->c'.length=c.length
 |[],c,c',hb=>by cases hb;rfl
 |x::xs,c,c',hb=>by
  rw[vp] at hb;cases h1:bump c x with
  |none=>grind
  |some c1=>rw[h1] at hb;rw[yx hb,Em h1]
theorem OC:∀{N} {c c'},LY N c=some c'->c'.length=c.length
 |[],c,c',hb=>by cases hb;rfl
 |x::xs,c,c',hb=>by
  rw[LY] at hb;cases h1:vp x.keys c with
  |none=>grind
  |some c1=>
   rw[h1] at hb;simp at hb;cases h2:vp x.items c1 with
   |none=>grind
   |some c2=>rw[h2] at hb;rw[OC hb,yx h2,yx h1]
def LZ {i b n cap}{e}{c c'}{x}(z:Z h0 h L)(hi:L[i]?=some (.au b (c.map vi) e))(hb:bump c x=some c')(hn:n=c.length){f}
  (q:∀h',Z h0 h' (L.set i (.au b (c'.map vi) e))->Wp f h' Q) :
  Wp (sh (mc ⟨some ⟨b,0,none⟩,n,cap⟩ x 1) λa=>sh (eU li a) λ(v:Int)=>sh (mc ⟨some ⟨b,0,none⟩,n,cap⟩ x 1) λa2=>sh (rE a2 [vi (IntKind.i64.wrap (v+1))]) λ_=>f) h Q:=by
 unfold bump at hb;cases hg:gt c x with
 |none=>rw[hg] at hb;cases hb
 |some v=>
  rw[hg] at hb;have hb:c.set x.toNat (IntKind.i64.wrap (v+1))=c':=abL hb;obtain⟨g1,g2⟩:=aB hg;have hlt:=(List.getElem?_eq_some_iff.1 g2).1;refine Jr g1 (by omega) ?_;refine z.ld i ?_ hi (by rw[aes,abF,g2];rfl) rfl;refine Jr g1 (by omega) ?_;rw[aes];refine z.CH i hlt (λh1 z=>?_) hi;rw[hb] at z;exact q h1 z
theorem aiX {b cap}{e}{sl}{xs}(il:IL h0 sl xs){B}(hB:B<1073741824)(hl:xs.length<=B) a1 a2 a3 a4 :
  ∀n i c r h L ,xs.length-i<n->i<=xs.length->vp (xs.drop i) c=some r->Z h0 h (.au b (c.map vi) e::L) ->
   Wp (nU n ⟨some ⟨b,0,none⟩,c.length,cap⟩ a1 a2 a3 a4 sl (sl.len:Int) (i:Int)) h λ_ h'=>Z h0 h' (.au b (r.map vi) e::L):=by
 intro n
 induction n with
 |zero=>intro i c r h L h1;omega
 |succ n ih=>
  intro i c r h L h1 h2 hb z;rw[AR];unfold su;rw[il.len];by_cases hi:i<xs.length
  .rw[By (by grind)];obtain⟨x,hx⟩:=gS hi;rw[drop_cons hx,vp] at hb;cases hb1:bump c x with
   |none=>rw[hb1] at hb;cases hb
   |some c1=>
    rw[hb1] at hb;refine (il.fr z.fr).ix (by omega) (by simpa using hx) λa g cl=>cl.tC rfl rfl ?_;refine LZ (i:=0) z rfl hb1 rfl λh2 z=>?_;have:=ih (i+1) c1 r h2 L (by omega) (by omega) hb z;rw[wX (amM hi) (by omega)];rw[il.len,Em hb1] at this;exact this
  .rw[AT (by grind),af];have:xs.drop i=[]:=abG (by omega);rw[this] at hb;cases hb;exact z
theorem aiY {b cap}{e}{sl}{xs}(il:IL h0 sl xs){B}(hB:B<1073741824)(hl:xs.length<=B) a2 a3 a4 :
  ∀n i c r h L ,xs.length-i<n->i<=xs.length->vp (xs.drop i) c=some r->Z h0 h (.au b (c.map vi) e::L) ->
   Wp (nV n ⟨some ⟨b,0,none⟩,c.length,cap⟩ a2 a3 a4 sl (sl.len:Int) (i:Int)) h λ_ h'=>Z h0 h' (.au b (r.map vi) e::L):=by
 intro n
 induction n with
 |zero=>intro i c r h L h1;omega
 |succ n ih=>
  intro i c r h L h1 h2 hb z;rw[AU];unfold sv;rw[il.len];by_cases hi:i<xs.length
  .rw[By (by grind)];obtain⟨x,hx⟩:=gS hi;rw[drop_cons hx,vp] at hb;cases hb1:bump c x with
   |none=>rw[hb1] at hb;cases hb
   |some c1=>
    rw[hb1] at hb;refine (il.fr z.fr).ix (by omega) (by simpa using hx) λa g cl=>cl.tC rfl rfl ?_;refine LZ (i:=0) z rfl hb1 rfl λh2 z=>?_;have:=ih (i+1) c1 r h2 L (by omega) (by omega) hb z;rw[wX (amM hi) (by omega)];rw[il.len,Em hb1] at this;exact this
  .rw[AT (by grind),af];have:xs.drop i=[]:=abG (by omega);rw[this] at hb;cases hb;exact z
theorem aiZ {s}{N}(G:kP h0 s N){B}(hB:Bd N B){b cap}{e} :
  ∀n i c r h L ,N.length-i+B+5<n->i<=N.length->LY (N.drop i) c=some r->Z h0 h (.au b (c.map vi) e::L) ->
   Wp (nX n ⟨some ⟨b,0,none⟩,c.length,cap⟩ s (s.len:Int) (i:Int)) h λ_ h'=>Z h0 h' (.au b (r.map vi) e::L):=by
 intro n
 induction n with
 |zero=>intro i c r h L h1;omega
 |succ n ih=>
  intro i c r h L h1 h2 hb z;rw[AV];unfold sA;rw[G.len];by_cases hi:i<N.length
  .rw[By (by grind)];obtain⟨x,hx⟩:=gS hi;rw[drop_cons hx,LY] at hb;have hbd:=hB.2.2 x (IN hx);cases hb1:vp x.keys c with
   |none=>rw[hb1] at hb;cases hb
   |some c1=>
    rw[hb1] at hb;simp at hb;cases hb2:vp x.items c1 with
    |none=>rw[hb2] at hb;cases hb
    |some c2=>
     rw[hb2] at hb;simp at hb;refine G.at z (by omega) (by simpa using hx) λa ks is nd ik ii=>nd.fH ?_;refine z.node λx2 h2' z=>?_;refine z.ld 0 ?_;have z:=z.perm (List.Perm.swap _ _ _);rw[ag];refine (aiX ik hB.2.1 hbd.1 _ _ _ _ n 0 c c1 _ _ (by omega) (by omega) (by grind) z).mono λ_ h3 z=>?_;refine z.ld 1 ?_;rw[ag,<-yx hb1];refine (aiY ii hB.2.1 hbd.2 _ _ _ n 0 c1 c2 _ _ (by omega) (by omega) (by grind) z).mono λ_ h4 z=>?_;have z:=(z.perm (List.Perm.swap _ _ _)).drop;have:=ih (i+1) c2 r h4 L (by omega) (by omega) hb z;rw[wX (amM hi) (by have:=hB.1;have:=hB.2.1;omega)];rw[G.len,yx hb2] at this;exact this
  .rw[AT (by grind),af];have:N.drop i=[]:=abG (by omega);rw[this] at hb;cases hb;exact z
theorem We {s}{root}{N}(z:Z h0 h L)(G:kP h0 s N){B}(hB:Bd N B){n}(hn:2*B+6<n){r}(hr:kX N root=some r) :
  Wp (vE n (s,root)) h λx h'=>∃b,x=⟨some ⟨b,0,none⟩,N.length,N.length+1⟩/\r.length=N.length/\Z h0 h' (.au b (r.map vi) av::L):=by
 unfold vE;unfold kX at hr;cases h1:bump (List.replicate N.length 0) root with
 |none=>rw[h1] at hr;cases hr
 |some c1=>
  rw[h1] at hr;simp at hr;refine z.new λx0 h1' z f1=>?_;refine z.ld 0 ?_;rw[G.len];refine z.MW (by omega) (by have:=hB.1;have:=hB.2.1;grind [cP]) λb h2 z f2=>?_;rw[OF] at z⊢;rw[pQ] at z;refine z.ld 1 ?_;refine LZ (i:=0) z rfl h1 (by simp) λh3 z=>?_;refine z.ld 1 ?_;rw[ag];have hl:=Em h1;rw[agi] at hl;have:=aiZ G hB (cap:=N.length+1) n 0 c1 r h3 (.au x0 [aC s,vi root] ah::L) (by have:=hB.1;omega) (by omega) (by grind) z;rw[hl] at this;refine this.mono λ_ h4 z=>?_;rw[af];exact⟨b,rfl,by rw[OC hr,hl],(z.perm (List.Perm.swap _ _ _)).drop⟩
def Fs (k:Nat)(N:List al):ε->List Bool->Option (List Bool)
 |[],ms=>some ms
 |x::xs,ms=>(Cf k N x ms).bind (Fs k N xs)
def SI (k:Nat)(N:List al):List al->List Bool->Option (List Bool)
 |[],ms=>some ms
 |x::xs,ms=>(Fs k N x.keys ms).bind (SI k N xs)
theorem Iq {k}{N}:∀{xs} {ms r},Fs k N xs ms=some r->r.length=ms.length
 |[],ms,r,hb=>by cases hb;rfl
 |x::xs,ms,r,hb=>by
  rw[Fs] at hb;cases h1:Cf k N x ms with
  |none=>grind
  |some c1=>rw[h1] at hb;rw[Iq hb,(GS k N).1 _ _ _ h1]
theorem SJ {k}{N}:∀{xs} {ms r},SI k N xs ms=some r->r.length=ms.length
 |[],ms,r,hb=>by cases hb;rfl
 |x::xs,ms,r,hb=>by
  rw[SI] at hb;cases h1:Fs k N x.keys ms with
  |none=>grind
  |some c1=>rw[h1] at hb;rw[SJ hb,Iq h1]
theorem ai0 {s}{root}{N}(G:kP h0 s N){B}(hB:Bd N B){b b0 cap k}{e}{sl}{xs}(il:IL h0 sl xs)(hl:xs.length<=B) a2 a3 a4 :
  ∀n i c r h L ,k+(xs.length-i)<n->i<=xs.length->Fs k N (xs.drop i) c=some r->Z h0 h (.au b (c.map .bool) e::.au b0 [aC s,vi root] ah::L) ->
   Wp (oa n (ak b0) ⟨some ⟨b,0,none⟩,c.length,cap⟩ a2 a3 a4 sl (sl.len:Int) (i:Int)) h λ_ h'=>Z h0 h' (.au b (r.map .bool) e::.au b0 [aC s,vi root] ah::L):=by
 intro n
 induction n with
 |zero=>intro i c r h L h1;omega
 |succ n ih=>
  intro i c r h L h1 h2 hb z;rw[A4];unfold sH;rw[il.len];by_cases hi:i<xs.length
  .rw[By (by grind)];obtain⟨x,hx⟩:=gS hi;rw[drop_cons hx,Fs] at hb;cases hb1:Cf k N x c with
   |none=>rw[hb1] at hb;cases hb
   |some c1=>
    rw[hb1] at hb;refine (il.fr z.fr).ix (by omega) (by simpa using hx) λa g cl=>cl.tC rfl rfl ?_;refine z.fH 1 (ls:=[.sl,li]) (x:=(s,root)) ?_;rw[ag];refine (Dr z G hB hb1 (by omega)).mono λ_ h2 z=>?_;have:=ih (i+1) c1 r h2 L (by omega) (by omega) hb z;rw[wX (amM hi) (by have:=hB.2.1;omega)];rw[il.len,(GS k N).1 _ _ _ hb1] at this;exact this
  .rw[AT (by grind),af];have:xs.drop i=[]:=abG (by omega);rw[this] at hb;cases hb;exact z
theorem ai1 {s}{root}{N}(G:kP h0 s N){B}(hB:Bd N B){b b0 cap k}{e} :
  ∀n i c r h L ,k+(N.length-i)+B+5<n->i<=N.length->SI k N (N.drop i) c=some r->Z h0 h (.au b (c.map .bool) e::.au b0 [aC s,vi root] ah::L) ->
   Wp (oc n (ak b0) ⟨some ⟨b,0,none⟩,c.length,cap⟩ s (s.len:Int) (i:Int)) h λ_ h'=>Z h0 h' (.au b (r.map .bool) e::.au b0 [aC s,vi root] ah::L):=by
 intro n
 induction n with
 |zero=>intro i c r h L h1;omega
 |succ n ih=>
  intro i c r h L h1 h2 hb z;rw[A5];unfold sI;rw[G.len];by_cases hi:i<N.length
  .rw[By (by grind)];obtain⟨x,hx⟩:=gS hi;rw[drop_cons hx,SI] at hb;have hbd:=hB.2.2 x (IN hx);cases hb1:Fs k N x.keys c with
   |none=>rw[hb1] at hb;cases hb
   |some c1=>
    rw[hb1] at hb;simp at hb;refine G.at z (by omega) (by simpa using hx) λa ks is nd ik ii=>nd.fH ?_;refine z.node λx2 h2' z=>?_;refine z.ld 0 ?_;have z:=z.perm ((List.Perm.swap _ _ _).trans (List.Perm.cons _ (List.Perm.swap _ _ _)));rw[ag];refine (ai0 (k:=k) G hB ik hbd.1 _ _ _ n 0 c c1 _ _ (by omega) (by omega) (by grind) z).mono λ_ h3 z=>?_;have z:=(z.perm ((List.Perm.cons _ (List.Perm.swap _ _ _)).trans (List.Perm.swap _ _ _))).drop;have:=ih (i+1) c1 r h3 L (by omega) (by omega) hb z;rw[wX (amM hi) (by have:=hB.1;have:=hB.2.1;omega)];rw[G.len,Iq hb1] at this;exact this
  .rw[AT (by grind),af];have:N.drop i=[]:=abG (by omega);rw[this] at hb;cases hb;exact z
theorem Wf {s}{root}{N}(z:Z h0 h L)(G:kP h0 s N){B}(hB:Bd N B){k n}(hn:k+2*B+6<n){r}(hr:SI k N N (List.replicate N.length false)=some r) :
  Wp (vF n (s,root)) h λx h'=>∃b,x=⟨some ⟨b,0,none⟩,N.length,N.length+1⟩/\r.length=N.length/\Z h0 h' (.au b (r.map .bool) xH::L):=by
 unfold vF;refine z.new λx0 h1' z f1=>?_;refine z.ld 0 ?_;rw[G.len];refine z.MW (by omega) (by have:=hB.1;have:=hB.2.1;grind [cP]) λb h2 z f2=>?_;rw[OF] at z⊢;rw[pQ] at z;refine z.ld 1 ?_;rw[ag];have:=ai1 (k:=k) (root:=root) G hB (cap:=N.length+1) n 0 _ r _ L (by have:=hB.1;omega) (by omega) (by grind) z;rw[agi] at this;refine this.mono λ_ h4 z=>?_;rw[af];exact⟨b,rfl,by rw[SJ hr,agi],(z.perm (List.Perm.swap _ _ _)).drop⟩
end Go.Sh
