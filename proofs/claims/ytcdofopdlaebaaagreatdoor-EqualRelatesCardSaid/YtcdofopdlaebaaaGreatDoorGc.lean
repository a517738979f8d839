
import Derived.Test.YtcdofopdlaebaaaGreatDoorGv
import Derived.Test.YtcdofopdlaebaaaGreatDoorBi
set_option linter.all false
namespace Go.Sh
open Go Go.Ago Go.Proofs
variable {α β:Type}{h h' h0:af}{L:List bj}{Q:β->af->Prop}
def bump (c:List Int)(x:Int):Option (List Int):=(gt c x).map λv=>c.set x.toNat (IntKind.i64.wrap (v+1))
def sT:List Int->List Int->Option (List Int)
 |[],c=>some c
 |x::xs,c=>(bump c x).bind (sT xs)
def Jh:List an->List Int->Option (List Int)
 |[],c=>some c
 |x::xs,c=>((sT x.keys c).bind (sT x.items)).bind (Jh xs)
def lF (N:List an)(root:Int):Option (List Int):=(bump (List.replicate N.length 0) root).bind (Jh N)
theorem A1 {c c':List Int}{x:Int}(hb:bump c x=some c'):c'.length=c.length:=by
 unfold bump at hb;cases hg:gt c x with
 |none=>rw[hg] at hb;cases hb
 |some v=>rw[hg] at hb;cases hb;simp
theorem vA:∀{xs c c':List Int},sT xs c=some c'->c'.length=c.length
 |[],c,c',hb=>by cases hb;rfl
 |x::xs,c,c',hb=>by
  rw[sT] at hb;cases h1:bump c x with
  |none=>rw[h1] at hb;cases hb
  |some c1=>rw[h1] at hb;rw[vA hb,A1 h1]
theorem Ly:∀{N:List an} {c c':List Int},Jh N c=some c'->c'.length=c.length
 |[],c,c',hb=>by cases hb;rfl
 |x::xs,c,c',hb=>by
  rw[Jh] at hb;cases h1:sT x.keys c with
  |none=>rw[h1] at hb;cases hb
  |some c1=>
   rw[h1] at hb;simp only[aeD] at hb;cases h2:sT x.items c1 with
   |none=>rw[h2] at hb;cases hb
   |some c2=>rw[h2] at hb;rw[Ly hb,vA h2,vA h1]
theorem Ji {i b n cap:Nat}{e:TypeId}{c c':List Int}{x:Int}(z:Z h0 h L)(hi:L[i]?=some (.ar b (c.map vi) e))(hb:bump c x=some c')(hn:n=c.length){f:M β}
  (q:∀h',Z h0 h' (L.set i (.ar b (c'.map vi) e))->Wp f h' Q) :
  Wp (sh (av ⟨some ⟨b,0,none⟩,n,cap⟩ x 1) λa=>sh (aq li a) λ(v:Int)=>sh (av ⟨some ⟨b,0,none⟩,n,cap⟩ x 1) λa2=>sh (bG a2 [vi (IntKind.i64.wrap (v+1))]) λ_=>f) h Q:=by
 unfold bump at hb;cases hg:gt c x with
 |none=>rw[hg] at hb;cases hb
 |some v=>
  rw[hg] at hb;have hb:c.set x.toNat (IntKind.i64.wrap (v+1))=c':=abi hb;obtain⟨g1,g2⟩:=aD hg;have hlt:=(List.getElem?_eq_some_iff.1 g2).1;refine F8 g1 (by omega) ?_;refine z.ld i (o:=x.toNat*1) (l:=li) (x:=v) ?_ hi (by rw[acq,aaW,g2];rfl) rfl;refine F8 g1 (by omega) ?_;rw[acq];refine z.zA i (xs:=c) hlt (λh1 z=>?_) hi;rw[hb] at z;exact q h1 z
theorem acb {b cap:Nat}{e:TypeId}{sl:Sl}{xs:List Int}(il:IL h0 sl xs){B:Nat}(hB:B<1073741824)(hl:xs.length<=B)(a1:Addr)(a2:Sl)(a3 a4:Int) :
  ∀(n i:Nat) (c r:List Int) (h:af) (L:List bj),xs.length-i<n->i<=xs.length->sT (xs.drop i) c=some r->Z h0 h (.ar b (c.map vi) e::L) ->
   Wp (jO n ⟨some ⟨b,0,none⟩,c.length,cap⟩ a1 a2 a3 a4 sl (sl.len:Int) (i:Int)) h λ_ h'=>Z h0 h' (.ar b (r.map vi) e::L):=by
 intro n
 induction n with
 |zero=>intro i c r h L h1;omega
 |succ n ih=>
  intro i c r h L h1 h2 hb z;rw[xQ];unfold pX;rw[il.len];by_cases hi:i<xs.length
  .rw[if_pos (by simp;omega)];obtain⟨x,hx⟩:=jy hi;rw[drop_cons hx,sT] at hb;cases hb1:bump c x with
   |none=>rw[hb1] at hb;cases hb
   |some c1=>
    rw[hb1] at hb;refine (il.fr z.fr).ix (by omega) (by simpa using hx) λa g cl=>cl.pL (l:=li) rfl rfl ?_;refine Ji (i:=0) z rfl hb1 rfl λh2 z=>?_;have:=ih (i+1) c1 r h2 L (by omega) (by omega) hb z;rw[uv (afM hi) (by omega)];rw[il.len,A1 hb1] at this;exact this
  .rw[if_neg (by simp;omega),ag];have:xs.drop i=[]:=aaS (by omega);rw[this] at hb;cases hb;exact z
theorem acd {b cap:Nat}{e:TypeId}{sl:Sl}{xs:List Int}(il:IL h0 sl xs){B:Nat}(hB:B<1073741824)(hl:xs.length<=B)(a2:Sl)(a3 a4:Int) :
  ∀(n i:Nat) (c r:List Int) (h:af) (L:List bj),xs.length-i<n->i<=xs.length->sT (xs.drop i) c=some r->Z h0 h (.ar b (c.map vi) e::L) ->
   Wp (jP n ⟨some ⟨b,0,none⟩,c.length,cap⟩ a2 a3 a4 sl (sl.len:Int) (i:Int)) h λ_ h'=>Z h0 h' (.ar b (r.map vi) e::L):=by
 intro n
 induction n with
 |zero=>intro i c r h L h1;omega
 |succ n ih=>
  intro i c r h L h1 h2 hb z;rw[xR];unfold pY;rw[il.len];by_cases hi:i<xs.length
  .rw[if_pos (by simp;omega)];obtain⟨x,hx⟩:=jy hi;rw[drop_cons hx,sT] at hb;cases hb1:bump c x with
   |none=>rw[hb1] at hb;cases hb
   |some c1=>
    rw[hb1] at hb;refine (il.fr z.fr).ix (by omega) (by simpa using hx) λa g cl=>cl.pL (l:=li) rfl rfl ?_;refine Ji (i:=0) z rfl hb1 rfl λh2 z=>?_;have:=ih (i+1) c1 r h2 L (by omega) (by omega) hb z;rw[uv (afM hi) (by omega)];rw[il.len,A1 hb1] at this;exact this
  .rw[if_neg (by simp;omega),ag];have:xs.drop i=[]:=aaS (by omega);rw[this] at hb;cases hb;exact z
theorem ace {s:Sl}{N:List an}(G:jI h0 s N){B:Nat}(hB:Bd N B){b cap:Nat}{e:TypeId} :
  ∀(n i:Nat) (c r:List Int) (h:af) (L:List bj),N.length-i+B+5<n->i<=N.length->Jh (N.drop i) c=some r->Z h0 h (.ar b (c.map vi) e::L) ->
   Wp (jQ n ⟨some ⟨b,0,none⟩,c.length,cap⟩ s (s.len:Int) (i:Int)) h λ_ h'=>Z h0 h' (.ar b (r.map vi) e::L):=by
 intro n
 induction n with
 |zero=>intro i c r h L h1;omega
 |succ n ih=>
  intro i c r h L h1 h2 hb z;rw[xS];unfold pZ;rw[G.len];by_cases hi:i<N.length
  .rw[if_pos (by simp;omega)];obtain⟨x,hx⟩:=jy hi;rw[drop_cons hx,Jh] at hb;have hbd:=hB.2.2 x (IN hx);cases hb1:sT x.keys c with
   |none=>rw[hb1] at hb;cases hb
   |some c1=>
    rw[hb1] at hb;simp only[aeD] at hb;cases hb2:sT x.items c1 with
    |none=>rw[hb2] at hb;cases hb
    |some c2=>
     rw[hb2] at hb;simp only[aeD] at hb;refine G.at z (by omega) (by simpa using hx) λa ks is nd ik ii=>nd.fI ?_;refine z.node λx2 h2' z=>?_;refine z.ld 0 (o:=3) (l:=.sl) ?_;have z:=z.perm (List.Perm.swap _ _ _);rw[ah];refine (acb ik hB.2.1 hbd.1 _ _ _ _ n 0 c c1 _ _ (by omega) (by omega) (by simpa using hb1) z).mono λ_ h3 z=>?_;refine z.ld 1 (o:=4) (l:=.sl) ?_;rw[ah,<-vA hb1];refine (acd ii hB.2.1 hbd.2 _ _ _ n 0 c1 c2 _ _ (by omega) (by omega) (by simpa using hb2) z).mono λ_ h4 z=>?_;have z:=(z.perm (List.Perm.swap _ _ _)).drop;have:=ih (i+1) c2 r h4 L (by omega) (by omega) hb z;rw[uv (afM hi) (by have:=hB.1;have:=hB.2.1;omega)];rw[G.len,vA hb2] at this;exact this
  .rw[if_neg (by simp;omega),ag];have:N.drop i=[]:=aaS (by omega);rw[this] at hb;cases hb;exact z
theorem Sj {s:Sl}{root:Int}{N:List an}(z:Z h0 h L)(G:jI h0 s N){B:Nat}(hB:Bd N B){n:Nat}(hn:2*B+6<n){r:List Int}(hr:lF N root=some r) :
  Wp (s7 n (s,root)) h λx h'=>∃b,x=⟨some ⟨b,0,none⟩,N.length,N.length+1⟩/\r.length=N.length/\Z h0 h' (.ar b (r.map vi) au::L):=by
 unfold s7;unfold lF at hr;cases h1:bump (List.replicate N.length 0) root with
 |none=>rw[h1] at hr;cases hr
 |some c1=>
  rw[h1] at hr;simp only[aeD] at hr;refine z.new λx0 h1' z f1=>?_;refine z.ld 0 (o:=0) (l:=.sl) ?_;rw[G.len];refine z.Lh (by omega) (by have:=hB.1;have:=hB.2.1;unfold cK;omega) λb h2 z f2=>?_;rw[IS] at z⊢;rw[nR (enc:=vi)] at z;refine z.ld 1 (o:=1) (l:=li) ?_;refine Ji (i:=0) z rfl h1 (by simp) λh3 z=>?_;refine z.ld 1 (o:=0) (l:=.sl) ?_;rw[ah];have hl:=A1 h1;rw[adf] at hl;have:=ace G hB (cap:=N.length+1) n 0 c1 r h3 (.ar x0 [aE s,vi root] aj::L) (by have:=hB.1;omega) (by omega) (by simpa using hr) z;rw[hl] at this;refine this.mono λ_ h4 z=>?_;rw[ag];exact⟨b,rfl,by rw[Ly hr,hl],(z.perm (List.Perm.swap _ _ _)).drop⟩
def Gr (k:Nat)(N:List an):List Int->List Bool->Option (List Bool)
 |[],ms=>some ms
 |x::xs,ms=>(y8 k N x ms).bind (Gr k N xs)
def SX (k:Nat)(N:List an):List an->List Bool->Option (List Bool)
 |[],ms=>some ms
 |x::xs,ms=>(Gr k N x.keys ms).bind (SX k N xs)
theorem Fi {k:Nat}{N:List an}:∀{xs:List Int} {ms r:List Bool},Gr k N xs ms=some r->r.length=ms.length
 |[],ms,r,hb=>by cases hb;rfl
 |x::xs,ms,r,hb=>by
  rw[Gr] at hb;cases h1:y8 k N x ms with
  |none=>rw[h1] at hb;cases hb
  |some c1=>rw[h1] at hb;rw[Fi hb,(DY k N).1 _ _ _ h1]
theorem PL {k:Nat}{N:List an}:∀{xs:List an} {ms r:List Bool},SX k N xs ms=some r->r.length=ms.length
 |[],ms,r,hb=>by cases hb;rfl
 |x::xs,ms,r,hb=>by
  rw[SX] at hb;cases h1:Gr k N x.keys ms with
  |none=>rw[h1] at hb;cases hb
  |some c1=>rw[h1] at hb;rw[PL hb,Fi h1]
theorem acf {s:Sl}{root:Int}{N:List an}(G:jI h0 s N){B:Nat}(hB:Bd N B){b b0 cap k:Nat}{e:TypeId}{sl:Sl}{xs:List Int}(il:IL h0 sl xs)(hl:xs.length<=B)(a2:Sl)(a3 a4:Int) :
  ∀(n i:Nat) (c r:List Bool) (h:af) (L:List bj),k+(xs.length-i)<n->i<=xs.length->Gr k N (xs.drop i) c=some r->Z h0 h (.ar b (c.map .bool) e::.ar b0 [aE s,vi root] aj::L) ->
   Wp (jR n (ak b0) ⟨some ⟨b,0,none⟩,c.length,cap⟩ a2 a3 a4 sl (sl.len:Int) (i:Int)) h λ_ h'=>Z h0 h' (.ar b (r.map .bool) e::.ar b0 [aE s,vi root] aj::L):=by
 intro n
 induction n with
 |zero=>intro i c r h L h1;omega
 |succ n ih=>
  intro i c r h L h1 h2 hb z;rw[xU];unfold p5;rw[il.len];by_cases hi:i<xs.length
  .rw[if_pos (by simp;omega)];obtain⟨x,hx⟩:=jy hi;rw[drop_cons hx,Gr] at hb;cases hb1:y8 k N x c with
   |none=>rw[hb1] at hb;cases hb
   |some c1=>
    rw[hb1] at hb;refine (il.fr z.fr).ix (by omega) (by simpa using hx) λa g cl=>cl.pL (l:=li) rfl rfl ?_;refine z.fI 1 (ls:=[.sl,li]) (x:=(s,root)) ?_;rw[ah];refine (Ah z G hB hb1 (by omega)).mono λ_ h2 z=>?_;have:=ih (i+1) c1 r h2 L (by omega) (by omega) hb z;rw[uv (afM hi) (by have:=hB.2.1;omega)];rw[il.len,(DY k N).1 _ _ _ hb1] at this;exact this
  .rw[if_neg (by simp;omega),ag];have:xs.drop i=[]:=aaS (by omega);rw[this] at hb;cases hb;exact z
theorem acg {s:Sl}{root:Int}{N:List an}(G:jI h0 s N){B:Nat}(hB:Bd N B){b b0 cap k:Nat}{e:TypeId} :
  ∀(n i:Nat) (c r:List Bool) (h:af) (L:List bj),k+(N.length-i)+B+5<n->i<=N.length->SX k N (N.drop i) c=some r->Z h0 h (.ar b (c.map .bool) e::.ar b0 [aE s,vi root] aj::L) ->
   Wp (jS n (ak b0) ⟨some ⟨b,0,none⟩,c.length,cap⟩ s (s.len:Int) (i:Int)) h λ_ h'=>Z h0 h' (.ar b (r.map .bool) e::.ar b0 [aE s,vi root] aj::L):=by
 intro n
 induction n with
 |zero=>intro i c r h L h1;omega
 |succ n ih=>
  intro i c r h L h1 h2 hb z;rw[xV];unfold p6;rw[G.len];by_cases hi:i<N.length
  .rw[if_pos (by simp;omega)];obtain⟨x,hx⟩:=jy hi;rw[drop_cons hx,SX] at hb;have hbd:=hB.2.2 x (IN hx);cases hb1:Gr k N x.keys c with
   |none=>rw[hb1] at hb;cases hb
   |some c1=>
    rw[hb1] at hb;simp only[aeD] at hb;refine G.at z (by omega) (by simpa using hx) λa ks is nd ik ii=>nd.fI ?_;refine z.node λx2 h2' z=>?_;refine z.ld 0 (o:=3) (l:=.sl) ?_;have z:=z.perm ((List.Perm.swap _ _ _).trans (List.Perm.cons _ (List.Perm.swap _ _ _)));rw[ah];refine (acf (k:=k) G hB ik hbd.1 _ _ _ n 0 c c1 _ _ (by omega) (by omega) (by simpa using hb1) z).mono λ_ h3 z=>?_;have z:=(z.perm ((List.Perm.cons _ (List.Perm.swap _ _ _)).trans (List.Perm.swap _ _ _))).drop;have:=ih (i+1) c1 r h3 L (by omega) (by omega) hb z;rw[uv (afM hi) (by have:=hB.1;have:=hB.2.1;omega)];rw[G.len,Fi hb1] at this;exact this
  .rw[if_neg (by simp;omega),ag];have:N.drop i=[]:=aaS (by omega);rw[this] at hb;cases hb;exact z
theorem Sk {s:Sl}{root:Int}{N:List an}(z:Z h0 h L)(G:jI h0 s N){B:Nat}(hB:Bd N B){k n:Nat}(hn:k+2*B+6<n){r:List Bool}(hr:SX k N N (List.replicate N.length false)=some r) :
  Wp (s9 n (s,root)) h λx h'=>∃b,x=⟨some ⟨b,0,none⟩,N.length,N.length+1⟩/\r.length=N.length/\Z h0 h' (.ar b (r.map .bool) uW::L):=by
 unfold s9;refine z.new λx0 h1' z f1=>?_;refine z.ld 0 (o:=0) (l:=.sl) ?_;rw[G.len];refine z.Lh (by omega) (by have:=hB.1;have:=hB.2.1;unfold cK;omega) λb h2 z f2=>?_;rw[IS] at z⊢;rw[nR (enc:=Value.bool)] at z;refine z.ld 1 (o:=0) (l:=.sl) ?_;rw[ah];have:=acg (k:=k) (root:=root) G hB (cap:=N.length+1) n 0 _ r _ L (by have:=hB.1;omega) (by omega) (by simpa using hr) z;rw[adf] at this;refine this.mono λ_ h4 z=>?_;rw[ag];exact⟨b,rfl,by rw[PL hr,adf],(z.perm (List.Perm.swap _ _ _)).drop⟩
end Go.Sh
