
import Derived.Test.YtengdffgmpghgaaGreatDoorGv
import Derived.Test.YtengdffgmpghgaaGreatDoorBi
set_option linter.all false
namespace Go.Sh
open Go Go.Ago Go.Proofs
variable {α β:Type}{h h' h0:ab}{L:List bA}{Q:β->ab->Prop}
def bump (c:ε)(x:Int):Option ε:=(gt c x).map λv=>c.set x.toNat (IntKind.i64.wrap (v+1))
def uc:ε->ε->Option ε
 |[],c=>some c
 |x::xs,c=>(bump c x).bind (uc xs)
def LD:List ah->ε->Option ε
 |[],c=>some c
 |x::xs,c=>((uc x.keys c).bind (uc x.items)).bind (LD xs)
def OY (N:List ah)(root:Int):Option ε:=(bump (List.replicate N.length 0) root).bind (LD N)
theorem xd {c c':ε}{x:Int}(hb:bump c x=some c'):c'.length=c.length:=by
 grind [bump,gt]
theorem xe:∀{xs c c':ε},uc xs c=some c'->c'.length=c.length
 |[],c,c',hb=>by cases hb;rfl
 |x::xs,c,c',hb=>by
  rw[uc] at hb;cases h1:bump c x with
  |none=>rw[h1] at hb;cases hb
  |some c1=>rw[h1] at hb;rw[xe hb,xd h1]
theorem N8:∀{N:List ah} {c c':ε},LD N c=some c'->c'.length=c.length
 |[],c,c',hb=>by cases hb;rfl
 |x::xs,c,c',hb=>by
  rw[LD] at hb;cases h1:uc x.keys c with
  |none=>rw[h1] at hb;cases hb
  |some c1=>
   rw[h1] at hb;simp only[afQ] at hb;cases h2:uc x.items c1 with
   |none=>rw[h2] at hb;cases hb
   |some c2=>rw[h2] at hb;rw[N8 hb,xe h2,xe h1]
theorem FW {i b n cap:Nat}{e:κ}{c c':ε}{x:Int}(z:Z h0 h L)(hi:L[i]?=some (.av b (c.map vi) e))(hb:bump c x=some c')(hn:n=c.length){f:M β}
  (q:∀h',Z h0 h' (L.set i (.av b (c'.map vi) e))->Wp f h' Q) :
  Wp (sh (an ⟨some ⟨b,0,none⟩,n,cap⟩ x 1) λa=>sh (ak li a) λ(v:Int)=>sh (an ⟨some ⟨b,0,none⟩,n,cap⟩ x 1) λa2=>sh (bD a2 [vi (IntKind.i64.wrap (v+1))]) λ_=>f) h Q:=by
 unfold bump at hb;cases hg:gt c x with
 |none=>rw[hg] at hb;cases hb
 |some v=>
  rw[hg] at hb;have hb:c.set x.toNat (IntKind.i64.wrap (v+1))=c':=aas hb;obtain⟨g1,g2⟩:=ay hg;have hlt:=(List.getElem?_eq_some_iff.1 g2).1;refine JF g1 (by omega) ?_;refine z.ld i (o:=x.toNat*1) (l:=li) (x:=v) ?_ hi (by rw[adp,aal,g2];rfl) rfl;refine JF g1 (by omega) ?_;rw[adp];refine z.A2 i (xs:=c) hlt (λh1 z=>?_) hi;rw[hb] at z;exact q h1 z
theorem agq {b cap:Nat}{e:κ}{sl:Sl}{xs:ε}(il:IL h0 sl xs){B:Nat}(hB:B<1073741824)(hl:xs.length<=B)(a1:Addr)(a2:Sl)(a3 a4:Int) :
  ∀(n i:Nat) (c r:ε) (h:ab) (L:List bA),xs.length-i<n->i<=xs.length->uc (xs.drop i) c=some r->Z h0 h (.av b (c.map vi) e::L) ->
   Wp (j8 n ⟨some ⟨b,0,none⟩,c.length,cap⟩ a1 a2 a3 a4 sl (sl.len:Int) (i:Int)) h λ_ h'=>Z h0 h' (.av b (r.map vi) e::L):=by
 intro n
 induction n with
 |zero=>intro i c r h L h1;omega
 |succ n ih=>
  intro i c r h L h1 h2 hb z;rw[zD];unfold qE;rw[il.len];by_cases hi:i<xs.length
  .rw[By (by simp;omega)];obtain⟨x,hx⟩:=dS hi;rw[drop_cons hx,uc] at hb;cases hb1:bump c x with
   |none=>rw[hb1] at hb;cases hb
   |some c1=>
    rw[hb1] at hb;refine (il.fr z.fr).ix (by omega) (by simpa using hx) λa g cl=>cl.rz (l:=li) rfl rfl ?_;refine FW (i:=0) z rfl hb1 rfl λh2 z=>?_;have:=ih (i+1) c1 r h2 L (by omega) (by omega) hb z;rw[rR (ajx hi) (by omega)];rw[il.len,xd hb1] at this;exact this
  .rw[AT (by simp;omega),af];have:xs.drop i=[]:=aaf (by omega);rw[this] at hb;cases hb;exact z
theorem agr {b cap:Nat}{e:κ}{sl:Sl}{xs:ε}(il:IL h0 sl xs){B:Nat}(hB:B<1073741824)(hl:xs.length<=B)(a2:Sl)(a3 a4:Int) :
  ∀(n i:Nat) (c r:ε) (h:ab) (L:List bA),xs.length-i<n->i<=xs.length->uc (xs.drop i) c=some r->Z h0 h (.av b (c.map vi) e::L) ->
   Wp (j9 n ⟨some ⟨b,0,none⟩,c.length,cap⟩ a2 a3 a4 sl (sl.len:Int) (i:Int)) h λ_ h'=>Z h0 h' (.av b (r.map vi) e::L):=by
 intro n
 induction n with
 |zero=>intro i c r h L h1;omega
 |succ n ih=>
  intro i c r h L h1 h2 hb z;rw[zE];unfold qF;rw[il.len];by_cases hi:i<xs.length
  .rw[By (by simp;omega)];obtain⟨x,hx⟩:=dS hi;rw[drop_cons hx,uc] at hb;cases hb1:bump c x with
   |none=>rw[hb1] at hb;cases hb
   |some c1=>
    rw[hb1] at hb;refine (il.fr z.fr).ix (by omega) (by simpa using hx) λa g cl=>cl.rz (l:=li) rfl rfl ?_;refine FW (i:=0) z rfl hb1 rfl λh2 z=>?_;have:=ih (i+1) c1 r h2 L (by omega) (by omega) hb z;rw[rR (ajx hi) (by omega)];rw[il.len,xd hb1] at this;exact this
  .rw[AT (by simp;omega),af];have:xs.drop i=[]:=aaf (by omega);rw[this] at hb;cases hb;exact z
theorem ags {s:Sl}{N:List ah}(G:oj h0 s N){B:Nat}(hB:Bd N B){b cap:Nat}{e:κ} :
  ∀(n i:Nat) (c r:ε) (h:ab) (L:List bA),N.length-i+B+5<n->i<=N.length->LD (N.drop i) c=some r->Z h0 h (.av b (c.map vi) e::L) ->
   Wp (kc n ⟨some ⟨b,0,none⟩,c.length,cap⟩ s (s.len:Int) (i:Int)) h λ_ h'=>Z h0 h' (.av b (r.map vi) e::L):=by
 intro n
 induction n with
 |zero=>intro i c r h L h1;omega
 |succ n ih=>
  intro i c r h L h1 h2 hb z;rw[zF];unfold qG;rw[G.len];by_cases hi:i<N.length
  .rw[By (by simp;omega)];obtain⟨x,hx⟩:=dS hi;rw[drop_cons hx,LD] at hb;have hbd:=hB.2.2 x (BY hx);cases hb1:uc x.keys c with
   |none=>rw[hb1] at hb;cases hb
   |some c1=>
    rw[hb1] at hb;simp only[afQ] at hb;cases hb2:uc x.items c1 with
    |none=>rw[hb2] at hb;cases hb
    |some c2=>
     rw[hb2] at hb;simp only[afQ] at hb;refine G.at z (by omega) (by simpa using hx) λa ks is nd ik ii=>nd.fG ?_;refine z.node λx2 h2' z=>?_;refine z.ld 0 (o:=3) (l:=.sl) ?_;have z:=z.perm (List.Perm.swap _ _ _);rw[ag];refine (agq ik hB.2.1 hbd.1 _ _ _ _ n 0 c c1 _ _ (by omega) (by omega) (by simpa using hb1) z).mono λ_ h3 z=>?_;refine z.ld 1 (o:=4) (l:=.sl) ?_;rw[ag,<-xe hb1];refine (agr ii hB.2.1 hbd.2 _ _ _ n 0 c1 c2 _ _ (by omega) (by omega) (by simpa using hb2) z).mono λ_ h4 z=>?_;have z:=(z.perm (List.Perm.swap _ _ _)).drop;have:=ih (i+1) c2 r h4 L (by omega) (by omega) hb z;rw[rR (ajx hi) (by have:=hB.1;have:=hB.2.1;omega)];rw[G.len,xe hb2] at this;exact this
  .rw[AT (by simp;omega),af];have:N.drop i=[]:=aaf (by omega);rw[this] at hb;cases hb;exact z
theorem Vn {s:Sl}{root:Int}{N:List ah}(z:Z h0 h L)(G:oj h0 s N){B:Nat}(hB:Bd N B){n:Nat}(hn:2*B+6<n){r:ε}(hr:OY N root=some r) :
  Wp (uw n (s,root)) h λx h'=>∃b,x=⟨some ⟨b,0,none⟩,N.length,N.length+1⟩/\r.length=N.length/\Z h0 h' (.av b (r.map vi) ar::L):=by
 unfold uw;unfold OY at hr;cases h1:bump (List.replicate N.length 0) root with
 |none=>rw[h1] at hr;cases hr
 |some c1=>
  rw[h1] at hr;simp only[afQ] at hr;refine z.new λx0 h1' z f1=>?_;refine z.ld 0 (o:=0) (l:=.sl) ?_;rw[G.len];refine z.JE (by omega) (by have:=hB.1;have:=hB.2.1;unfold cT;omega) λb h2 z f2=>?_;rw[aab] at z⊢;rw[lj (enc:=vi)] at z;refine z.ld 1 (o:=1) (l:=li) ?_;refine FW (i:=0) z rfl h1 (by simp) λh3 z=>?_;refine z.ld 1 (o:=0) (l:=.sl) ?_;rw[ag];have hl:=xd h1;rw[aeL] at hl;have:=ags G hB (cap:=N.length+1) n 0 c1 r h3 (.av x0 [aM s,vi root] ao::L) (by have:=hB.1;omega) (by omega) (by simpa using hr) z;rw[hl] at this;refine this.mono λ_ h4 z=>?_;rw[af];exact⟨b,rfl,by rw[N8 hr,hl],(z.perm (List.Perm.swap _ _ _)).drop⟩
def AV (k:Nat)(N:List ah):ε->List Bool->Option (List Bool)
 |[],ms=>some ms
 |x::xs,ms=>(yg k N x ms).bind (AV k N xs)
def LG (k:Nat)(N:List ah):List ah->List Bool->Option (List Bool)
 |[],ms=>some ms
 |x::xs,ms=>(AV k N x.keys ms).bind (LG k N xs)
theorem Hi {k:Nat}{N:List ah}:∀{xs:ε} {ms r:List Bool},AV k N xs ms=some r->r.length=ms.length
 |[],ms,r,hb=>by cases hb;rfl
 |x::xs,ms,r,hb=>by
  rw[AV] at hb;cases h1:yg k N x ms with
  |none=>rw[h1] at hb;cases hb
  |some c1=>rw[h1] at hb;rw[Hi hb,(FV k N).1 _ _ _ h1]
theorem LH {k:Nat}{N:List ah}:∀{xs:List ah} {ms r:List Bool},LG k N xs ms=some r->r.length=ms.length
 |[],ms,r,hb=>by cases hb;rfl
 |x::xs,ms,r,hb=>by
  rw[LG] at hb;cases h1:AV k N x.keys ms with
  |none=>rw[h1] at hb;cases hb
  |some c1=>rw[h1] at hb;rw[LH hb,Hi h1]
theorem agt {s:Sl}{root:Int}{N:List ah}(G:oj h0 s N){B:Nat}(hB:Bd N B){b b0 cap k:Nat}{e:κ}{sl:Sl}{xs:ε}(il:IL h0 sl xs)(hl:xs.length<=B)(a2:Sl)(a3 a4:Int) :
  ∀(n i:Nat) (c r:List Bool) (h:ab) (L:List bA),k+(xs.length-i)<n->i<=xs.length->AV k N (xs.drop i) c=some r->Z h0 h (.av b (c.map .bool) e::.av b0 [aM s,vi root] ao::L) ->
   Wp (ke n (ai b0) ⟨some ⟨b,0,none⟩,c.length,cap⟩ a2 a3 a4 sl (sl.len:Int) (i:Int)) h λ_ h'=>Z h0 h' (.av b (r.map .bool) e::.av b0 [aM s,vi root] ao::L):=by
 intro n
 induction n with
 |zero=>intro i c r h L h1;omega
 |succ n ih=>
  intro i c r h L h1 h2 hb z;rw[zG];unfold qH;rw[il.len];by_cases hi:i<xs.length
  .rw[By (by simp;omega)];obtain⟨x,hx⟩:=dS hi;rw[drop_cons hx,AV] at hb;cases hb1:yg k N x c with
   |none=>rw[hb1] at hb;cases hb
   |some c1=>
    rw[hb1] at hb;refine (il.fr z.fr).ix (by omega) (by simpa using hx) λa g cl=>cl.rz (l:=li) rfl rfl ?_;refine z.fG 1 (ls:=[.sl,li]) (x:=(s,root)) ?_;rw[ag];refine (BJ z G hB hb1 (by omega)).mono λ_ h2 z=>?_;have:=ih (i+1) c1 r h2 L (by omega) (by omega) hb z;rw[rR (ajx hi) (by have:=hB.2.1;omega)];rw[il.len,(FV k N).1 _ _ _ hb1] at this;exact this
  .rw[AT (by simp;omega),af];have:xs.drop i=[]:=aaf (by omega);rw[this] at hb;cases hb;exact z
theorem agu {s:Sl}{root:Int}{N:List ah}(G:oj h0 s N){B:Nat}(hB:Bd N B){b b0 cap k:Nat}{e:κ} :
  ∀(n i:Nat) (c r:List Bool) (h:ab) (L:List bA),k+(N.length-i)+B+5<n->i<=N.length->LG k N (N.drop i) c=some r->Z h0 h (.av b (c.map .bool) e::.av b0 [aM s,vi root] ao::L) ->
   Wp (kh n (ai b0) ⟨some ⟨b,0,none⟩,c.length,cap⟩ s (s.len:Int) (i:Int)) h λ_ h'=>Z h0 h' (.av b (r.map .bool) e::.av b0 [aM s,vi root] ao::L):=by
 intro n
 induction n with
 |zero=>intro i c r h L h1;omega
 |succ n ih=>
  intro i c r h L h1 h2 hb z;rw[zH];unfold qI;rw[G.len];by_cases hi:i<N.length
  .rw[By (by simp;omega)];obtain⟨x,hx⟩:=dS hi;rw[drop_cons hx,LG] at hb;have hbd:=hB.2.2 x (BY hx);cases hb1:AV k N x.keys c with
   |none=>rw[hb1] at hb;cases hb
   |some c1=>
    rw[hb1] at hb;simp only[afQ] at hb;refine G.at z (by omega) (by simpa using hx) λa ks is nd ik ii=>nd.fG ?_;refine z.node λx2 h2' z=>?_;refine z.ld 0 (o:=3) (l:=.sl) ?_;have z:=z.perm ((List.Perm.swap _ _ _).trans (List.Perm.cons _ (List.Perm.swap _ _ _)));rw[ag];refine (agt (k:=k) G hB ik hbd.1 _ _ _ n 0 c c1 _ _ (by omega) (by omega) (by simpa using hb1) z).mono λ_ h3 z=>?_;have z:=(z.perm ((List.Perm.cons _ (List.Perm.swap _ _ _)).trans (List.Perm.swap _ _ _))).drop;have:=ih (i+1) c1 r h3 L (by omega) (by omega) hb z;rw[rR (ajx hi) (by have:=hB.1;have:=hB.2.1;omega)];rw[G.len,Hi hb1] at this;exact this
  .rw[AT (by simp;omega),af];have:N.drop i=[]:=aaf (by omega);rw[this] at hb;cases hb;exact z
theorem Vo {s:Sl}{root:Int}{N:List ah}(z:Z h0 h L)(G:oj h0 s N){B:Nat}(hB:Bd N B){k n:Nat}(hn:k+2*B+6<n){r:List Bool}(hr:LG k N N (List.replicate N.length false)=some r) :
  Wp (ux n (s,root)) h λx h'=>∃b,x=⟨some ⟨b,0,none⟩,N.length,N.length+1⟩/\r.length=N.length/\Z h0 h' (.av b (r.map .bool) nV::L):=by
 unfold ux;refine z.new λx0 h1' z f1=>?_;refine z.ld 0 (o:=0) (l:=.sl) ?_;rw[G.len];refine z.JE (by omega) (by have:=hB.1;have:=hB.2.1;unfold cT;omega) λb h2 z f2=>?_;rw[aab] at z⊢;rw[lj (enc:=Value.bool)] at z;refine z.ld 1 (o:=0) (l:=.sl) ?_;rw[ag];have:=agu (k:=k) (root:=root) G hB (cap:=N.length+1) n 0 _ r _ L (by have:=hB.1;omega) (by omega) (by simpa using hr) z;rw[aeL] at this;refine this.mono λ_ h4 z=>?_;rw[af];exact⟨b,rfl,by rw[LH hr,aeL],(z.perm (List.Perm.swap _ _ _)).drop⟩
end Go.Sh
