
import Derived.Test.YtengdffgmpghgaaGreatDoorGi
set_option linter.all false
namespace Go.Sh
open Go Go.Ago Go.Proofs
variable {α β:Type}{h h' h0:ab}{L:List bA}{Q:β->ab->Prop}
def gt (l:List α)(i:Int):Option α:=if 0<=i then l[i.toNat]? else none
theorem ay {l:List α}{i:Int}{x:α}(hx:gt l i=some x):0<=i/\l[i.toNat]?=some x:=by
 grind [gt]
mutual
def yg:Nat->List ah->Int->List Bool->Option (List Bool)
 |0,_,_,_=>none
 |k+1,N,at',ms=>match gt ms at' with
  |none=>none
  |some true=>some ms
  |some false=>match gt N at' with
   |none=>none
   |some x=>match o0 k N x.keys (ms.set at'.toNat true) with
    |none=>none
    |some m2=>o0 k N x.items m2
def o0:Nat->List ah->ε->List Bool->Option (List Bool)
 |0,_,_,_=>none
 |_+1,_,[],ms=>some ms
 |k+1,N,x::xs,ms=>match yg k N x ms with
  |none=>none
  |some m2=>o0 k N xs m2
end
theorem FV (k:Nat):∀N,(∀a ms r,yg k N a ms=some r->r.length=ms.length)/\∀xs ms r,o0 k N xs ms=some r->r.length=ms.length:=by
 induction k with
 |zero=>grind [yg,o0]
 |succ k ih=>
  intro N;refine⟨λa ms r e=>?_,λxs ms r e=>?_⟩
  .grind [yg,yg,yg]
  .cases xs with
   |nil=>rw[o0] at e;cases e;rfl
   |cons x xs=>
    grind [o0,o0,o0,o0]
def fnV (b1 b0 b2:Nat):ξ:=Value.func (Fn.func nL) #[] #[Value.pointer (some (ai b1)),Value.pointer (some (ai b0)),Value.pointer (some (ai b2))]
def OV (b2 b1 b0 bm:Nat)(s:Sl)(root:Int)(cap:Nat)(ms:List Bool)(e:κ):List bA:=
 [.av b2 [fnV b1 b0 b2] rV,.av b1 [aM ⟨some ⟨bm,0,none⟩,ms.length,cap⟩] uH,.av b0 [aM s,vi root] ao,.av bm (ms.map .bool) e]
theorem agp {s:Sl}{root:Int}{N:List ah}(G:oj h0 s N){B:Nat}(hB:Bd N B){b2 b1 b0 bm cap:Nat}{e:κ} :
  ∀(k:Nat),(∀(n:Nat) (a:Int) (ms r:List Bool) (h:ab) (L:List bA),k<=n->yg k N a ms=some r->Z h0 h (OV b2 b1 b0 bm s root cap ms e++L) ->
    Wp (eT n a (ai b1) (ai b0) (ai b2)) h λ_ h'=>Z h0 h' (OV b2 b1 b0 bm s root cap r e++L)) /\
   (∀(n:Nat) (a:Int) (sl:Sl) (xs:ε) (i:Nat) (ms r:List Bool) (h:ab) (L:List bA),k<=n->o0 k N (xs.drop i) ms=some r->IL h0 sl xs->i<=xs.length->xs.length<=B->Z h0 h (OV b2 b1 b0 bm s root cap ms e++L) ->
    Wp (fU n a (ai b0) (ai b2) sl (sl.len:Int) (i:Int)) h λ_ h'=>Z h0 h' (OV b2 b1 b0 bm s root cap r e++L)) /\
   (∀(n:Nat) (sl:Sl) (xs:ε) (i:Nat) (ms r:List Bool) (h:ab) (L:List bA),k<=n->o0 k N (xs.drop i) ms=some r->IL h0 sl xs->i<=xs.length->xs.length<=B->Z h0 h (OV b2 b1 b0 bm s root cap ms e++L) ->
    Wp (fV n (ai b2) sl (sl.len:Int) (i:Int)) h λ_ h'=>Z h0 h' (OV b2 b1 b0 bm s root cap r e++L)):=by
 intro k
 induction k with
 |zero=>grind [yg,o0]
 |succ k ih=>
  obtain⟨ih1,ih2,ih3⟩:=ih;refine⟨λn a ms r h L hn hv z=>?_,λn a sl xs i ms r h L hn hv il hi hxB z=>?_,λn sl xs i ms r h L hn hv il hi hxB z=>?_⟩
  .obtain⟨n,rfl⟩:∃m,n=m+1:=⟨n-1,by omega⟩;rw[zl];unfold qw;rw[yg] at hv;have ix:∀{b:Bool} {f:Addr->M Unit} {h:ab} {ms:List Bool} {Q:Unit->ab->Prop},gt ms a=some b->Z h0 h (OV b2 b1 b0 bm s root cap ms e++L)->Wp (f ⟨bm,a.toNat*1,none⟩) h Q->Wp (sh (an ⟨some ⟨bm,0,none⟩,ms.length,cap⟩ a 1) f) h Q:=by
    intro b f h ms Q hg z q;obtain⟨g1,g2⟩:=ay hg;exact JF g1 (by have:=(List.getElem?_eq_some_iff.1 g2).1;omega) q
   have mt:∀{b:Bool} {ms:List Bool},gt ms a=some b->(ms.map Value.bool)[a.toNat*1]?=some (.bool b):=by
    intro b ms hg;rw[adp,aal,(ay hg).2];rfl
   refine z.ld 1 (o:=0) (l:=.sl) ?_;cases hg:gt ms a with
   |none=>rw[hg] at hv;cases hv
   |some b=>
    refine ix hg z ?_;refine z.ld 3 (l:=.bool) (x:=b) ?_ rfl (mt hg) rfl;rw[hg] at hv;cases b with
    |true=>cases hv;rw[By rfl,af];exact z
    |false=>
     simp only at hv;rw[AT (by simp)];refine z.ld 1 (o:=0) (l:=.sl) ?_;refine ix hg z ?_;have hlt:a.toNat<ms.length:=(List.getElem?_eq_some_iff.1 (ay hg).2).1;rw[adp];refine z.A2 3 (enc:=Value.bool) (v:=true) hlt λh1 z=>?_;have z:Z h0 h1 (OV b2 b1 b0 bm s root cap (ms.set a.toNat true) e++L):=by
      have:OV b2 b1 b0 bm s root cap (ms.set a.toNat true) e++L=(OV b2 b1 b0 bm s root cap ms e++L).set 3 (.av bm ((ms.set a.toNat true).map .bool) e):=by
       simp[OV]
      rw[this];exact z
     cases hx:gt N a with
     |none=>rw[hx] at hv;cases hv
     |some x=>
      rw[hx] at hv;simp only at hv;obtain⟨x1,x2⟩:=ay hx;have hb:=hB.2.2 x (BY x2);cases hv1:o0 k N x.keys (ms.set a.toNat true) with
      |none=>rw[hv1] at hv;cases hv
      |some m2=>
       rw[hv1] at hv;simp only at hv;refine z.ld 2 (o:=0) (l:=.sl) ?_;refine G.at z x1 x2 λa1 ks is nd ik ii=>nd.Ip ?_;rw[ag];refine (ih2 n a ks x.keys 0 _ m2 _ L (by omega) hv1 ik (by omega) hb.1 z).mono λ_ h2 z=>?_;refine z.ld 2 (o:=0) (l:=.sl) ?_;refine G.at z x1 x2 λa2 ks2 is2 nd2 ik2 ii2=>nd2.CI ?_;rw[ag];refine (ih3 n is2 x.items 0 _ r _ L (by omega) hv ii2 (by omega) hb.2 z).mono λ_ h3 z=>?_;rw[af];exact z
  .obtain⟨n,rfl⟩:∃m,n=m+1:=⟨n-1,by omega⟩;rw[wW];unfold nW;rw[il.len];by_cases hi2:i<xs.length
   .rw[By (by simp;omega)];obtain⟨x,hx⟩:=dS hi2;rw[drop_cons hx,o0] at hv;cases hv1:yg k N x ms with
    |none=>rw[hv1] at hv;cases hv
    |some m2=>
     rw[hv1] at hv;simp only at hv;refine (il.fr z.fr).ix (by omega) (by simpa using hx) λa1 g c=>c.rz (l:=li) rfl rfl ?_;refine z.ld 0 (o:=0) (l:=.raw) ?_;unfold gR;rw[ag,By (by rfl),ag];refine kr (c:=(ai b1,ai b0,ai b2)) rfl ?_;refine (ih1 n x ms m2 h L (by omega) hv1 z).mono λ_ h2 z=>?_;rw[rR hi (by have:=hB.2.1;omega)];have:=ih2 n a sl xs (i+1) m2 r h2 L (by omega) hv il (by omega) hxB z
     rwa [il.len] at this
   .rw[AT (by simp;omega),af]
    grind [List.drop_eq_nil_of_le,o0,o0,o0]
  .obtain⟨n,rfl⟩:∃m,n=m+1:=⟨n-1,by omega⟩;rw[wX];unfold nX;rw[il.len];by_cases hi2:i<xs.length
   .rw[By (by simp;omega)];obtain⟨x,hx⟩:=dS hi2;rw[drop_cons hx,o0] at hv;cases hv1:yg k N x ms with
    |none=>rw[hv1] at hv;cases hv
    |some m2=>
     rw[hv1] at hv;simp only at hv;refine (il.fr z.fr).ix (by omega) (by simpa using hx) λa1 g c=>c.rz (l:=li) rfl rfl ?_;refine z.ld 0 (o:=0) (l:=.raw) ?_;unfold nz gR;rw[ag,By (by rfl),ag];refine kr (c:=(ai b1,ai b0,ai b2)) rfl ?_;refine (ih1 n x ms m2 h L (by omega) hv1 z).mono λ_ h2 z=>?_;rw[rR hi (by have:=hB.2.1;omega)];have:=ih3 n sl xs (i+1) m2 r h2 L (by omega) hv il (by omega) hxB z
     rwa [il.len] at this
   .rw[AT (by simp;omega),af]
    grind [List.drop_eq_nil_of_le,o0,o0,o0]
theorem BJ {s:Sl}{root from':Int}{N:List ah}{bm cap:Nat}{ms r:List Bool}{e:κ}(z:Z h0 h (.av bm (ms.map .bool) e::L))(G:oj h0 s N){B:Nat}(hB:Bd N B){k n:Nat}(hv:yg k N from' ms=some r)(hn:k<=n) :
  Wp (nf n (s,root) from' ⟨some ⟨bm,0,none⟩,ms.length,cap⟩) h λ_ h'=>Z h0 h' (.av bm (r.map .bool) e::L):=by
 unfold nf;refine z.new λb0 h1 z _=>z.new (λb1 h2 z _=>z.new (λb2 h3 z _=>z.st 0 λh4 z=>?_));refine z.ld 0 (o:=0) (l:=.raw) ?_;unfold rW;rw[ag,By (by rfl),ag];refine kr (c:=(ai b1,ai b0,ai b2)) rfl ?_;have z:Z h0 h4 (OV b2 b1 b0 bm s root cap ms e++L):=z.perm (by
  show List.Perm (_::_::_::_::L) (_::_::_::_::L);exact ak0 _)
 refine ((agp G hB k).1 n from' ms r h4 L hn hv z).mono λ_ h5 z=>?_;rw[af];exact z.drop.drop.drop
end Go.Sh
