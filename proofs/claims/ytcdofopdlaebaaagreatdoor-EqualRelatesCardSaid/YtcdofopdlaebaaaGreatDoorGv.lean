
import Derived.Test.YtcdofopdlaebaaaGreatDoorGi
set_option linter.all false
namespace Go.Sh
open Go Go.Ago Go.Proofs
variable {α β:Type}{h h' h0:af}{L:List bj}{Q:β->af->Prop}
def gt (l:List α)(i:Int):Option α:=if 0<=i then l[i.toNat]? else none
theorem aD {l:List α}{i:Int}{x:α}(hx:gt l i=some x):0<=i/\l[i.toNat]?=some x:=by
 unfold gt at hx;split at hx
 .exact⟨by assumption,hx⟩
 .cases hx
mutual
def y8:Nat->List an->Int->List Bool->Option (List Bool)
 |0,_,_,_=>none
 |k+1,N,at',ms=>match gt ms at' with
  |none=>none
  |some true=>some ms
  |some false=>match gt N at' with
   |none=>none
   |some x=>match xf k N x.keys (ms.set at'.toNat true) with
    |none=>none
    |some m2=>xf k N x.items m2
def xf:Nat->List an->List Int->List Bool->Option (List Bool)
 |0,_,_,_=>none
 |_+1,_,[],ms=>some ms
 |k+1,N,x::xs,ms=>match y8 k N x ms with
  |none=>none
  |some m2=>xf k N xs m2
end
theorem DY (k:Nat):∀N,(∀a ms r,y8 k N a ms=some r->r.length=ms.length)/\∀xs ms r,xf k N xs ms=some r->r.length=ms.length:=by
 induction k with
 |zero=>intro N;exact⟨λa ms r e=>by simp[y8] at e,λxs ms r e=>by simp[xf] at e⟩
 |succ k ih=>
  intro N;refine⟨λa ms r e=>?_,λxs ms r e=>?_⟩
  .rw[y8] at e;split at e
   .cases e
   .cases e;rfl
   .split at e
    .cases e
    .split at e
     .cases e
     .rename_i h1;rw[(ih N).2 _ _ _ e,(ih N).2 _ _ _ h1];simp
  .cases xs with
   |nil=>rw[xf] at e;cases e;rfl
   |cons x xs=>
    rw[xf] at e;split at e
    .cases e
    .rename_i h1;rw[(ih N).2 _ _ _ e,(ih N).1 _ _ _ h1]
def fnV (b1 b0 b2:Nat):Value:=Value.func (Fn.func mY) #[] #[Value.pointer (some (ak b1)),Value.pointer (some (ak b0)),Value.pointer (some (ak b2))]
def OV (b2 b1 b0 bm:Nat)(s:Sl)(root:Int)(cap:Nat)(ms:List Bool)(e:TypeId):List bj:=
 [.ar b2 [fnV b1 b0 b2] vX,.ar b1 [aE ⟨some ⟨bm,0,none⟩,ms.length,cap⟩] yx,.ar b0 [aE s,vi root] aj,.ar bm (ms.map .bool) e]
theorem aca {s:Sl}{root:Int}{N:List an}(G:jI h0 s N){B:Nat}(hB:Bd N B){b2 b1 b0 bm cap:Nat}{e:TypeId} :
  ∀(k:Nat),(∀(n:Nat) (a:Int) (ms r:List Bool) (h:af) (L:List bj),k<=n->y8 k N a ms=some r->Z h0 h (OV b2 b1 b0 bm s root cap ms e++L) ->
    Wp (eP n a (ak b1) (ak b0) (ak b2)) h λ_ h'=>Z h0 h' (OV b2 b1 b0 bm s root cap r e++L)) /\
   (∀(n:Nat) (a:Int) (sl:Sl) (xs:List Int) (i:Nat) (ms r:List Bool) (h:af) (L:List bj),k<=n->xf k N (xs.drop i) ms=some r->IL h0 sl xs->i<=xs.length->xs.length<=B->Z h0 h (OV b2 b1 b0 bm s root cap ms e++L) ->
    Wp (fN n a (ak b0) (ak b2) sl (sl.len:Int) (i:Int)) h λ_ h'=>Z h0 h' (OV b2 b1 b0 bm s root cap r e++L)) /\
   (∀(n:Nat) (sl:Sl) (xs:List Int) (i:Nat) (ms r:List Bool) (h:af) (L:List bj),k<=n->xf k N (xs.drop i) ms=some r->IL h0 sl xs->i<=xs.length->xs.length<=B->Z h0 h (OV b2 b1 b0 bm s root cap ms e++L) ->
    Wp (fO n (ak b2) sl (sl.len:Int) (i:Int)) h λ_ h'=>Z h0 h' (OV b2 b1 b0 bm s root cap r e++L)):=by
 intro k
 induction k with
 |zero=>exact⟨λn a ms r h L _ hv=>by simp[y8] at hv,λn a sl xs i ms r h L _ hv=>by simp[xf] at hv,λn sl xs i ms r h L _ hv=>by simp[xf] at hv⟩
 |succ k ih=>
  obtain⟨ih1,ih2,ih3⟩:=ih;refine⟨λn a ms r h L hn hv z=>?_,λn a sl xs i ms r h L hn hv il hi hxB z=>?_,λn sl xs i ms r h L hn hv il hi hxB z=>?_⟩
  .obtain⟨n,rfl⟩:∃m,n=m+1:=⟨n-1,by omega⟩;rw[xD];unfold pP;rw[y8] at hv;have ix:∀{b:Bool} {f:Addr->M Unit} {h:af} {ms:List Bool} {Q:Unit->af->Prop},gt ms a=some b->Z h0 h (OV b2 b1 b0 bm s root cap ms e++L)->Wp (f ⟨bm,a.toNat*1,none⟩) h Q->Wp (sh (av ⟨some ⟨bm,0,none⟩,ms.length,cap⟩ a 1) f) h Q:=by
    intro b f h ms Q hg z q;obtain⟨g1,g2⟩:=aD hg;exact F8 g1 (by have:=(List.getElem?_eq_some_iff.1 g2).1;omega) q
   have mt:∀{b:Bool} {ms:List Bool},gt ms a=some b->(ms.map Value.bool)[a.toNat*1]?=some (.bool b):=by
    intro b ms hg;rw[acq,aaW,(aD hg).2];rfl
   refine z.ld 1 (o:=0) (l:=.sl) ?_;cases hg:gt ms a with
   |none=>rw[hg] at hv;cases hv
   |some b=>
    refine ix hg z ?_;refine z.ld 3 (l:=.bool) (x:=b) ?_ rfl (mt hg) rfl;rw[hg] at hv;cases b with
    |true=>cases hv;rw[if_pos rfl,ag];exact z
    |false=>
     simp only at hv;rw[if_neg (by simp)];refine z.ld 1 (o:=0) (l:=.sl) ?_;refine ix hg z ?_;have hlt:a.toNat<ms.length:=(List.getElem?_eq_some_iff.1 (aD hg).2).1;rw[acq];refine z.zA 3 (enc:=Value.bool) (v:=true) hlt λh1 z=>?_;have z:Z h0 h1 (OV b2 b1 b0 bm s root cap (ms.set a.toNat true) e++L):=by
      have:OV b2 b1 b0 bm s root cap (ms.set a.toNat true) e++L=(OV b2 b1 b0 bm s root cap ms e++L).set 3 (.ar bm ((ms.set a.toNat true).map .bool) e):=by
       simp[OV]
      rw[this];exact z
     cases hx:gt N a with
     |none=>rw[hx] at hv;cases hv
     |some x=>
      rw[hx] at hv;simp only at hv;obtain⟨x1,x2⟩:=aD hx;have hb:=hB.2.2 x (IN x2);cases hv1:xf k N x.keys (ms.set a.toNat true) with
      |none=>rw[hv1] at hv;cases hv
      |some m2=>
       rw[hv1] at hv;simp only at hv;refine z.ld 2 (o:=0) (l:=.sl) ?_;refine G.at z x1 x2 λa1 ks is nd ik ii=>nd.F9 ?_;rw[ah];refine (ih2 n a ks x.keys 0 _ m2 _ L (by omega) hv1 ik (by omega) hb.1 z).mono λ_ h2 z=>?_;refine z.ld 2 (o:=0) (l:=.sl) ?_;refine G.at z x1 x2 λa2 ks2 is2 nd2 ik2 ii2=>nd2.AR ?_;rw[ah];refine (ih3 n is2 x.items 0 _ r _ L (by omega) hv ii2 (by omega) hb.2 z).mono λ_ h3 z=>?_;rw[ag];exact z
  .obtain⟨n,rfl⟩:∃m,n=m+1:=⟨n-1,by omega⟩;rw[vo];unfold nu;rw[il.len];by_cases hi2:i<xs.length
   .rw[if_pos (by simp;omega)];obtain⟨x,hx⟩:=jy hi2;rw[drop_cons hx,xf] at hv;cases hv1:y8 k N x ms with
    |none=>rw[hv1] at hv;cases hv
    |some m2=>
     rw[hv1] at hv;simp only at hv;refine (il.fr z.fr).ix (by omega) (by simpa using hx) λa1 g c=>c.pL (l:=li) rfl rfl ?_;refine z.ld 0 (o:=0) (l:=.raw) ?_;unfold gI;rw[ah,if_pos (by rfl),ah];refine jX (c:=(ak b1,ak b0,ak b2)) rfl ?_;refine (ih1 n x ms m2 h L (by omega) hv1 z).mono λ_ h2 z=>?_;rw[uv hi (by have:=hB.2.1;omega)];have:=ih2 n a sl xs (i+1) m2 r h2 L (by omega) hv il (by omega) hxB z
     rwa [il.len] at this
   .rw[if_neg (by simp;omega),ag];have:xs.drop i=[]:=aaS (by omega);rw[this,xf] at hv;cases hv;exact z
  .obtain⟨n,rfl⟩:∃m,n=m+1:=⟨n-1,by omega⟩;rw[vp];unfold nz;rw[il.len];by_cases hi2:i<xs.length
   .rw[if_pos (by simp;omega)];obtain⟨x,hx⟩:=jy hi2;rw[drop_cons hx,xf] at hv;cases hv1:y8 k N x ms with
    |none=>rw[hv1] at hv;cases hv
    |some m2=>
     rw[hv1] at hv;simp only at hv;refine (il.fr z.fr).ix (by omega) (by simpa using hx) λa1 g c=>c.pL (l:=li) rfl rfl ?_;refine z.ld 0 (o:=0) (l:=.raw) ?_;unfold mL gI;rw[ah,if_pos (by rfl),ah];refine jX (c:=(ak b1,ak b0,ak b2)) rfl ?_;refine (ih1 n x ms m2 h L (by omega) hv1 z).mono λ_ h2 z=>?_;rw[uv hi (by have:=hB.2.1;omega)];have:=ih3 n sl xs (i+1) m2 r h2 L (by omega) hv il (by omega) hxB z
     rwa [il.len] at this
   .rw[if_neg (by simp;omega),ag];have:xs.drop i=[]:=aaS (by omega);rw[this,xf] at hv;cases hv;exact z
theorem Ah {s:Sl}{root from':Int}{N:List an}{bm cap:Nat}{ms r:List Bool}{e:TypeId}(z:Z h0 h (.ar bm (ms.map .bool) e::L))(G:jI h0 s N){B:Nat}(hB:Bd N B){k n:Nat}(hv:y8 k N from' ms=some r)(hn:k<=n) :
  Wp (mA n (s,root) from' ⟨some ⟨bm,0,none⟩,ms.length,cap⟩) h λ_ h'=>Z h0 h' (.ar bm (r.map .bool) e::L):=by
 unfold mA;refine z.new λb0 h1 z _=>z.new (λb1 h2 z _=>z.new (λb2 h3 z _=>z.st 0 λh4 z=>?_));refine z.ld 0 (o:=0) (l:=.raw) ?_;unfold qR;rw[ah,if_pos (by rfl),ah];refine jX (c:=(ak b1,ak b0,ak b2)) rfl ?_;have z:Z h0 h4 (OV b2 b1 b0 bm s root cap ms e++L):=z.perm (by
  show List.Perm (_::_::_::_::L) (_::_::_::_::L);exact List.Perm.refl _)
 refine ((aca G hB k).1 n from' ms r h4 L hn hv z).mono λ_ h5 z=>?_;rw[ag];exact z.drop.drop.drop
end Go.Sh
