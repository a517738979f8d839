
import Derived.Test.YtpojbnjkkkiccaaGreatDoorGi
set_option linter.all false
namespace Go.Sh
open Go Go.Ago Go.Proofs
variable {α β:Type}{h h' h0:ai}{L:List aZ}{Q:β->ai->Prop}
def gt (l:List α)(i:Int):Option α:=if 0<=i then l[i.toNat]? else none
theorem aB {l:List α}{i}{x}(hx:gt l i=some x):0<=i/\l[i.toNat]?=some x:=by
 grind [gt]
mutual
def D4:Nat->List aq->Int->List Bool->Option (List Bool)
 |0,_,_,_=>none
 |k+1,N,at',ms=>match gt ms at' with
  |none=>none
  |some true=>some ms
  |some false=>match gt N at' with
   |none=>none
   |some x=>match Cv k N x.keys (ms.set at'.toNat true) with
    |none=>none
    |some m2=>Cv k N x.items m2
def Cv:Nat->List aq->ε->List Bool->Option (List Bool)
 |0,_,_,_=>none
 |_+1,_,[],ms=>some ms
 |k+1,N,x::xs,ms=>match D4 k N x ms with
  |none=>none
  |some m2=>Cv k N xs m2
end
def N0 k:∀N,(∀a ms r,D4 k N a ms=some r->r.length=ms.length)/\∀xs ms r,Cv k N xs ms=some r->r.length=ms.length:=by
 induction k with
 |zero=>grind [D4,Cv]
 |succ k ih=>
  intro N;refine⟨λa ms r e=>?_,λxs ms r e=>?_⟩
  .grind [D4]
  .cases xs with
   |nil=>rw[Cv] at e;grind
   |cons x xs=>
    grind [Cv]
def fnV (b1 b0 b2:Nat):ξ:=Value.func (Fn.func pG) #[] #[Value.pointer (some (ak b1)),Value.pointer (some (ak b0)),Value.pointer (some (ak b2))]
def OV (b2 b1 b0 bm:Nat)(s:Sl)(root:Int)(cap:Nat)(ms:List Bool)(e:κ):List aZ:=
 [.ar b2 [fnV b1 b0 b2] uC,.ar b1 [aA ⟨some ⟨bm,0,none⟩,ms.length,cap⟩] wW,.ar b0 [aA s,vi root] aj,.ar bm (ms.map .bool) e]
def akS {s}{root}{N}(G:ou h0 s N){B}(hB:Bd N B){b2 b1 b0 bm cap}{e} :
  ∀k ,(∀n a ms r h L ,k<=n->D4 k N a ms=some r->Z h0 h (OV b2 b1 b0 bm s root cap ms e++L) ->
    Wp (jq n a (ak b1) (ak b0) (ak b2)) h λ_ h'=>Z h0 h' (OV b2 b1 b0 bm s root cap r e++L)) /\
   (∀n a sl xs i ms r h L ,k<=n->Cv k N (xs.drop i) ms=some r->IL h0 sl xs->i<=xs.length->xs.length<=B->Z h0 h (OV b2 b1 b0 bm s root cap ms e++L) ->
    Wp (fW n a (ak b0) (ak b2) sl (sl.len:Int) (i:Int)) h λ_ h'=>Z h0 h' (OV b2 b1 b0 bm s root cap r e++L)) /\
   (∀n sl xs i ms r h L ,k<=n->Cv k N (xs.drop i) ms=some r->IL h0 sl xs->i<=xs.length->xs.length<=B->Z h0 h (OV b2 b1 b0 bm s root cap ms e++L) ->
    Wp (fX n (ak b2) sl (sl.len:Int) (i:Int)) h λ_ h'=>Z h0 h' (OV b2 b1 b0 bm s root cap r e++L)):=by
 intro k
 induction k with
 |zero=>grind [D4,Cv]
 |succ k ih=>
  obtain⟨ih1,ih2,ih3⟩:=ih;refine⟨λn a ms r h L hn hv z=>?_,λn a sl xs i ms r h L hn hv il hi hxB z=>?_,λn sl xs i ms r h L hn hv il hi hxB z=>?_⟩
  .obtain⟨n,rfl⟩:∃m,n=m+1:=⟨n-1,by omega⟩;rw[BN];unfold s7;rw[D4] at hv;have ix:∀{b:Bool} {f:Addr->M Unit} {h:ai} {ms:List Bool} {Q:Unit->ai->Prop},gt ms a=some b->Z h0 h (OV b2 b1 b0 bm s root cap ms e++L)->Wp (f ⟨bm,a.toNat*1,none⟩) h Q->Wp (sh (mz ⟨some ⟨bm,0,none⟩,ms.length,cap⟩ a 1) f) h Q:=by
    intro b f h ms Q hg z q;obtain⟨g1,g2⟩:=aB hg;exact GF g1 (by grind) q
   have mt:∀{b:Bool} {ms:List Bool},gt ms a=some b->(ms.map Value.bool)[a.toNat*1]?=some (.bool b):=by
    intro b ms hg;rw[ahS,abh,(aB hg).2];rfl
   refine z.ld 1 ?_;cases hg:gt ms a with
   |none=>rw[hg] at hv;cases hv
   |some b=>
    refine ix hg z ?_;refine z.ld 3 ?_ rfl (mt hg) rfl;rw[hg] at hv;cases b with
    |true=>cases hv;rw[By rfl,ag];exact z
    |false=>
     simp at hv;rw[AT (by simp)];refine z.ld 1 ?_;refine ix hg z ?_;have hlt:a.toNat<ms.length:=(List.getElem?_eq_some_iff.1 (aB hg).2).1;rw[ahS];refine z.DV 3 hlt λh1 z=>?_;have z:Z h0 h1 (OV b2 b1 b0 bm s root cap (ms.set a.toNat true) e++L):=by
      have:OV b2 b1 b0 bm s root cap (ms.set a.toNat true) e++L=(OV b2 b1 b0 bm s root cap ms e++L).set 3 (.ar bm ((ms.set a.toNat true).map .bool) e):=by
       simp[OV]
      grind
     cases hx:gt N a with
     |none=>rw[hx] at hv;cases hv
     |some x=>
      rw[hx] at hv;simp at hv;obtain⟨x1,x2⟩:=aB hx;have hb:=hB.2.2 x (IN x2);cases hv1:Cv k N x.keys (ms.set a.toNat true) with
      |none=>rw[hv1] at hv;cases hv
      |some m2=>
       rw[hv1] at hv;simp at hv;refine z.ld 2 ?_;refine G.at z x1 x2 λa1 ks is nd ik ii=>nd.Lp ?_;rw[ah];refine (ih2 n a ks x.keys 0 _ m2 _ L (by omega) hv1 ik (by omega) hb.1 z).mono λ_ h2 z=>?_;refine z.ld 2 ?_;refine G.at z x1 x2 λa2 ks2 is2 nd2 ik2 ii2=>nd2.Lq ?_;rw[ah];refine (ih3 n is2 x.items 0 _ r _ L (by omega) hv ii2 (by omega) hb.2 z).mono λ_ h3 z=>?_;rw[ag];exact z
  .obtain⟨n,rfl⟩:∃m,n=m+1:=⟨n-1,by omega⟩;rw[zh];unfold pQ;rw[il.len];by_cases hi2:i<xs.length
   .rw[By (by grind)];obtain⟨x,hx⟩:=eC hi2;rw[drop_cons hx,Cv] at hv;cases hv1:D4 k N x ms with
    |none=>rw[hv1] at hv;cases hv
    |some m2=>
     rw[hv1] at hv;simp at hv;refine (il.fr z.fr).ix (by omega) (by simpa using hx) λa1 g c=>c.sL rfl rfl ?_;refine z.ld 0 ?_;unfold iC;rw[ah,By (by rfl),ah];refine iA (c:=(ak b1,ak b0,ak b2)) rfl ?_;refine (ih1 n x ms m2 h L (by omega) hv1 z).mono λ_ h2 z=>?_;rw[wZ hi (by have:=hB.2.1;omega)];have:=ih2 n a sl xs (i+1) m2 r h2 L (by omega) hv il (by omega) hxB z
     rwa [il.len] at this
   .rw[AT (by grind),ag]
    grind [List.drop_eq_nil_of_le,Cv]
  .obtain⟨n,rfl⟩:∃m,n=m+1:=⟨n-1,by omega⟩;rw[zi];unfold pR;rw[il.len];by_cases hi2:i<xs.length
   .rw[By (by grind)];obtain⟨x,hx⟩:=eC hi2;rw[drop_cons hx,Cv] at hv;cases hv1:D4 k N x ms with
    |none=>rw[hv1] at hv;cases hv
    |some m2=>
     rw[hv1] at hv;simp only at hv;refine (il.fr z.fr).ix (by omega) (by simpa using hx) λa1 g c=>c.sL (l:=li) rfl rfl ?_;refine z.ld 0 (o:=0) (l:=.raw) ?_;unfold pc iC;rw[ah,By (by rfl),ah];refine iA (c:=(ak b1,ak b0,ak b2)) rfl ?_;refine (ih1 n x ms m2 h L (by omega) hv1 z).mono λ_ h2 z=>?_;rw[wZ hi (by have:=hB.2.1;omega)];have:=ih3 n sl xs (i+1) m2 r h2 L (by omega) hv il (by omega) hxB z
     rwa [il.len] at this
   .rw[AT (by grind),ag]
    grind [List.drop_eq_nil_of_le,Cv]
def KK {s}{root from'}{N}{bm cap}{ms r}{e}(z:Z h0 h (.ar bm (ms.map .bool) e::L))(G:ou h0 s N){B}(hB:Bd N B){k n}(hv:D4 k N from' ms=some r)(hn:k<=n) :
  Wp (qZ n (s,root) from' ⟨some ⟨bm,0,none⟩,ms.length,cap⟩) h λ_ h'=>Z h0 h' (.ar bm (r.map .bool) e::L):=by
 unfold qZ;refine z.new λb0 h1 z _=>z.new (λb1 h2 z _=>z.new (λb2 h3 z _=>z.st 0 λh4 z=>?_));refine z.ld 0 ?_;unfold uG;rw[ah,By (by rfl),ah];refine iA (c:=(ak b1,ak b0,ak b2)) rfl ?_;have z:Z h0 h4 (OV b2 b1 b0 bm s root cap ms e++L):=z.perm (by
  show List.Perm (_::_::_::_::L) (_::_::_::_::L);exact apn _)
 refine ((akS G hB k).1 n from' ms r h4 L hn hv z).mono λ_ h5 z=>?_;rw[ag];exact z.drop.drop.drop
end Go.Sh
