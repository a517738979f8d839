
import Derived.Test.YthnfbcloepfooaaGreatDoorGr
import Derived.Test.YthnfbcloepfooaaGreatDoorBi
set_option linter.all false
namespace Go.Sh
open Go Go.Ago Go.Proofs
section
variable {α β:Type}{h h' h0:af}{L:List dh}{Q:β->af->Prop}
def Bd (N:List aq)(B:Nat):Prop:=N.length<=B/\B<1073741824/\∀x∈N,x.keys.length<=B/\x.items.length<=B
theorem vV {i B:Nat}(h1:i<=B)(h2:B<1073741824):IntKind.i64.wrap ((i:Int)+1)=((i+1:Nat):Int):=by
 rw[ID (by omega) (by omega)];rfl
theorem drop_cons {l:List α}{i:Nat}{x:α}(hx:l[i]?=some x):l.drop i=x::l.drop (i+1):=by
 grind [List.getElem?_eq_some_iff,List.drop_eq_getElem_cons]
theorem gU {l:List α}{i:Nat}(hi:i<l.length):∃x,l[i]?=some x:=⟨l[i],aak hi⟩
def vq (n:Nat)(x:Int):Bool:=decide (0<=x)&&decide (x<(n:Int))
def KA (N:List aq)(root:Int):Bool:=vq N.length root&&N.all λx=>x.keys.all (vq N.length)&&x.items.all (vq N.length)
theorem Rn {s s5 s8:Sl}{root:Int}{g:Nat}{a0:Addr}(cg:Cl h a0 [aS s,vi root] g){xs:ε}(il:IL h s8 xs){B:Nat}(hB:B<1073741824)(hl:xs.length<=B)(a2:Sl)(a3 a4 a6 a7:Int) :
  ∀(n i:Nat) (b:Bool),xs.length-i<n->i<=xs.length->Wp (eV n a0 b a2 a3 a4 s5 a6 a7 s8 (s8.len:Int) (i:Int)) h λr h'=>h'=h/\r=(b&&(xs.drop i).all (vq s.len)):=by
 intro n
 induction n with
 |zero=>intro i b h1;omega
 |succ n ih=>
  intro i b h1 h2;rw[vL];unfold iT;rw[il.len];by_cases hi:i<xs.length
  .rw[BY (by simp;omega)];obtain⟨x,hx⟩:=gU hi;refine il.ix (by omega) (by simpa using hx) λa g2 c=>c.uI (l:=li) rfl rfl ?_;rw[vV h2 (by omega),drop_cons hx,abA];have ih':=λb=>ih (i+1) b (by omega) (by omega);rw[il.len] at ih';cases b with
   |false=>
    simp only[aag,aar,aco];exact (ih' false).mono λr h' h3=>by simpa using h3
   |true=>
    simp only[aav,acw];by_cases hx0:0<=x
    .rw[BY (by simpa using hx0)];refine cg.ld (o:=0) (l:=.sl) rfl rfl ?_;refine (ih' _).mono λr h' h3=>⟨h3.1,?_⟩;rw[h3.2];simp[vq,hx0]
    .rw[By (by simpa using hx0)];refine (ih' _).mono λr h' h3=>⟨h3.1,?_⟩;rw[h3.2];simp[vq,hx0]
  .rw[By (by simp;omega),ah]
   grind
theorem WB {s:Sl}{root:Int}{g b1 g1:Nat}{a0:Addr}(cg:Cl h a0 [aS s,vi root] g){ks is:Sl}{kl il:ε}(ik:IL h ks kl)(ii:IL h is il){B:Nat}(hB:B<1073741824)(hl:kl.length<=B)(hl2:il.length<=B)
  (c1:Cl h ⟨b1,0,none⟩ [aS ks,aS is] g1) (a2:Sl) (a3 a4:Int) (n:Nat) (b:Bool) (hn:B+5<=n) :
  Wp (eW n a0 b a2 a3 a4 { a:=some (aw b1),len:=2,cap:=3 } (2:Nat) 0) h λr h'=>h'=h/\r=(b&&(kl.all (vq s.len)&&il.all (vq s.len))):=by
 obtain⟨n,rfl⟩:∃m,n=m+3:=⟨n-3,by omega⟩;have rs:Bb h { a:=some (aw b1),len:=2,cap:=3 } 1 [aS ks,aS is] g1:=⟨rfl,.inr ⟨_,rfl,c1⟩⟩;rw[lB];unfold eS;rw[BY (by decide)];refine rs.ix (k:=0) (by decide) (by simp) λa c=>c.uI (l:=.sl) rfl rfl ?_;rw[ag];refine (Rn cg ik hB hl a2 a3 a4 _ _ _ 0 b (by omega) (by omega)).mono λr h' h3=>?_;obtain⟨rfl,rfl⟩:=h3;rw[show IntKind.i64.wrap (0+1)=1 from by decide,lB];unfold eS;rw[BY (by decide)];refine rs.ix (k:=1) (by decide) (by simp) λa c=>c.uI (l:=.sl) rfl rfl ?_;rw[ag];refine (Rn cg ii hB hl2 a2 a3 a4 _ _ _ 0 _ (by omega) (by omega)).mono λr h' h3=>?_;obtain⟨rfl,rfl⟩:=h3;rw[show IntKind.i64.wrap (1+1)=2 from by decide,lB];unfold eS;rw[By (by decide),ah];simp[Bool.and_assoc]
theorem WC {s:Sl}{root:Int}{N:List aq}(G:mE h0 s N){B:Nat}(hB:Bd N B){b0:Nat} :
  ∀(n i:Nat) (b:Bool) (h:af) (L:List dh) (z:Z h0 h (.aD b0 [aS s,vi root] aj::L)),N.length-i+B+5<n->i<=N.length ->
   Wp (eX n (aw b0) b s (s.len:Int) (i:Int)) h λr h'=>(r=(b&&(N.drop i).all λx=>x.keys.all (vq N.length)&&x.items.all (vq N.length)))/\Z h0 h' (.aD b0 [aS s,vi root] aj::L):=by
 intro n
 induction n with
 |zero=>intro i b h L z h1;omega
 |succ n ih=>
  intro i b h L z h1 h2;rw[vM];unfold iU;rw[G.len];by_cases hi:i<N.length
  .rw[BY (by simp;omega)];obtain⟨x,hx⟩:=gU hi;refine G.at z (by omega) (by simpa using hx) λa ks is nd ik ii=>nd.jV ?_;refine z.node λx2 h2' z=>?_;refine z.ld 0 (o:=3) (l:=.sl) ?_;refine z.ld 0 (o:=4) (l:=.sl) ?_;refine z.new λx6 h4 z f2=>?_;rw[ag];have hb:=hB.2.2 x (OF hx);refine (WB (z.cl 2 rfl) (ik.fr z.fr) (ii.fr z.fr) hB.2.1 hb.1 hb.2 (z.cl 0 rfl) _ _ _ n b (by omega)).mono λr h' h3=>?_;obtain⟨rfl,rfl⟩:=h3;rw[vV (abj hi) (by have:=hB.1;have:=hB.2.1;omega)];have ih':=ih (i+1) (b&&(x.keys.all (vq s.len)&&x.items.all (vq s.len))) _ L z.drop.drop (by omega) (by omega);rw[G.len] at ih'⊢;refine ih'.mono λr h5 h6=>⟨?_,h6.2⟩;rw[h6.1,drop_cons hx,abA,Bool.and_assoc]
  .rw[By (by simp;omega),ah]
   grind
theorem KB {s:Sl}{root:Int}{N:List aq}(z:Z h0 h L)(G:mE h0 s N){B:Nat}(hB:Bd N B){n:Nat}(hn:2*B+6<n) :
  Wp (lu n (s,root)) h λr h'=>r=KA N root/\Z h0 h' L:=by
 unfold lu;have J:∀b h x0,Z h0 h (.aD x0 [aS s,vi root] aj::L)->Wp (gi n (aw x0) b) h λr h'=>(r=(b&&N.all λx=>x.keys.all (vq N.length)&&x.items.all (vq N.length)))/\Z h0 h' L:=by
  intro b h x0 z;unfold gi;refine z.ld 0 (o:=0) (l:=.sl) ?_;rw[ag];refine (WC G hB n 0 b h L z (by have:=hB.1;omega) (by omega)).mono λr h' h1=>?_;rw[ah];exact⟨by simpa using h1.1,h1.2.drop⟩
 refine z.new λx0 h1 z f1=>?_;refine z.ld 0 (o:=1) (l:=li) ?_;by_cases h0r:0<=root
 .rw[BY (by simpa using h0r)];refine z.ld 0 (o:=1) (l:=li) ?_;refine z.ld 0 (o:=0) (l:=.sl) ?_;refine (J _ _ _ z).mono λr h' h2=>⟨?_,h2.2⟩;rw[h2.1,G.len];simp[KA,vq,h0r]
 .rw[By (by simpa using h0r)];refine (J _ _ _ z).mono λr h' h2=>⟨?_,h2.2⟩;rw[h2.1];simp[KA,vq,h0r]
end
section
variable {α β:Type}{h h' h0:af}{L:List dh}{Q:β->af->Prop}
def gt (l:List α)(i:Int):Option α:=if 0<=i then l[i.toNat]? else none
theorem bH {l:List α}{i:Int}{x:α}(hx:gt l i=some x):0<=i/\l[i.toNat]?=some x:=by
 grind [gt]
mutual
def A5:Nat->List aq->Int->List Bool->Option (List Bool)
 |0,_,_,_=>none
 |k+1,N,at',ms=>match gt ms at' with
  |none=>none
  |some true=>some ms
  |some false=>match gt N at' with
   |none=>none
   |some x=>match kK k N x.keys (ms.set at'.toNat true) with
    |none=>none
    |some m2=>kK k N x.items m2
def kK:Nat->List aq->ε->List Bool->Option (List Bool)
 |0,_,_,_=>none
 |_+1,_,[],ms=>some ms
 |k+1,N,x::xs,ms=>match A5 k N x ms with
  |none=>none
  |some m2=>kK k N xs m2
end
theorem GZ (k:Nat):∀N,(∀a ms r,A5 k N a ms=some r->r.length=ms.length)/\∀xs ms r,kK k N xs ms=some r->r.length=ms.length:=by
 induction k with
 |zero=>grind [A5,kK]
 |succ k ih=>
  intro N;refine⟨λa ms r e=>?_,λxs ms r e=>?_⟩
  .grind [A5,A5,A5]
  .cases xs with
   |nil=>rw[kK] at e;cases e;rfl
   |cons x xs=>
    grind [kK,kK,kK,kK]
def fnV (b1 b0 b2:Nat):ξ:=Value.func (Fn.func lH) #[] #[Value.pointer (some (aw b1)),Value.pointer (some (aw b0)),Value.pointer (some (aw b2))]
def OV (b2 b1 b0 bm:Nat)(s:Sl)(root:Int)(cap:Nat)(ms:List Bool)(e:κ):List dh:=
 [.aD b2 [fnV b1 b0 b2] pC,.aD b1 [aS ⟨some ⟨bm,0,none⟩,ms.length,cap⟩] rI,.aD b0 [aS s,vi root] aj,.aD bm (ms.map .bool) e]
theorem WD {s:Sl}{root:Int}{N:List aq}(G:mE h0 s N){B:Nat}(hB:Bd N B){b2 b1 b0 bm cap:Nat}{e:κ} :
  ∀(k:Nat),(∀(n:Nat) (a:Int) (ms r:List Bool) (h:af) (L:List dh),k<=n->A5 k N a ms=some r->Z h0 h (OV b2 b1 b0 bm s root cap ms e++L) ->
    Wp (dQ n a (aw b1) (aw b0) (aw b2)) h λ_ h'=>Z h0 h' (OV b2 b1 b0 bm s root cap r e++L)) /\
   (∀(n:Nat) (a:Int) (sl:Sl) (xs:ε) (i:Nat) (ms r:List Bool) (h:af) (L:List dh),k<=n->kK k N (xs.drop i) ms=some r->IL h0 sl xs->i<=xs.length->xs.length<=B->Z h0 h (OV b2 b1 b0 bm s root cap ms e++L) ->
    Wp (ej n a (aw b0) (aw b2) sl (sl.len:Int) (i:Int)) h λ_ h'=>Z h0 h' (OV b2 b1 b0 bm s root cap r e++L)) /\
   (∀(n:Nat) (sl:Sl) (xs:ε) (i:Nat) (ms r:List Bool) (h:af) (L:List dh),k<=n->kK k N (xs.drop i) ms=some r->IL h0 sl xs->i<=xs.length->xs.length<=B->Z h0 h (OV b2 b1 b0 bm s root cap ms e++L) ->
    Wp (ek n (aw b2) sl (sl.len:Int) (i:Int)) h λ_ h'=>Z h0 h' (OV b2 b1 b0 bm s root cap r e++L)):=by
 intro k
 induction k with
 |zero=>grind [A5,kK]
 |succ k ih=>
  obtain⟨ih1,ih2,ih3⟩:=ih;refine⟨λn a ms r h L hn hv z=>?_,λn a sl xs i ms r h L hn hv il hi hxB z=>?_,λn sl xs i ms r h L hn hv il hi hxB z=>?_⟩
  .obtain⟨n,rfl⟩:∃m,n=m+1:=⟨n-1,by omega⟩;rw[wx];unfold jB;rw[A5] at hv;have ix:∀{b:Bool} {f:Addr->M Unit} {h:af} {ms:List Bool} {Q:Unit->af->Prop},gt ms a=some b->Z h0 h (OV b2 b1 b0 bm s root cap ms e++L)->Wp (f ⟨bm,a.toNat*1,none⟩) h Q->Wp (AI (ao ⟨some ⟨bm,0,none⟩,ms.length,cap⟩ a 1) f) h Q:=by
    intro b f h ms Q hg z q;obtain⟨g1,g2⟩:=bH hg;exact Tq g1 (by have:=(List.getElem?_eq_some_iff.1 g2).1;omega) q
   have mt:∀{b:Bool} {ms:List Bool},gt ms a=some b->(ms.map Value.bool)[a.toNat*1]?=some (.bool b):=by
    intro b ms hg;rw[aa5,aaj,(bH hg).2];rfl
   refine z.ld 1 (o:=0) (l:=.sl) ?_;cases hg:gt ms a with
   |none=>rw[hg] at hv;cases hv
   |some b=>
    refine ix hg z ?_;refine z.ld 3 (l:=.bool) (x:=b) ?_ rfl (mt hg) rfl;rw[hg] at hv;cases b with
    |true=>cases hv;rw[BY rfl,ah];exact z
    |false=>
     simp only at hv;rw[By (by simp)];refine z.ld 1 (o:=0) (l:=.sl) ?_;refine ix hg z ?_;have hlt:a.toNat<ms.length:=(List.getElem?_eq_some_iff.1 (bH hg).2).1;rw[aa5];refine z.zX 3 (enc:=Value.bool) (v:=true) hlt λh1 z=>?_;have z:Z h0 h1 (OV b2 b1 b0 bm s root cap (ms.set a.toNat true) e++L):=by
      have:OV b2 b1 b0 bm s root cap (ms.set a.toNat true) e++L=(OV b2 b1 b0 bm s root cap ms e++L).set 3 (.aD bm ((ms.set a.toNat true).map .bool) e):=by
       simp[OV]
      rw[this];exact z
     cases hx:gt N a with
     |none=>rw[hx] at hv;cases hv
     |some x=>
      rw[hx] at hv;simp only at hv;obtain⟨x1,x2⟩:=bH hx;have hb:=hB.2.2 x (OF x2);cases hv1:kK k N x.keys (ms.set a.toNat true) with
      |none=>rw[hv1] at hv;cases hv
      |some m2=>
       rw[hv1] at hv;simp only at hv;refine z.ld 2 (o:=0) (l:=.sl) ?_;refine G.at z x1 x2 λa1 ks is nd ik ii=>nd.V2 ?_;rw[ag];refine (ih2 n a ks x.keys 0 _ m2 _ L (by omega) hv1 ik (by omega) hb.1 z).mono λ_ h2 z=>?_;refine z.ld 2 (o:=0) (l:=.sl) ?_;refine G.at z x1 x2 λa2 ks2 is2 nd2 ik2 ii2=>nd2.Tt ?_;rw[ag];refine (ih3 n is2 x.items 0 _ r _ L (by omega) hv ii2 (by omega) hb.2 z).mono λ_ h3 z=>?_;rw[ah];exact z
  .obtain⟨n,rfl⟩:∃m,n=m+1:=⟨n-1,by omega⟩;rw[uh];unfold gE;rw[il.len];by_cases hi2:i<xs.length
   .rw[BY (by simp;omega)];obtain⟨x,hx⟩:=gU hi2;rw[drop_cons hx,kK] at hv;cases hv1:A5 k N x ms with
    |none=>rw[hv1] at hv;cases hv
    |some m2=>
     rw[hv1] at hv;simp only at hv;refine (il.fr z.fr).ix (by omega) (by simpa using hx) λa1 g c=>c.uI (l:=li) rfl rfl ?_;refine z.ld 0 (o:=0) (l:=.raw) ?_;unfold di;rw[ag,BY (by rfl),ag];refine lG (c:=(aw b1,aw b0,aw b2)) rfl ?_;refine (ih1 n x ms m2 h L (by omega) hv1 z).mono λ_ h2 z=>?_;rw[vV hi (by have:=hB.2.1;omega)];have:=ih2 n a sl xs (i+1) m2 r h2 L (by omega) hv il (by omega) hxB z
     rwa [il.len] at this
   .rw[By (by simp;omega),ah]
    grind [List.drop_eq_nil_of_le,kK,kK,kK]
  .obtain⟨n,rfl⟩:∃m,n=m+1:=⟨n-1,by omega⟩;rw[ui];unfold gF;rw[il.len];by_cases hi2:i<xs.length
   .rw[BY (by simp;omega)];obtain⟨x,hx⟩:=gU hi2;rw[drop_cons hx,kK] at hv;cases hv1:A5 k N x ms with
    |none=>rw[hv1] at hv;cases hv
    |some m2=>
     rw[hv1] at hv;simp only at hv;refine (il.fr z.fr).ix (by omega) (by simpa using hx) λa1 g c=>c.uI (l:=li) rfl rfl ?_;refine z.ld 0 (o:=0) (l:=.raw) ?_;unfold jc di;rw[ag,BY (by rfl),ag];refine lG (c:=(aw b1,aw b0,aw b2)) rfl ?_;refine (ih1 n x ms m2 h L (by omega) hv1 z).mono λ_ h2 z=>?_;rw[vV hi (by have:=hB.2.1;omega)];have:=ih3 n sl xs (i+1) m2 r h2 L (by omega) hv il (by omega) hxB z
     rwa [il.len] at this
   .rw[By (by simp;omega),ah]
    grind [List.drop_eq_nil_of_le,kK,kK,kK]
theorem Dd {s:Sl}{root from':Int}{N:List aq}{bm cap:Nat}{ms r:List Bool}{e:κ}(z:Z h0 h (.aD bm (ms.map .bool) e::L))(G:mE h0 s N){B:Nat}(hB:Bd N B){k n:Nat}(hv:A5 k N from' ms=some r)(hn:k<=n) :
  Wp (jQ n (s,root) from' ⟨some ⟨bm,0,none⟩,ms.length,cap⟩) h λ_ h'=>Z h0 h' (.aD bm (r.map .bool) e::L):=by
 unfold jQ;refine z.new λb0 h1 z _=>z.new (λb1 h2 z _=>z.new (λb2 h3 z _=>z.st 0 λh4 z=>?_));refine z.ld 0 (o:=0) (l:=.raw) ?_;unfold j8;rw[ag,BY (by rfl),ag];refine lG (c:=(aw b1,aw b0,aw b2)) rfl ?_;have z:Z h0 h4 (OV b2 b1 b0 bm s root cap ms e++L):=z.perm (by
  show List.Perm (_::_::_::_::L) (_::_::_::_::L);exact ab4 _)
 refine ((WD G hB k).1 n from' ms r h4 L hn hv z).mono λ_ h5 z=>?_;rw[ah];exact z.drop.drop.drop
end
section
variable {α β:Type}{h h' h0:af}{L:List dh}{Q:β->af->Prop}
def bump (c:ε)(x:Int):Option ε:=(gt c x).map λv=>c.set x.toNat (IntKind.i64.wrap (v+1))
def kR:ε->ε->Option ε
 |[],c=>some c
 |x::xs,c=>(bump c x).bind (kR xs)
def IH:List aq->ε->Option ε
 |[],c=>some c
 |x::xs,c=>((kR x.keys c).bind (kR x.items)).bind (IH xs)
def Ss (N:List aq)(root:Int):Option ε:=(bump (List.replicate N.length 0) root).bind (IH N)
theorem uv {c c':ε}{x:Int}(hb:bump c x=some c'):c'.length=c.length:=by
 grind [bump,gt]
theorem pR:∀{xs c c':ε},kR xs c=some c'->c'.length=c.length
 |[],c,c',hb=>by cases hb;rfl
 |x::xs,c,c',hb=>by
  rw[kR] at hb;cases h1:bump c x with
  |none=>rw[h1] at hb;cases hb
  |some c1=>rw[h1] at hb;rw[pR hb,uv h1]
theorem II:∀{N:List aq} {c c':ε},IH N c=some c'->c'.length=c.length
 |[],c,c',hb=>by cases hb;rfl
 |x::xs,c,c',hb=>by
  rw[IH] at hb;cases h1:kR x.keys c with
  |none=>rw[h1] at hb;cases hb
  |some c1=>
   rw[h1] at hb;simp only[aaA] at hb;cases h2:kR x.items c1 with
   |none=>rw[h2] at hb;cases hb
   |some c2=>rw[h2] at hb;rw[II hb,pR h2,pR h1]
theorem zD {i b n cap:Nat}{e:κ}{c c':ε}{x:Int}(z:Z h0 h L)(hi:L[i]?=some (.aD b (c.map vi) e))(hb:bump c x=some c')(hn:n=c.length){f:M β}
  (q:∀h',Z h0 h' (L.set i (.aD b (c'.map vi) e))->Wp f h' Q) :
  Wp (AI (ao ⟨some ⟨b,0,none⟩,n,cap⟩ x 1) λa=>AI (ar li a) λ(v:Int)=>AI (ao ⟨some ⟨b,0,none⟩,n,cap⟩ x 1) λa2=>AI (bE a2 [vi (IntKind.i64.wrap (v+1))]) λ_=>f) h Q:=by
 unfold bump at hb;cases hg:gt c x with
 |none=>rw[hg] at hb;cases hb
 |some v=>
  rw[hg] at hb;have hb:c.set x.toNat (IntKind.i64.wrap (v+1))=c':=aao hb;obtain⟨g1,g2⟩:=bH hg;have hlt:=(List.getElem?_eq_some_iff.1 g2).1;refine Tq g1 (by omega) ?_;refine z.ld i (o:=x.toNat*1) (l:=li) (x:=v) ?_ hi (by rw[aa5,aaj,g2];rfl) rfl;refine Tq g1 (by omega) ?_;rw[aa5];refine z.zX i (xs:=c) hlt (λh1 z=>?_) hi;rw[hb] at z;exact q h1 z
theorem WE {b cap:Nat}{e:κ}{sl:Sl}{xs:ε}(il:IL h0 sl xs){B:Nat}(hB:B<1073741824)(hl:xs.length<=B)(a1:Addr)(a2:Sl)(a3 a4:Int) :
  ∀(n i:Nat) (c r:ε) (h:af) (L:List dh),xs.length-i<n->i<=xs.length->kR (xs.drop i) c=some r->Z h0 h (.aD b (c.map vi) e::L) ->
   Wp (fS n ⟨some ⟨b,0,none⟩,c.length,cap⟩ a1 a2 a3 a4 sl (sl.len:Int) (i:Int)) h λ_ h'=>Z h0 h' (.aD b (r.map vi) e::L):=by
 intro n
 induction n with
 |zero=>intro i c r h L h1;omega
 |succ n ih=>
  intro i c r h L h1 h2 hb z;rw[wA];unfold jG;rw[il.len];by_cases hi:i<xs.length
  .rw[BY (by simp;omega)];obtain⟨x,hx⟩:=gU hi;rw[drop_cons hx,kR] at hb;cases hb1:bump c x with
   |none=>rw[hb1] at hb;cases hb
   |some c1=>
    rw[hb1] at hb;refine (il.fr z.fr).ix (by omega) (by simpa using hx) λa g cl=>cl.uI (l:=li) rfl rfl ?_;refine zD (i:=0) z rfl hb1 rfl λh2 z=>?_;have:=ih (i+1) c1 r h2 L (by omega) (by omega) hb z;rw[vV (abj hi) (by omega)];rw[il.len,uv hb1] at this;exact this
  .rw[By (by simp;omega),ah];have:xs.drop i=[]:=aah (by omega);rw[this] at hb;cases hb;exact z
theorem WG {b cap:Nat}{e:κ}{sl:Sl}{xs:ε}(il:IL h0 sl xs){B:Nat}(hB:B<1073741824)(hl:xs.length<=B)(a2:Sl)(a3 a4:Int) :
  ∀(n i:Nat) (c r:ε) (h:af) (L:List dh),xs.length-i<n->i<=xs.length->kR (xs.drop i) c=some r->Z h0 h (.aD b (c.map vi) e::L) ->
   Wp (fT n ⟨some ⟨b,0,none⟩,c.length,cap⟩ a2 a3 a4 sl (sl.len:Int) (i:Int)) h λ_ h'=>Z h0 h' (.aD b (r.map vi) e::L):=by
 intro n
 induction n with
 |zero=>intro i c r h L h1;omega
 |succ n ih=>
  intro i c r h L h1 h2 hb z;rw[wB];unfold jH;rw[il.len];by_cases hi:i<xs.length
  .rw[BY (by simp;omega)];obtain⟨x,hx⟩:=gU hi;rw[drop_cons hx,kR] at hb;cases hb1:bump c x with
   |none=>rw[hb1] at hb;cases hb
   |some c1=>
    rw[hb1] at hb;refine (il.fr z.fr).ix (by omega) (by simpa using hx) λa g cl=>cl.uI (l:=li) rfl rfl ?_;refine zD (i:=0) z rfl hb1 rfl λh2 z=>?_;have:=ih (i+1) c1 r h2 L (by omega) (by omega) hb z;rw[vV (abj hi) (by omega)];rw[il.len,uv hb1] at this;exact this
  .rw[By (by simp;omega),ah];have:xs.drop i=[]:=aah (by omega);rw[this] at hb;cases hb;exact z
theorem WH {s:Sl}{N:List aq}(G:mE h0 s N){B:Nat}(hB:Bd N B){b cap:Nat}{e:κ} :
  ∀(n i:Nat) (c r:ε) (h:af) (L:List dh),N.length-i+B+5<n->i<=N.length->IH (N.drop i) c=some r->Z h0 h (.aD b (c.map vi) e::L) ->
   Wp (fU n ⟨some ⟨b,0,none⟩,c.length,cap⟩ s (s.len:Int) (i:Int)) h λ_ h'=>Z h0 h' (.aD b (r.map vi) e::L):=by
 intro n
 induction n with
 |zero=>intro i c r h L h1;omega
 |succ n ih=>
  intro i c r h L h1 h2 hb z;rw[wC];unfold jI;rw[G.len];by_cases hi:i<N.length
  .rw[BY (by simp;omega)];obtain⟨x,hx⟩:=gU hi;rw[drop_cons hx,IH] at hb;have hbd:=hB.2.2 x (OF hx);cases hb1:kR x.keys c with
   |none=>rw[hb1] at hb;cases hb
   |some c1=>
    rw[hb1] at hb;simp only[aaA] at hb;cases hb2:kR x.items c1 with
    |none=>rw[hb2] at hb;cases hb
    |some c2=>
     rw[hb2] at hb;simp only[aaA] at hb;refine G.at z (by omega) (by simpa using hx) λa ks is nd ik ii=>nd.jV ?_;refine z.node λx2 h2' z=>?_;refine z.ld 0 (o:=3) (l:=.sl) ?_;have z:=z.perm (List.Perm.swap _ _ _);rw[ag];refine (WE ik hB.2.1 hbd.1 _ _ _ _ n 0 c c1 _ _ (by omega) (by omega) (by simpa using hb1) z).mono λ_ h3 z=>?_;refine z.ld 1 (o:=4) (l:=.sl) ?_;rw[ag,<-pR hb1];refine (WG ii hB.2.1 hbd.2 _ _ _ n 0 c1 c2 _ _ (by omega) (by omega) (by simpa using hb2) z).mono λ_ h4 z=>?_;have z:=(z.perm (List.Perm.swap _ _ _)).drop;have:=ih (i+1) c2 r h4 L (by omega) (by omega) hb z;rw[vV (abj hi) (by have:=hB.1;have:=hB.2.1;omega)];rw[G.len,pR hb2] at this;exact this
  .rw[By (by simp;omega),ah];have:N.drop i=[]:=aah (by omega);rw[this] at hb;cases hb;exact z
theorem OH {s:Sl}{root:Int}{N:List aq}(z:Z h0 h L)(G:mE h0 s N){B:Nat}(hB:Bd N B){n:Nat}(hn:2*B+6<n){r:ε}(hr:Ss N root=some r) :
  Wp (kV n (s,root)) h λx h'=>∃b,x=⟨some ⟨b,0,none⟩,N.length,N.length+1⟩/\r.length=N.length/\Z h0 h' (.aD b (r.map vi) ay::L):=by
 unfold kV;unfold Ss at hr;cases h1:bump (List.replicate N.length 0) root with
 |none=>rw[h1] at hr;cases hr
 |some c1=>
  rw[h1] at hr;simp only[aaA] at hr;refine z.new λx0 h1' z f1=>?_;refine z.ld 0 (o:=0) (l:=.sl) ?_;rw[G.len];refine z.DV (by omega) (by have:=hB.1;have:=hB.2.1;unfold cN;omega) λb h2 z f2=>?_;rw[aac] at z⊢;rw[l6 (enc:=vi)] at z;refine z.ld 1 (o:=1) (l:=li) ?_;refine zD (i:=0) z rfl h1 (by simp) λh3 z=>?_;refine z.ld 1 (o:=0) (l:=.sl) ?_;rw[ag];have hl:=uv h1;rw[aax] at hl;have:=WH G hB (cap:=N.length+1) n 0 c1 r h3 (.aD x0 [aS s,vi root] aj::L) (by have:=hB.1;omega) (by omega) (by simpa using hr) z;rw[hl] at this;refine this.mono λ_ h4 z=>?_;rw[ah];exact⟨b,rfl,by rw[II hr,hl],(z.perm (List.Perm.swap _ _ _)).drop⟩
def D3 (k:Nat)(N:List aq):ε->List Bool->Option (List Bool)
 |[],ms=>some ms
 |x::xs,ms=>(A5 k N x ms).bind (D3 k N xs)
def Su (k:Nat)(N:List aq):List aq->List Bool->Option (List Bool)
 |[],ms=>some ms
 |x::xs,ms=>(D3 k N x.keys ms).bind (Su k N xs)
theorem De {k:Nat}{N:List aq}:∀{xs:ε} {ms r:List Bool},D3 k N xs ms=some r->r.length=ms.length
 |[],ms,r,hb=>by cases hb;rfl
 |x::xs,ms,r,hb=>by
  rw[D3] at hb;cases h1:A5 k N x ms with
  |none=>rw[h1] at hb;cases hb
  |some c1=>rw[h1] at hb;rw[De hb,(GZ k N).1 _ _ _ h1]
theorem L6 {k:Nat}{N:List aq}:∀{xs:List aq} {ms r:List Bool},Su k N xs ms=some r->r.length=ms.length
 |[],ms,r,hb=>by cases hb;rfl
 |x::xs,ms,r,hb=>by
  rw[Su] at hb;cases h1:D3 k N x.keys ms with
  |none=>rw[h1] at hb;cases hb
  |some c1=>rw[h1] at hb;rw[L6 hb,De h1]
theorem WI {s:Sl}{root:Int}{N:List aq}(G:mE h0 s N){B:Nat}(hB:Bd N B){b b0 cap k:Nat}{e:κ}{sl:Sl}{xs:ε}(il:IL h0 sl xs)(hl:xs.length<=B)(a2:Sl)(a3 a4:Int) :
  ∀(n i:Nat) (c r:List Bool) (h:af) (L:List dh),k+(xs.length-i)<n->i<=xs.length->D3 k N (xs.drop i) c=some r->Z h0 h (.aD b (c.map .bool) e::.aD b0 [aS s,vi root] aj::L) ->
   Wp (fV n (aw b0) ⟨some ⟨b,0,none⟩,c.length,cap⟩ a2 a3 a4 sl (sl.len:Int) (i:Int)) h λ_ h'=>Z h0 h' (.aD b (r.map .bool) e::.aD b0 [aS s,vi root] aj::L):=by
 intro n
 induction n with
 |zero=>intro i c r h L h1;omega
 |succ n ih=>
  intro i c r h L h1 h2 hb z;rw[wD];unfold jJ;rw[il.len];by_cases hi:i<xs.length
  .rw[BY (by simp;omega)];obtain⟨x,hx⟩:=gU hi;rw[drop_cons hx,D3] at hb;cases hb1:A5 k N x c with
   |none=>rw[hb1] at hb;cases hb
   |some c1=>
    rw[hb1] at hb;refine (il.fr z.fr).ix (by omega) (by simpa using hx) λa g cl=>cl.uI (l:=li) rfl rfl ?_;refine z.jV 1 (ls:=[.sl,li]) (x:=(s,root)) ?_;rw[ag];refine (Dd z G hB hb1 (by omega)).mono λ_ h2 z=>?_;have:=ih (i+1) c1 r h2 L (by omega) (by omega) hb z;rw[vV (abj hi) (by have:=hB.2.1;omega)];rw[il.len,(GZ k N).1 _ _ _ hb1] at this;exact this
  .rw[By (by simp;omega),ah];have:xs.drop i=[]:=aah (by omega);rw[this] at hb;cases hb;exact z
theorem WJ {s:Sl}{root:Int}{N:List aq}(G:mE h0 s N){B:Nat}(hB:Bd N B){b b0 cap k:Nat}{e:κ} :
  ∀(n i:Nat) (c r:List Bool) (h:af) (L:List dh),k+(N.length-i)+B+5<n->i<=N.length->Su k N (N.drop i) c=some r->Z h0 h (.aD b (c.map .bool) e::.aD b0 [aS s,vi root] aj::L) ->
   Wp (fW n (aw b0) ⟨some ⟨b,0,none⟩,c.length,cap⟩ s (s.len:Int) (i:Int)) h λ_ h'=>Z h0 h' (.aD b (r.map .bool) e::.aD b0 [aS s,vi root] aj::L):=by
 intro n
 induction n with
 |zero=>intro i c r h L h1;omega
 |succ n ih=>
  intro i c r h L h1 h2 hb z;rw[wE];unfold jK;rw[G.len];by_cases hi:i<N.length
  .rw[BY (by simp;omega)];obtain⟨x,hx⟩:=gU hi;rw[drop_cons hx,Su] at hb;have hbd:=hB.2.2 x (OF hx);cases hb1:D3 k N x.keys c with
   |none=>rw[hb1] at hb;cases hb
   |some c1=>
    rw[hb1] at hb;simp only[aaA] at hb;refine G.at z (by omega) (by simpa using hx) λa ks is nd ik ii=>nd.jV ?_;refine z.node λx2 h2' z=>?_;refine z.ld 0 (o:=3) (l:=.sl) ?_;have z:=z.perm ((List.Perm.swap _ _ _).trans (List.Perm.cons _ (List.Perm.swap _ _ _)));rw[ag];refine (WI (k:=k) G hB ik hbd.1 _ _ _ n 0 c c1 _ _ (by omega) (by omega) (by simpa using hb1) z).mono λ_ h3 z=>?_;have z:=(z.perm ((List.Perm.cons _ (List.Perm.swap _ _ _)).trans (List.Perm.swap _ _ _))).drop;have:=ih (i+1) c1 r h3 L (by omega) (by omega) hb z;rw[vV (abj hi) (by have:=hB.1;have:=hB.2.1;omega)];rw[G.len,De hb1] at this;exact this
  .rw[By (by simp;omega),ah];have:N.drop i=[]:=aah (by omega);rw[this] at hb;cases hb;exact z
theorem OJ {s:Sl}{root:Int}{N:List aq}(z:Z h0 h L)(G:mE h0 s N){B:Nat}(hB:Bd N B){k n:Nat}(hn:k+2*B+6<n){r:List Bool}(hr:Su k N N (List.replicate N.length false)=some r) :
  Wp (l7 n (s,root)) h λx h'=>∃b,x=⟨some ⟨b,0,none⟩,N.length,N.length+1⟩/\r.length=N.length/\Z h0 h' (.aD b (r.map .bool) yp::L):=by
 unfold l7;refine z.new λx0 h1' z f1=>?_;refine z.ld 0 (o:=0) (l:=.sl) ?_;rw[G.len];refine z.DV (by omega) (by have:=hB.1;have:=hB.2.1;unfold cN;omega) λb h2 z f2=>?_;rw[aac] at z⊢;rw[l6 (enc:=Value.bool)] at z;refine z.ld 1 (o:=0) (l:=.sl) ?_;rw[ag];have:=WJ (k:=k) (root:=root) G hB (cap:=N.length+1) n 0 _ r _ L (by have:=hB.1;omega) (by omega) (by simpa using hr) z;rw[aax] at this;refine this.mono λ_ h4 z=>?_;rw[ah];exact⟨b,rfl,by rw[L6 hr,aax],(z.perm (List.Perm.swap _ _ _)).drop⟩
end
section
variable {α β:Type}{h h' h0:af}{L:List dh}{Q:β->af->Prop}
def EA (k:Int)(t:ζ):Option Bool:=
 if k=0 then some (pj t (ofBytes []))
 else if k=1 then some (pj t (ofBytes [116,114,117,101])||pj t (ofBytes [102,97,108,115,101]))
 else if k=2 then some (wu t)
 else if k=5 then some (decide (Er (oh t (t.size+1) 0)=0))
 else if k=6 then some true
 else if k=3\/k=4\/k=7\/k=8 then none
 else some false
def s6 (x:aq):Option Bool:=
 if x.kind=9 then some (pj x.text (ofBytes [])&&!x.ord&&decide (x.keys.length=0))
 else if x.kind=10 then some (pj x.text (ofBytes [])&&decide (x.keys.length=x.items.length))
 else if x.kind=11 then none
 else if x.ord=false/\x.keys.length=0/\x.items.length=0 then EA x.kind x.text else some false
theorem OL {k:Int}{t:ζ}{n:Nat}(z:Z h0 h L)(hs:t.size<=65536)(hn:t.size+1<n){r:Bool}(hr:EA k t=some r):Wp (kU n k t) h λx h'=>x=r/\Z h0 h' L:=by
 unfold kU;unfold EA at hr;by_cases h0:k=0
 .rw[BY h0] at hr;cases hr;rw[BY (by simpa using h0),ah];exact⟨rfl,z⟩
 rw[By h0] at hr;rw[By (by simpa using h0)];by_cases h1:k=1
 .rw[BY h1] at hr;cases hr;rw[BY (by simpa using h1)];cases he:pj t (ofBytes [116,114,117,101]) with
  |true=>rw[BY rfl,ah];exact⟨rfl,z⟩
  |false=>rw[By (by simp),ah];exact⟨rfl,z⟩
 rw[By h1] at hr;rw[By (by simpa using h1)];by_cases h2:k=2
 .rw[BY h2] at hr;cases hr;rw[BY (by simpa using h2),ag];refine (uu hs hn z.wf).mono λx h' hx=>?_;rw[ah];exact⟨hx.1,z.pure hx.2⟩
 rw[By h2] at hr;rw[By (by simpa using h2)];by_cases h5:k=5
 .rw[BY h5] at hr;cases hr;subst h5;rw[By (by decide),By (by decide),BY (by decide)];unfold fQ;rw[ag,ah,ah];exact⟨rfl,z⟩
 rw[By h5] at hr;by_cases h6:k=6
 .rw[BY h6] at hr;cases hr;subst h6;rw[By (by decide),By (by decide),By (by decide),BY (by decide),ah];exact⟨rfl,z⟩
 rw[By h6] at hr;split at hr
 .cases hr
 .rename_i hne;cases hr;rw[By (by simp;omega),By (by simp;omega),By (by simpa using h5),By (by simpa using h6),By (by simp;omega),By (by simp;omega),ah];exact⟨rfl,z⟩
theorem TF {x:aq}{ks is:Sl}{n:Nat}(z:Z h0 h L)(ik:IL h0 ks x.keys)(ii:IL h0 is x.items)(hs:x.text.size<=65536)(hn:x.text.size+1<n){r:Bool}(hr:s6 x=some r) :
  Wp (pG n (x.kind,x.text,x.ord,ks,is)) h λy h'=>y=r/\Z h0 h' L:=by
 unfold pG;unfold s6 at hr;refine z.new λb h1 z f1=>?_;refine z.ld 0 (o:=0) (l:=li) (x:=x.kind) ?_;by_cases h9:x.kind=9
 .rw[BY h9] at hr;cases hr;rw[BY (by simpa using h9)];refine z.ld 0 (o:=1) (l:=.str) (x:=x.text) ?_;cases he:pj x.text (ofBytes []) with
  |false=>rw[By (by simp),ah];exact⟨by simp,z.drop⟩
  |true=>
   rw[BY rfl];refine z.ld 0 (o:=2) (l:=.bool) (x:=x.ord) ?_;cases ho:x.ord with
   |true=>rw[By (by simp),ah];exact⟨by simp,z.drop⟩
   |false=>
    rw[BY (by simp)];refine z.ld 0 (o:=3) (l:=.sl) (x:=ks) ?_;rw[ah];exact⟨by simp[ik.len],z.drop⟩
 rw[By h9] at hr;rw[By (by simpa using h9)];by_cases h10:x.kind=10
 .rw[BY h10] at hr;cases hr;rw[BY (by simpa using h10)];refine z.ld 0 (o:=1) (l:=.str) (x:=x.text) ?_;cases he:pj x.text (ofBytes []) with
  |false=>rw[By (by simp),ah];exact⟨by simp,z.drop⟩
  |true=>
   rw[BY rfl];refine z.ld 0 (o:=3) (l:=.sl) (x:=ks) ?_;refine z.ld 0 (o:=4) (l:=.sl) (x:=is) ?_;rw[ah];refine⟨?_,z.drop⟩;rw[ik.len,ii.len];simp[Int.natCast_inj]
 rw[By h10] at hr;rw[By (by simpa using h10)];by_cases h11:x.kind=11
 .rw[BY h11] at hr;cases hr
 rw[By h11] at hr;rw[By (by simpa using h11)];refine z.ld 0 (o:=2) (l:=.bool) (x:=x.ord) ?_;cases ho:x.ord with
 |true=>
  rw[ho,By (by simp)] at hr;cases hr;rw[By (by simp),ah];exact⟨rfl,z.drop⟩
 |false=>
  rw[ho] at hr;rw[BY (by simp)];refine z.ld 0 (o:=3) (l:=.sl) (x:=ks) ?_;by_cases hk:x.keys.length=0
  .rw[BY (by simp[ik.len,hk])];refine z.ld 0 (o:=4) (l:=.sl) (x:=is) ?_;by_cases hi:x.items.length=0
   .rw[BY (by simp[ii.len,hi])];rw[BY ⟨rfl,hk,hi⟩] at hr;refine z.ld 0 (o:=0) (l:=li) (x:=x.kind) ?_;refine z.ld 0 (o:=1) (l:=.str) (x:=x.text) ?_;rw[ag];refine (OL z hs hn hr).mono λy h' hy=>?_;rw[ah];exact⟨hy.1,hy.2.drop⟩
   .rw[By (by simp[ii.len];exact λe=>hi (by simp[e])),ah];rw[By (λe=>hi e.2.2)] at hr;cases hr;exact⟨rfl,z.drop⟩
  .rw[By (by simp[ik.len];exact λe=>hk (by simp[e])),ah];rw[By (λe=>hk e.2.1)] at hr;cases hr;exact⟨rfl,z.drop⟩
end
section
variable {α β:Type}{h h' h0:af}{L:List dh}{Q:β->af->Prop}
mutual
def same:Nat->List aq->Int->Int->Option Bool
 |0,_,_,_=>none
 |k+1,N,i,j=>match gt N i,gt N j with
  |some x,some y=>
   if x.kind≠y.kind then some false
   else if pj x.text y.text=false then some false
   else if x.ord≠y.ord then some false
   else if x.items.length≠y.items.length then some false
   else if x.kind=10/\x.ord=false then IJ k N x y 0
   else Df k N x y 0
  |_,_=>none
def IJ:Nat->List aq->aq->aq->Nat->Option Bool
 |0,_,_,_,_=>none
 |k+1,N,x,y,i=>match x.keys[i]? with
  |none=>some true
  |some kx=>match A6 k N x y i kx 0 false with
   |none=>none
   |some false=>some false
   |some true=>IJ k N x y (i+1)
def A6:Nat->List aq->aq->aq->Nat->Int->Nat->Bool->Option Bool
 |0,_,_,_,_,_,_,_=>none
 |k+1,N,x,y,i,kx,j,b=>match y.keys[j]? with
  |none=>some b
  |some ky=>match b with
   |true=>A6 k N x y i kx (j+1) true
   |false=>match same k N kx ky with
    |none=>none
    |some false=>A6 k N x y i kx (j+1) false
    |some true=>match x.items[i]?,y.items[j]? with
     |some p,some q=>match same k N p q with
      |none=>none
      |some c=>A6 k N x y i kx (j+1) c
     |_,_=>none
def Df:Nat->List aq->aq->aq->Nat->Option Bool
 |0,_,_,_,_=>none
 |k+1,N,x,y,i=>match x.items[i]? with
  |none=>some true
  |some p=>match y.items[i]? with
   |none=>none
   |some q=>
    if x.kind=10 then match x.keys[i]?,y.keys[i]? with
     |some kx,some ky=>match same k N kx ky with
      |none=>none
      |some false=>some false
      |some true=>match same k N p q with
       |none=>none
       |some false=>some false
       |some true=>Df k N x y (i+1)
     |_,_=>none
    else match same k N p q with
     |none=>none
     |some false=>some false
     |some true=>Df k N x y (i+1)
end
def SO (b8 b9 b0:Nat)(x y:aq)(kx ix ky iy s:Sl)(root:Int):List dh:=
 [.aD b8 [vi x.kind,.string x.text,.bool x.ord,aS kx,aS ix] aH,.aD b9 [vi y.kind,.string y.text,.bool y.ord,aS ky,aS iy] aH,.aD b0 [aS s,vi root] aj]
structure S4 (h0:af) (B:Nat) (x y:aq) (kx ix ky iy:Sl):Prop where
 kx:IL h0 kx x.keys
 ix:IL h0 ix x.items
 ky:IL h0 ky y.keys
 iy:IL h0 iy y.items
 b1:x.keys.length<=B
 b2:x.items.length<=B
 b3:y.keys.length<=B
 b4:y.items.length<=B
theorem aY {l:List α}{i:Nat}{x:α}(hx:l[i]?=some x):i<l.length:=(List.getElem?_eq_some_iff.1 hx).1
theorem Ax {l:List α}{i:Nat}(hx:l[i]?=none):l.length<=i:=List.getElem?_eq_none_iff.1 hx
theorem IK {s:Sl}{root:Int}{N:List aq}(G:mE h0 s N){B:Nat}(hB:Bd N B) :
  ∀(k:Nat),(∀(n:Nat) (i j:Int) (r:Bool) (h:af) (L:List dh),k<=n->same k N i j=some r->Z h0 h L->Wp (gj n (s,root) i j) h λx h'=>x=r/\Z h0 h' L) /\
   (∀(n i:Nat) (r:Bool) (x y:aq) (kx ix ky iy:Sl) (b8 b9 b0:Nat) (h:af) (L:List dh),k<=n->IJ k N x y i=some r->S4 h0 B x y kx ix ky iy->i<=x.keys.length->Z h0 h (SO b8 b9 b0 x y kx ix ky iy s root++L) ->
    Wp (iL n (aw b0) (aw b8) (aw b9) kx (kx.len:Int) (i:Int)) h λz h'=>z=(if r then .inl () else .inr false)/\Z h0 h' (SO b8 b9 b0 x y kx ix ky iy s root++L)) /\
   (∀(n i j:Nat) (v:Int) (b r:Bool) (x y:aq) (kx ix ky iy a6:Sl) (a7:Int) (b8 b9 b0:Nat) (h:af) (L:List dh),k<=n->A6 k N x y i v j b=some r->S4 h0 B x y kx ix ky iy->j<=y.keys.length->Z h0 h (SO b8 b9 b0 x y kx ix ky iy s root++L) ->
    Wp (fA n (aw b0) (aw b8) (aw b9) (i:Int) v b a6 a7 (i:Int) ky (ky.len:Int) (j:Int)) h λz h'=>z=r/\Z h0 h' (SO b8 b9 b0 x y kx ix ky iy s root++L)) /\
   (∀(n i:Nat) (r:Bool) (x y:aq) (kx ix ky iy:Sl) (b8 b9 b0:Nat) (h:af) (L:List dh),k<=n->Df k N x y i=some r->S4 h0 B x y kx ix ky iy->i<=x.items.length->Z h0 h (SO b8 b9 b0 x y kx ix ky iy s root++L) ->
    Wp (eM n (aw b0) (aw b8) (aw b9) (ix.len:Int) (i:Int)) h λz h'=>z=(if r then .inl () else .inr false)/\Z h0 h' (SO b8 b9 b0 x y kx ix ky iy s root++L)):=by
 intro k
 induction k with
 |zero=>grind [same,IJ,A6,Df]
 |succ k ih=>
  obtain⟨ih1,ih2,ih3,ih4⟩:=ih;refine⟨λn i j r h L hn hv z=>?_,λn i r x y kx ix ky iy b8 b9 b0 h L hn hv S hi z=>?_,λn i j v b r x y kx ix ky iy a6 a7 b8 b9 b0 h L hn hv S hj z=>?_,λn i r x y kx ix ky iy b8 b9 b0 h L hn hv S hi z=>?_⟩
  .obtain⟨n,rfl⟩:∃m,n=m+1:=⟨n-1,by omega⟩;rw[Bj];unfold om;rw[same] at hv;cases hx:gt N i with
   |none=>rw[hx] at hv;cases hv
   |some x=>
   cases hy:gt N j with
   |none=>rw[hx,hy] at hv;cases hv
   |some y=>
   rw[hx,hy] at hv;simp only at hv;obtain⟨x1,x2⟩:=bH hx;obtain⟨y1,y2⟩:=bH hy;refine z.new λb0 h1 z _=>?_;refine z.dT [10,11] (by decide) (by decide) λnb h2 z=>?_;refine z.ld 2 (o:=0) (l:=.sl) ?_;refine G.Yx z x1 x2 λa kx ix nx=>(nx.fr z.fr).jV ?_;refine z.ld 2 (o:=0) (l:=.sl) ?_;refine G.Yx z y1 y2 λa2 ky iy ny=>(ny.fr z.fr).jV ?_;refine z.newAt 0 λh3 z=>z.newAt 1 λh4 z=>?_;refine z.XT 0 ?_ λh5 z=>z.st 1 λh6 z=>?_
   .intro a' ha';simp only[abz,IN,abw,ab9] at ha';rcases ha' with rfl|rfl
    .exact z.VX 0 2 rfl rfl (by decide)
    .obtain⟨g,c⟩:=ny.cl;exact z.nb0 0 c rfl
   have z:Z h0 h6 (SO (nb+10) (nb+11) b0 x y kx ix ky iy s root++L):=z;have hbx:=hB.2.2 x (OF x2);have hby:=hB.2.2 y (OF y2);have S:S4 h0 B x y kx ix ky iy:=⟨nx.keys,nx.items,ny.keys,ny.items,hbx.1,hbx.2,hby.1,hby.2⟩;have dr:∀{h},Z h0 h (SO (nb+10) (nb+11) b0 x y kx ix ky iy s root++L)->Z h0 h L:=λz=>z.drop.drop.drop;refine z.ld 0 (o:=0) (l:=li) (x:=x.kind) ?_;refine z.ld 1 (o:=0) (l:=li) (x:=y.kind) ?_;by_cases e1:x.kind=y.kind
   case neg=>
    rw[BY e1] at hv;cases hv;rw[BY (by simpa using e1),ah];exact⟨rfl,dr z⟩
   rw[By (by simpa using e1)] at hv;rw[By (by simpa using e1)];refine z.ld 0 (o:=1) (l:=.str) (x:=x.text) ?_;refine z.ld 1 (o:=1) (l:=.str) (x:=y.text) ?_;cases e2:pj x.text y.text with
   |false=>
    rw[BY e2] at hv;cases hv;rw[BY (by rfl),ah];exact⟨rfl,dr z⟩
   |true=>
   rw[By (by simp[e2])] at hv;rw[By (by simp)];refine z.ld 0 (o:=2) (l:=.bool) (x:=x.ord) ?_;refine z.ld 1 (o:=2) (l:=.bool) (x:=y.ord) ?_;by_cases e3:x.ord=y.ord
   case neg=>
    rw[BY e3] at hv;cases hv;rw[BY (by simpa using e3),ah];exact⟨rfl,dr z⟩
   rw[By (by simpa using e3)] at hv;rw[By (by simpa using e3)];refine z.ld 0 (o:=4) (l:=.sl) (x:=ix) ?_;refine z.ld 1 (o:=4) (l:=.sl) (x:=iy) ?_;rw[S.ix.len,S.iy.len];by_cases e4:x.items.length=y.items.length
   case neg=>
    rw[BY e4] at hv;cases hv;rw[BY (by simp;omega),ah];exact⟨rfl,dr z⟩
   rw[By (by simpa using e4)] at hv;rw[By (by simp;omega)];unfold ni;have fin:∀{z:Unit⊕Bool} {h'} {g1:Unit->M Bool} {g2:Bool->M Bool},(z=(if r then .inl () else .inr false)/\Z h0 h' (SO (nb+10) (nb+11) b0 x y kx ix ky iy s root++L))->(g1=λ_=>AS true)->(g2=λx=>AS x) ->
     Wp (cn g1 g2 z) h' λx h'=>x=r/\Z h0 h' L:=by
    intro z h' g1 g2 hz e1 e2;obtain⟨rfl,z⟩:=hz;subst e1 e2;cases r with
    |true=>exact ah.2 ⟨rfl,dr z⟩
    |false=>exact ah.2 ⟨rfl,dr z⟩
   refine z.ld 0 (o:=0) (l:=li) (x:=x.kind) ?_;by_cases e5:x.kind=10
   .rw[BY (by simpa using e5)];refine z.ld 0 (o:=2) (l:=.bool) (x:=x.ord) ?_;cases e6:x.ord with
    |false=>
     rw[BY ⟨e5,e6⟩] at hv;rw[BY (by rfl)];refine z.ld 0 (o:=3) (l:=.sl) (x:=kx) ?_;rw[ag];exact (ih2 n 0 r x y kx ix ky iy _ _ _ _ L (by omega) hv S (by omega) z).mono λ_ h' hz=>fin hz rfl rfl
    |true=>
     rw[By (by simp[e6])] at hv;rw[By (by simp)];refine z.ld 0 (o:=4) (l:=.sl) (x:=ix) ?_;rw[ag];exact (ih4 n 0 r x y kx ix ky iy _ _ _ _ L (by omega) hv S (by omega) z).mono λ_ h' hz=>fin hz rfl rfl
   .rw[By (by simpa using e5)];rw[By (λe=>e5 e.1)] at hv;refine z.ld 0 (o:=4) (l:=.sl) (x:=ix) ?_;rw[ag];exact (ih4 n 0 r x y kx ix ky iy _ _ _ _ L (by omega) hv S (by omega) z).mono λ_ h' hz=>fin hz rfl rfl
  .obtain⟨n,rfl⟩:∃m,n=m+1:=⟨n-1,by omega⟩;rw[yD];unfold la;rw[S.kx.len];rw[IJ] at hv;cases hx:x.keys[i]? with
   |none=>
    rw[hx] at hv;cases hv;have:=Ax hx;rw[By (by simp;omega),ah];exact⟨rfl,z⟩
   |some v=>
    rw[hx] at hv;simp only at hv;have hlt:=aY hx;rw[BY (by simp;omega)];refine (S.kx.fr z.fr).ix (by omega) (by simpa using hx) λa1 g c=>c.uI (l:=li) rfl rfl ?_;refine z.ld 1 (o:=3) (l:=.sl) (x:=ky) ?_;cases hf:A6 k N x y i v 0 false with
    |none=>rw[hf] at hv;cases hv
    |some b=>
     rw[hf] at hv;rw[ag];refine (ih3 n i 0 v false b x y kx ix ky iy kx _ _ _ _ _ L (by omega) hf S (by omega) z).mono λb' h2 hz=>?_;obtain⟨rfl,z⟩:=hz;cases b' with
     |false=>
      cases hv;rw[BY (by rfl),ah];exact⟨rfl,z⟩
     |true=>
      rw[By (by simp),vV hi (by have:=S.b1;have:=hB.2.1;omega)];have:=ih2 n (i+1) r x y kx ix ky iy _ _ _ _ L (by omega) hv S (by omega) z
      rwa [S.kx.len] at this
  .obtain⟨n,rfl⟩:∃m,n=m+1:=⟨n-1,by omega⟩;rw[yC];unfold k9;rw[S.ky.len];rw[A6] at hv;cases hx:y.keys[j]? with
   |none=>
    rw[hx] at hv;cases hv;have:=Ax hx;rw[By (by simp;omega),ah];exact⟨rfl,z⟩
   |some w=>
    rw[hx] at hv;simp only at hv;have hlt:=aY hx;rw[BY (by simp;omega)];refine (S.ky.fr z.fr).ix (by omega) (by simpa using hx) λa1 g c=>c.uI (l:=li) rfl rfl ?_;rw[vV hj (by have:=S.b3;have:=hB.2.1;omega)];cases b with
    |true=>
     simp only at hv;rw[BY rfl];have:=ih3 n i (j+1) v true r x y kx ix ky iy a6 a7 _ _ _ _ L (by omega) hv S (by omega) z
     rwa [S.ky.len] at this
    |false=>
     simp only at hv;rw[By (by simp)];refine z.jV 2 (ls:=[.sl,li]) (x:=(s,root)) ?_;cases hs:same k N v w with
     |none=>rw[hs] at hv;cases hv
     |some b1=>
      rw[hs] at hv;rw[ag];refine (ih1 n v w b1 h _ (by omega) hs z).mono λb' h2 hz=>?_;obtain⟨rfl,z⟩:=hz;cases b' with
      |false=>
       simp only at hv;rw[By (by simp)];have:=ih3 n i (j+1) v false r x y kx ix ky iy a6 a7 _ _ _ _ L (by omega) hv S (by omega) z
       rwa [S.ky.len] at this
      |true=>
       simp only at hv;rw[BY rfl];refine z.jV 2 (ls:=[.sl,li]) (x:=(s,root)) ?_;cases hp:x.items[i]? with
       |none=>rw[hp] at hv;cases hv
       |some p=>
       cases hq:y.items[j]? with
       |none=>rw[hp,hq] at hv;cases hv
       |some q=>
       rw[hp,hq] at hv;simp only at hv;refine z.ld 0 (o:=4) (l:=.sl) (x:=ix) ?_;refine (S.ix.fr z.fr).ix (by omega) (by simpa using hp) λa1 g c=>c.uI (l:=li) rfl rfl ?_;refine z.ld 1 (o:=4) (l:=.sl) (x:=iy) ?_;refine (S.iy.fr z.fr).ix (by omega) (by simpa using hq) λa1 g c=>c.uI (l:=li) rfl rfl ?_;cases hs2:same k N p q with
       |none=>rw[hs2] at hv;cases hv
       |some b2=>
        rw[hs2] at hv;simp only at hv;rw[ag];refine (ih1 n p q b2 _ _ (by omega) hs2 z).mono λb' h3 hz=>?_;obtain⟨rfl,z⟩:=hz;have:=ih3 n i (j+1) v b' r x y kx ix ky iy a6 a7 _ _ _ _ L (by omega) hv S (by omega) z
        rwa [S.ky.len] at this
  .obtain⟨n,rfl⟩:∃m,n=m+1:=⟨n-1,by omega⟩;rw[yE];unfold lg;rw[S.ix.len];rw[Df] at hv;cases hp:x.items[i]? with
   |none=>
    rw[hp] at hv;cases hv;have:=Ax hp;rw[By (by simp;omega),ah];exact⟨rfl,z⟩
   |some p=>
   cases hq:y.items[i]? with
   |none=>rw[hp,hq] at hv;cases hv
   |some q=>
   rw[hp,hq] at hv;simp only at hv;have hlt:=aY hp;rw[BY (by simp;omega)];rw[vV hi (by have:=S.b2;have:=hB.2.1;omega)];refine z.ld 0 (o:=0) (l:=li) (x:=x.kind) ?_;have nxt:∀{h},Df k N x y (i+1)=some r->Z h0 h (SO b8 b9 b0 x y kx ix ky iy s root++L)->Wp ((aX.at n).eM (aw b0) (aw b8) (aw b9) (x.items.length:Int) ((i+1:Nat):Int)) h λz h'=>z=(if r then .inl () else .inr false)/\Z h0 h' (SO b8 b9 b0 x y kx ix ky iy s root++L):=by
    intro h hv z;have:=ih4 n (i+1) r x y kx ix ky iy _ _ _ _ L (by omega) hv S (by omega) z
    rwa [S.ix.len] at this
   by_cases e5:x.kind=10
   .rw[BY e5] at hv;rw[BY (by simpa using e5)];cases hk:x.keys[i]? with
    |none=>rw[hk] at hv;cases hv
    |some v=>
    cases hk2:y.keys[i]? with
    |none=>rw[hk,hk2] at hv;cases hv
    |some w=>
    rw[hk,hk2] at hv;simp only at hv;refine z.jV 2 (ls:=[.sl,li]) (x:=(s,root)) ?_;refine z.ld 0 (o:=3) (l:=.sl) (x:=kx) ?_;refine (S.kx.fr z.fr).ix (by omega) (by simpa using hk) λa1 g c=>c.uI (l:=li) rfl rfl ?_;refine z.ld 1 (o:=3) (l:=.sl) (x:=ky) ?_;refine (S.ky.fr z.fr).ix (by omega) (by simpa using hk2) λa1 g c=>c.uI (l:=li) rfl rfl ?_;cases hs:same k N v w with
    |none=>rw[hs] at hv;cases hv
    |some b1=>
    rw[hs] at hv;rw[ag];refine (ih1 n v w b1 h _ (by omega) hs z).mono λb' h2 hz=>?_;obtain⟨rfl,z⟩:=hz;cases b' with
    |false=>
     cases hv;rw[BY (by rfl),ah];exact⟨rfl,z⟩
    |true=>
     simp only at hv;rw[By (by simp)];refine z.jV 2 (ls:=[.sl,li]) (x:=(s,root)) ?_;refine z.ld 0 (o:=4) (l:=.sl) (x:=ix) ?_;refine (S.ix.fr z.fr).ix (by omega) (by simpa using hp) λa1 g c=>c.uI (l:=li) rfl rfl ?_;refine z.ld 1 (o:=4) (l:=.sl) (x:=iy) ?_;refine (S.iy.fr z.fr).ix (by omega) (by simpa using hq) λa1 g c=>c.uI (l:=li) rfl rfl ?_;cases hs2:same k N p q with
     |none=>rw[hs2] at hv;cases hv
     |some b2=>
     rw[hs2] at hv;rw[ag];refine (ih1 n p q b2 _ _ (by omega) hs2 z).mono λb' h3 hz=>?_;obtain⟨rfl,z⟩:=hz;cases b' with
     |false=>
      cases hv;rw[BY (by rfl),ah];exact⟨rfl,z⟩
     |true=>
      simp only at hv;rw[By (by simp)];exact nxt hv z
   .rw[By e5] at hv;rw[By (by simpa using e5)];refine z.jV 2 (ls:=[.sl,li]) (x:=(s,root)) ?_;refine z.ld 0 (o:=4) (l:=.sl) (x:=ix) ?_;refine (S.ix.fr z.fr).ix (by omega) (by simpa using hp) λa1 g c=>c.uI (l:=li) rfl rfl ?_;refine z.ld 1 (o:=4) (l:=.sl) (x:=iy) ?_;refine (S.iy.fr z.fr).ix (by omega) (by simpa using hq) λa1 g c=>c.uI (l:=li) rfl rfl ?_;cases hs2:same k N p q with
    |none=>rw[hs2] at hv;cases hv
    |some b2=>
    rw[hs2] at hv;rw[ag];refine (ih1 n p q b2 _ _ (by omega) hs2 z).mono λb' h3 hz=>?_;obtain⟨rfl,z⟩:=hz;cases b' with
    |false=>
     cases hv;rw[BY (by rfl),ah];exact⟨rfl,z⟩
    |true=>
     simp only at hv;rw[By (by simp)];exact nxt hv z
theorem TG {s:Sl}{root:Int}{N:List aq}(z:Z h0 h L)(G:mE h0 s N){B:Nat}(hB:Bd N B){k n:Nat}{i j:Int}{r:Bool}(hn:k<=n)(hv:same k N i j=some r):Wp (gj n (s,root) i j) h λx h'=>x=r/\Z h0 h' L:=
 (IK G hB k).1 n i j r h L hn hv z
end
section
variable {α β:Type}{h h' h0:af}{L:List dh}{Q:β->af->Prop}
def isKey (N:List aq)(k:Int)(t:ζ)(y:Int):Bool:=match gt N y with
 |some n=>decide (k=n.kind)&&pj t n.text
 |none=>false
def WK (k:Nat)(N:List aq)(x:Int):ε->Option Bool
 |[]=>some false
 |y::ys=>match same k N x y with
  |none=>none
  |some true=>some true
  |some false=>WK k N x ys
def TH (k:Nat)(N:List aq):ε->ε->Option Bool
 |_,[]=>some false
 |met,x::xs=>match gt N x with
  |none=>none
  |some n=>match WK k N x (met.filter (isKey N n.kind n.text)) with
   |none=>none
   |some true=>some true
   |some false=>TH k N (met++[x]) xs
def Hi (k:Nat)(N:List aq):List aq->Option Bool
 |[]=>some false
 |x::xs=>match TH k N [] x.keys with
  |none=>none
  |some true=>some true
  |some false=>Hi k N xs
structure Ay where
 kind:Int
 text:ζ
 s:Sl
 g:Nat
 xs:ε
def Ay.own (e:Ay):dh:=.ps e.s 1 ay (e.xs.map vi) e.g
def wN (k:Int)(t:ζ):ξ:=Value.agg #[vi k,Value.string t]
theorem BT (k k':Int)(t t':ζ):vF (wN k t) (wN k' t')=(decide (k=k')&&pj t t'):=by
 show xj [vi k,Value.string t] [vi k',Value.string t']=_;unfold xj xj xj;show (((KX .i64 .i64&&decide (k=k')))&&(pj t t'&&true))=_;rw[show KX .i64 .i64=true from rfl];simp
theorem vr (a:ζ):pj a a=true:=(GY a a).2 rfl
def lk:List Ay->Int->ζ->Option (Nat×Ay)
 |[],_,_=>none
 |e::r,k,t=>if (decide (k=e.kind)&&pj t e.text)=true then some (0,e) else (lk r k t).map λp=>(p.1+1,p.2)
theorem L7:∀{E:List Ay} {k:Int} {t:ζ} {i:Nat} {e:Ay},lk E k t=some (i,e)->E[i]?=some e/\k=e.kind/\t=e.text
 |[],k,t,i,e,hl=>by cases hl
 |x::r,k,t,i,e,hl=>by
  rw[lk] at hl;split at hl
  .rename_i hc;cases hl;simp at hc;exact⟨rfl,hc.1,yo hc.2⟩
  .cases hr:lk r k t with
   |none=>rw[hr] at hl;cases hl
   |some p=>
    rw[hr] at hl;cases hl;have:=L7 (i:=p.1) (e:=p.2) hr;exact⟨by simpa using this.1,this.2⟩
theorem Ro:∀{E:List Ay} {k:Int} {t:ζ} {i:Nat} {e e':Ay},lk E k t=some (i,e)->e'.kind=k->e'.text=t->∀k' t',lk (E.set i e') k' t'=if (decide (k'=k)&&pj t' t)=true then some (i,e') else lk E k' t'
 |[],k,t,i,e,e',hl,_,_=>by cases hl
 |x::r,k,t,i,e,e',hl,h1,h2=>by
  intro k' t';rw[lk] at hl;split at hl
  .rename_i hc;cases hl;simp at hc;rw[abp,lk,h1,h2];split
   .rfl
   .rename_i hn;rw[lk,By];rw[<-hc.1,<-yo hc.2];exact hn
  .rename_i hc;cases hr:lk r k t with
   |none=>rw[hr] at hl;cases hl
   |some p=>
    rw[hr] at hl;cases hl;rw[abo,lk,Ro (i:=p.1) (e:=p.2) hr h1 h2 k' t',lk];by_cases hx:(decide (k'=x.kind)&&pj t' x.text)=true
    .rw[BY hx,BY hx,By]
     grind [yo]
    .rw[By hx,By hx];split<;>rfl
structure Rp (N:List aq) (E:List Ay) (met:ε) (f:ξ->Option ξ):Prop where
 f:∀k t,f (wN k t)=(lk E k t).map λp=>aS p.2.s
 nn:∀k t,lk E k t=none->met.filter (isKey N k t)=[]
 ss:∀k t i e,lk E k t=some (i,e)->e.xs=met.filter (isKey N k t)
theorem Rp.nil (N:List aq):Rp N [] [] λ_=>none:=⟨λ_ _=>rfl,λ_ _ _=>rfl,λ_ _ _ _ hl=>by cases hl⟩
theorem vt {N:List aq}{met:ε}{x:Int}{n:aq}(hn:gt N x=some n)(k:Int)(t:ζ) :
  (met++[x]).filter (isKey N k t)=met.filter (isKey N k t)++if (decide (k=n.kind)&&pj t n.text)=true then [x] else []:=by
 grind [isKey,isKey]
theorem Rp.mY {N:List aq}{E:List Ay}{met:ε}{f:ξ->Option ξ}(I:Rp N E met f){x:Int}{n:aq}(hn:gt N x=some n){i:Nat}{e:Ay}(hl:lk E n.kind n.text=some (i,e))(s:Sl)(g:Nat) :
  Rp N (E.set i ⟨n.kind,n.text,s,g,e.xs++[x]⟩) (met++[x]) (zj f (wN n.kind n.text) (aS s)):=by
 have hs:=Ro (e':=⟨n.kind,n.text,s,g,e.xs++[x]⟩) hl rfl rfl;refine⟨λk t=>?_,λk t h1=>?_,λk t j e2 h1=>?_⟩
 .rw[hs,zj,BT];split
  .rename_i hc;rfl
  .rename_i hc;exact I.f k t
 .rw[hs] at h1;rw[vt hn];split at h1
  .cases h1
  .rename_i hc;rw[By hc,I.nn k t h1];rfl
 .rw[hs] at h1;rw[vt hn];split at h1
  .rename_i hc;cases h1;rw[BY hc];simp at hc;rw[hc.1,yo hc.2,<-I.ss _ _ _ _ hl]
  .rename_i hc;rw[By hc,aaF,<-I.ss _ _ _ _ h1]
theorem Rp.add {N:List aq}{E:List Ay}{met:ε}{f:ξ->Option ξ}(I:Rp N E met f){x:Int}{n:aq}(hn:gt N x=some n)(hl:lk E n.kind n.text=none)(s:Sl)(g:Nat)(f':ξ->Option ξ)
  (hf:∀k t,f' (wN k t)=if (decide (k=n.kind)&&pj t n.text)=true then some (aS s) else f (wN k t)) :
  Rp N (⟨n.kind,n.text,s,g,[x]⟩::E) (met++[x]) f':=by
 refine⟨λk t=>?_,λk t h1=>?_,λk t j e2 h1=>?_⟩
 .rw[hf,lk];split
  .rfl
  .rw[I.f,Option.map_map];rfl
 .rw[lk] at h1;rw[vt hn];split at h1
  .cases h1
  .rename_i hc;simp only[Option.map_eq_none_iff] at h1;rw[By hc,I.nn k t h1];rfl
 .rw[lk] at h1;rw[vt hn];split at h1
  .rename_i hc;cases h1;rw[BY hc];simp at hc;rw[hc.1,yo hc.2,I.nn _ _ hl];rfl
  .rename_i hc;cases hr:lk E k t with
   |none=>rw[hr] at h1;cases h1
   |some p=>
    rw[hr] at h1;cases h1;rw[By hc,aaF,<-I.ss k t p.1 p.2 hr]
theorem Vn {s:Sl}{root:Int}{N:List aq}(G:mE h0 s N){B:Nat}(hB:Bd N B){k:Nat}{x:Int}{sl:Sl}{ys:ε}(hl:ys.length<=B){o1:dh}{b0:Nat}(a1:μ)(a3:Addr)(a4:Sl)(a5 a6:Int)(a7:Sl)(a8 a9:Int)
  (hr:∀h',Z h0 h' (o1::.aD b0 [aS s,vi root] aj::L)->IL h' sl ys) (hsl:sl.len=ys.length) :
  ∀(n i:Nat) (r:Bool) (h:af),k+(ys.length-i)<n->i<=ys.length->WK k N x (ys.drop i)=some r->Z h0 h (o1::.aD b0 [aS s,vi root] aj::L) ->
   Wp (gG n (aw b0) a1 x a3 a4 a5 a6 a7 a8 a9 sl (sl.len:Int) (i:Int)) h λz h'=>z=(if r then .inr true else .inl ())/\Z h0 h' (o1::.aD b0 [aS s,vi root] aj::L):=by
 intro n
 induction n with
 |zero=>intro i r h h1;omega
 |succ n ih=>
  intro i r h h1 h2 hv z;rw[xn];unfold j9;rw[hsl];by_cases hi:i<ys.length
  .rw[BY (by simp;omega)];obtain⟨y,hy⟩:=gU hi;rw[drop_cons hy,WK] at hv;refine (hr h z).ix (by omega) (by simpa using hy) λa g c=>c.uI (l:=li) rfl rfl ?_;refine z.jV 1 (ls:=[.sl,li]) (x:=(s,root)) ?_;cases hs:same k N x y with
   |none=>rw[hs] at hv;cases hv
   |some b=>
    rw[hs] at hv;rw[ag];refine (TG z G hB (by omega) hs).mono λb' h3 hz=>?_;obtain⟨rfl,z⟩:=hz;cases b' with
    |true=>cases hv;rw[BY rfl,ah];exact⟨rfl,z⟩
    |false=>
     rw[By (by simp),vV h2 (by have:=hB.2.1;omega)];have:=ih (i+1) r h3 (by omega) (by omega) hv z
     rwa [hsl] at this
  .rw[By (by simp;omega),ah];have:ys.drop i=[]:=aah (by omega);rw[this] at hv;cases hv;exact⟨rfl,z⟩
theorem filter_le {N:List aq}{met:ε}(k:Int)(t:ζ):(met.filter (isKey N k t)).length<=met.length:=List.length_filter_le _ _
theorem Yb {s:Sl}{root:Int}{N:List aq}(G:mE h0 s N){B:Nat}(hB:Bd N B){k:Nat}{sl:Sl}{xs:ε}(il:IL h0 sl xs)(hl:xs.length<=B){b0 m:Nat}(a2:Sl)(a3 a4:Int) :
  ∀(n i:Nat) (r:Bool) (h:af) (E:List Ay) (met:ε) (f:ξ->Option ξ) (c:Nat),k+B+(xs.length-i)+2<n->i<=xs.length->met.length=i->TH k N met (xs.drop i)=some r->Rp N E met f ->
   Z h0 h (.aD b0 [aS s,vi root] aj::.map m cd f c::(E.map Ay.own++L)) ->
   Wp (fD n (aw b0) (some m) a2 a3 a4 sl (sl.len:Int) (i:Int)) h λz h'=>z=(if r then .inr true else .inl ())/\Z h0 h' (.aD b0 [aS s,vi root] aj::L):=by
 have hbig:B<=cN:=by have:=hB.2.1;unfold cN;omega
 have fin:∀{h:af} {E:List Ay} {f:ξ->Option ξ} {c:Nat},Z h0 h (.aD b0 [aS s,vi root] aj::.map m cd f c::(E.map Ay.own++L))->Z h0 h (.aD b0 [aS s,vi root] aj::L):=λz=>
  z.sub ((List.Sublist.cons _ (ab1 _ _)).cons₂ _)
 intro n
 induction n with
 |zero=>intro i r h E met f c h1;omega
 |succ n ih=>
  intro i r h E met f c h1 h2 hm hv I z;rw[xo];unfold kc;rw[il.len];by_cases hi:i<xs.length
  .rw[BY (by simp;omega)];obtain⟨x,hx⟩:=gU hi;rw[drop_cons hx,TH] at hv;cases hn:gt N x with
   |none=>rw[hn] at hv;cases hv
   |some nx=>
   rw[hn] at hv;simp only at hv;obtain⟨x1,x2⟩:=bH hn;refine (il.fr z.fr).ix (by omega) (by simpa using hx) λa g cl=>cl.uI (l:=li) rfl rfl ?_;refine z.dT [13] (by decide) (by decide) λnb h3 z=>?_;refine z.ld 1 (o:=0) (l:=.sl) ?_;refine G.at z x1 x2 λa1 k1 i1 n1 _ _=>n1.V1 ?_;refine z.ld 1 (o:=0) (l:=.sl) ?_;refine G.at z x1 x2 λa2' k2 i2 n2 _ _=>n2.Jv ?_;refine z.newAt 0 λh4 z=>z.st 0 λh5 z=>?_;refine z.jV 0 (ls:=[li,.str]) (x:=(nx.kind,nx.text)) ?_;have z:Z h0 h5 (.aD (nb+13) [vi nx.kind,.string nx.text] cd::.aD b0 [aS s,vi root] aj::.map m cd f c::(E.map Ay.own++L)):=z;have hfk:f (wN nx.kind nx.text)=(lk E nx.kind nx.text).map λp=>aS p.2.s:=I.f _ _;have hst:∀{E':List Ay} {f':ξ->Option ξ} {c':Nat} {h':af},Z h0 h' (.aD (nb+13) [vi nx.kind,.string nx.text] cd::.aD b0 [aS s,vi root] aj::.map m cd f' c'::(E'.map Ay.own++L))->Rp N E' (met++[x]) f'->TH k N (met++[x]) (xs.drop (i+1))=some r ->
     Wp (fD n (aw b0) (some m) a2 a3 a4 sl (xs.length:Int) (IntKind.i64.wrap ((i:Int)+1))) h' λz h'=>z=(if r then .inr true else .inl ())/\Z h0 h' (.aD b0 [aS s,vi root] aj::L):=by
    intro E' f' c' h' z I hv;rw[vV h2 (by have:=hB.2.1;omega)];have:=ih (i+1) r h' E' (met++[x]) f' c' (by omega) (by omega) (by simp[hm]) hv I z.drop
    rwa [il.len] at this
   cases hlk:lk E nx.kind nx.text with
   |none=>
    rw[hlk] at hfk;have hnil:=I.nn _ _ hlk;rw[hnil,WK] at hv;simp only at hv;refine z.fj 2 (k:=wN nx.kind nx.text) rfl (λv hv2=>by rw[hfk] at hv2;cases hv2) λ_=>?_;have hw:=Vn (L:=.map m cd f c::(E.map Ay.own++L)) (root:=root) G hB (k:=k) (x:=x) (sl:=jb) (ys:=[]) (o1:=.aD (nb+13) [vi nx.kind,.string nx.text] cd) (b0:=b0) (by simp) (some m) (aw (nb+13)) a2 a3 a4 sl (xs.length:Int) (i:Int) (λh' _=>⟨0,Bb.nil rfl⟩) rfl n 0 false h5 (by simp;omega) (by simp) rfl z;rw[ag];refine hw.mono λy h6 hy=>?_;obtain⟨rfl,z⟩:=hy;show Wp (AI _ _) h6 _;refine z.jV 0 (ls:=[li,.str]) (x:=(nx.kind,nx.text)) ?_;refine z.Ql 2 (k:=wN nx.kind nx.text) rfl (by rw[BT];simp[vr]) (λv hv2=>by rw[hfk] at hv2;cases hv2) λ_ h7 st z hs=>?_;have z:=z.add (Fr.refl z.wf) (o:=.ps ⟨none,0,0⟩ 1 ay [] 0) vA.nil (.inl rfl);refine z.M9 0 (new:=[vi x]) rfl (by decide) rfl (by show 0+1<=cN;decide) λs' h8 g' hs' z fr=>?_;have hs:=hs.fr fr (by simp);have z:Z h0 h8 (.ps s' 1 ay [vi x] g'::.aD (nb+13) [vi nx.kind,.string nx.text] cd::.aD b0 [aS s,vi root] aj::.map m cd (zj f (wN nx.kind nx.text) (zL (Ty.one .sl) jb)) (c+1)::(E.map Ay.own++L)):=z;refine z.Qm 3 rfl hs λh9 z=>?_;have z:Z h0 h9 (.ps s' 1 ay [vi x] g'::.aD (nb+13) [vi nx.kind,.string nx.text] cd::.aD b0 [aS s,vi root] aj::.map m cd (zj (zj f (wN nx.kind nx.text) (zL (Ty.one .sl) jb)) (wN nx.kind nx.text) (aS s')) (c+1)::(E.map Ay.own++L)):=z;have z:=z.perm (L':=.aD (nb+13) [vi nx.kind,.string nx.text] cd::.aD b0 [aS s,vi root] aj::.map m cd (zj (zj f (wN nx.kind nx.text) (zL (Ty.one .sl) jb)) (wN nx.kind nx.text) (aS s')) (c+1)::.ps s' 1 ay [vi x] g'::(E.map Ay.own++L)) (aca (l₁:=[_,_,_])).symm;refine hst (E':=⟨nx.kind,nx.text,s',g',[x]⟩::E) z (I.add hn hlk s' g' _ λk' t'=>?_) hv;unfold zj;rw[BT];split<;>rfl
   |some p=>
    obtain⟨j,e⟩:=p;rw[hlk] at hfk;obtain⟨e1,e2,e3⟩:=L7 hlk;have hxs:=I.ss _ _ _ _ hlk;have hjlt:=aY e1;rw[<-hxs] at hv;have hown:∀{f':ξ->Option ξ} {c':Nat},(.aD (nb+13) [vi nx.kind,.string nx.text] cd::.aD b0 [aS s,vi root] aj::.map m cd f' c'::(E.map Ay.own++L):List dh)[j+3]?=some (.ps e.s 1 ay (e.xs.map vi) e.g):=by
     intro f' c';simp only[aaO];rw[aau (by simpa using hjlt),aaj,e1];rfl
    have hlen:e.s.len=e.xs.length:=(vA.DE (z.get (j+3) hown)).CL;have hle:e.xs.length<=i:=(by rw[hxs,<-hm];exact filter_le _ _);refine z.fj 2 (k:=wN nx.kind nx.text) rfl (λv hv2=>?_) λhv2=>(by rw[hfk] at hv2;cases hv2);rw[hfk] at hv2;cases hv2;refine⟨e.s,rfl,?_⟩;cases hc:WK k N x e.xs with
    |none=>rw[hc] at hv;cases hv
    |some b=>
    rw[hc] at hv;have hw:=Vn (L:=.map m cd f c::(E.map Ay.own++L)) (root:=root) G hB (k:=k) (x:=x) (sl:=e.s) (ys:=e.xs) (o1:=.aD (nb+13) [vi nx.kind,.string nx.text] cd) (b0:=b0) (by omega) (some m) (aw (nb+13)) a2 a3 a4 sl (xs.length:Int) (i:Int) (λh' z=>⟨_,vA.DE (z.get (j+3) hown)⟩) hlen n 0 b h5 (by omega) (by omega) hc z;rw[ag];refine hw.mono λy h6 hy=>?_;obtain⟨rfl,z⟩:=hy;cases b with
    |true=>
     cases hv;exact ah.2 ⟨rfl,fin z.drop⟩
    |false=>
     simp only at hv;show Wp (AI _ _) h6 _;refine z.jV 0 (ls:=[li,.str]) (x:=(nx.kind,nx.text)) ?_;refine z.Ql 2 (k:=wN nx.kind nx.text) rfl (by rw[BT];simp[vr]) (λv hv2=>?_) λhv2=>(by rw[hfk] at hv2;cases hv2);rw[hfk] at hv2;cases hv2;refine⟨e.s,rfl,λst hs=>?_⟩;have hne:e.g≠m+1:=z.ne 2 (j+3) (o:=.map m cd f c) rfl hown (by omega) (by simp[dh.bG]);refine z.M9 (j+3) (new:=[vi x]) hown (by decide) rfl (by show e.s.len+1<=cN;omega) λs' h8 g' hs' z fr=>?_;have hs:=hs.fr fr (λe=>hne e.symm);refine z.Qm 2 (k:=wN nx.kind nx.text) (m:=m) (fn:=f) (n:=c) (kt:=cd) rfl hs λh9 z=>?_;refine hst (c':=c) (E':=E.set j ⟨nx.kind,nx.text,s',g',e.xs++[x]⟩) (z.perm ?_) (I.mY hn hlk s' g') hv;refine List.Perm.of_eq ?_;show dh.aD (nb+13) _ _::dh.aD b0 _ _::dh.map m _ _ _::((E.map Ay.own++L).set j _)=_;rw[acW _ _ (by simpa using hjlt),acg]
     congr 4
     simp[Ay.own]
  .rw[By (by simp;omega),ah];have:xs.drop i=[]:=aah (by omega);rw[this] at hv;rw[TH] at hv;cases hv;exact⟨rfl,fin z⟩
theorem Yc {s:Sl}{root:Int}{N:List aq}(G:mE h0 s N){B:Nat}(hB:Bd N B){k b0:Nat} :
  ∀(n i:Nat) (r:Bool) (h:af) (L:List dh),k+(N.length-i)+2*B+7<n->i<=N.length->Hi k N (N.drop i)=some r->Z h0 h (.aD b0 [aS s,vi root] aj::L) ->
   Wp (fE n (aw b0) s (s.len:Int) (i:Int)) h λz h'=>z=(if r then .inr true else .inl ())/\Z h0 h' L:=by
 intro n
 induction n with
 |zero=>intro i r h L h1;omega
 |succ n ih=>
  intro i r h L h1 h2 hv z;rw[xp];unfold ke;rw[G.len];by_cases hi:i<N.length
  .rw[BY (by simp;omega)];obtain⟨x,hx⟩:=gU hi;rw[drop_cons hx,Hi] at hv;have hbd:=hB.2.2 x (OF hx);refine G.at z (by omega) (by simpa using hx) λa ks is nd ik ii=>nd.jV ?_;refine z.node λx2 h2' z=>?_;refine z.Y2 λm h3 z=>?_;refine z.ld 1 (o:=3) (l:=.sl) (x:=ks) ?_;cases hk:TH k N [] x.keys with
   |none=>rw[hk] at hv;cases hv
   |some b=>
    rw[hk] at hv;have z:=z.perm (L':=.aD b0 [aS s,vi root] aj::.map m cd (λ_=>none) 0::([]++(.aD x2 [vi x.kind,.string x.text,.bool x.ord,aS ks,aS is] aH::L))) ((aca (l₁:=[_,_])).trans (ab4 _));rw[ag];refine (Yb (k:=k) G hB ik hbd.1 s (N.length:Int) (i:Int) n 0 b h3 [] [] _ 0 (by omega) (by omega) rfl (by simpa using hk) (Rp.nil N) z).mono λy h4 hy=>?_;obtain⟨rfl,z⟩:=hy;have z:=(z.perm (List.Perm.swap _ _ _)).drop;cases b with
    |true=>cases hv;exact ah.2 ⟨rfl,z.drop⟩
    |false=>
     simp only at hv;show Wp (fE n _ _ _ _) h4 _;rw[vV h2 (by have:=hB.1;have:=hB.2.1;omega)];have:=ih (i+1) r h4 L (by omega) (by omega) hv z
     rwa [G.len] at this
  .rw[By (by simp;omega),ah];have:N.drop i=[]:=aah (by omega);rw[this] at hv;cases hv;exact⟨rfl,z.drop⟩
theorem Rq {s:Sl}{root:Int}{N:List aq}(z:Z h0 h L)(G:mE h0 s N){B:Nat}(hB:Bd N B){k n:Nat}(hn:k+3*B+8<n){r:Bool}(hr:Hi k N N=some r) :
  Wp (nL n (s,root)) h λx h'=>x=r/\Z h0 h' L:=by
 unfold nL;refine z.new λx0 h1 z _=>?_;refine z.ld 0 (o:=0) (l:=.sl) ?_;rw[ag];refine (Yc G hB (k:=k) n 0 r h1 L (by have:=hB.1;omega) (by omega) (by simpa using hr) z).mono λy h2 hy=>?_;obtain⟨rfl,z⟩:=hy;cases r with
 |true=>exact ah.2 ⟨rfl,z⟩
 |false=>exact ah.2 ⟨rfl,z⟩
end
section
variable {α β:Type}{h h' h0:af}{L:List dh}{Q:β->af->Prop}
structure TS where
 next:Int
 ix:ε
 lo:ε
 nn:ε
 on:List Bool
 j5:ε
 nk:ε
def mn (a b:Int):Int:=if b<a then b else a
def IM (a:Int)(st:TS):Option TS:=
 if st.j5.length+1<=cN/\st.nk.length+1<=cN/\(gt st.ix a).isSome/\(gt st.lo a).isSome/\(gt st.on a).isSome then
  let nx:=IntKind.i64.wrap (st.next+1)
  some { st with next:=nx,ix:=st.ix.set a.toNat nx,lo:=st.lo.set a.toNat nx,j5:=st.j5++[a],on:=st.on.set a.toNat true }
 else none
def Rr (a v:Int)(st:TS):Option TS:=match gt st.lo a with
 |none=>none
 |some w=>some { st with lo:=st.lo.set a.toNat (mn w v) }
def tp:Nat->Int->TS->Int->Option (TS×Int)
 |0,_,_,_=>none
 |k+1,a,st,n=>match st.j5.getLast? with
  |none=>none
  |some x=>
   if (gt st.on x).isSome/\(gt st.nn x).isSome/\st.j5.length<=cN then
    let st1:={ st with j5:=st.j5.dropLast,on:=st.on.set x.toNat false,nn:=st.nn.set x.toNat (st.nk.length:Int) }
    if x=a then some (st1,IntKind.i64.wrap (n+1)) else tp k a st1 (IntKind.i64.wrap (n+1))
   else none
mutual
def tv:Nat->List aq->Int->TS->Option TS
 |0,_,_,_=>none
 |k+1,N,a,st=>match IM a st with
  |none=>none
  |some st1=>match gt N a with
   |none=>none
   |some x=>match tl k N a x.keys st1 with
    |none=>none
    |some st2=>match tl k N a x.items st2 with
     |none=>none
     |some st3=>match gt st3.lo a,gt st3.ix a with
      |some l,some i=>
       if l≠i then some st3 else match tp k a st3 0 with
        |none=>none
        |some (st4,n)=>if st4.nk.length+1<=cN then some { st4 with nk:=st4.nk++[n] } else none
      |_,_=>none
def tl:Nat->List aq->Int->ε->TS->Option TS
 |0,_,_,_,_=>none
 |_+1,_,_,[],st=>some st
 |k+1,N,a,x::xs,st=>match ts k N a x st with
  |none=>none
  |some st1=>tl k N a xs st1
def ts:Nat->List aq->Int->Int->TS->Option TS
 |0,_,_,_,_=>none
 |k+1,N,a,x,st=>match gt st.ix x with
  |none=>none
  |some i=>
   if i=0 then match tv k N x st with
    |none=>none
    |some st1=>match gt st1.lo x with
     |none=>none
     |some l=>Rr a l st1
   else match gt st.on x with
    |none=>none
    |some false=>some st
    |some true=>Rr a i st
end
structure TC where
 c1:Nat
 c2:Nat
 c3:Nat
 c4:Nat
 c5:Nat
 c6:Nat
 c7:Nat
 c8:Nat
 c9:Nat
 bi:Nat
 bl:Nat
 bn:Nat
 bo:Nat
def pv (b:Nat):ξ:=Value.pointer (some (aw b))
def fnC (C:TC):ξ:=Value.func (Fn.func jA) #[] #[pv C.c1,pv C.c2,pv C.c3,pv C.c4,pv C.c5,pv C.c6,pv C.c7,pv C.c8,pv C.c9]
def fnS (C:TC)(b:Nat):ξ:=Value.func (Fn.func iz) #[] #[pv C.c2,pv C.c6,pv C.c3,pv b,pv C.c5]
def arr (b m:Nat):Sl:=⟨some ⟨b,0,none⟩,m,m+1⟩
def TL (C : TC) (m : Nat) (s : Sl) (root : Int) (st : TS) (s1 s2 : Sl) (g1 g2 : Nat) : List dh:=
  [.aD C.c1 [vi st.next] ay, .aD C.c2 [aS (arr C.bi m)] cw, .aD C.c3 [aS (arr C.bl m)] cw, .aD C.c4 [aS s1] cw, .aD C.c5 [aS (arr C.bo m)] rI, .aD C.c6 [fnC C] pC,
   .aD C.c7 [aS s, vi root] aj, .aD C.c8 [aS s2] cw, .aD C.c9 [aS (arr C.bn m)] cw,
   .aD C.bi (st.ix.map vi) ay, .aD C.bl (st.lo.map vi) ay, .aD C.bn (st.nn.map vi) ay, .aD C.bo (st.on.map .bool) yp,
   .ps s1 1 ay (st.j5.map vi) g1, .ps s2 1 ay (st.nk.map vi) g2]
structure Lt (m:Nat) (st:TS):Prop where
 ix:st.ix.length=m
 lo:st.lo.length=m
 nn:st.nn.length=m
 on:st.on.length=m
def TZ (C:TC)(m:Nat)(s:Sl)(root:Int)(h0 h:af)(st:TS)(E:List dh):Prop:=
 Lt m st/\∃s1 s2 g1 g2,Z h0 h (TL C m s root st s1 s2 g1 g2++E)
theorem _root_.Go.Ago.Z.OM (z:Z h0 h L)(i:Nat){b m:Nat}{e:κ}{c:ε}{a v:Int}{f:Int->M β}(hg:gt c a=some v)(hm:c.length=m)(q:Wp (f v) h Q)(hi:L[i]?=some (.aD b (c.map vi) e):=by rfl) :
  Wp (AI (ao (arr b m) a 1) λp=>AI (ar li p) f) h Q:=by
 obtain⟨g1,g2⟩:=bH hg;have hlt:=aY g2;refine Tq g1 (by omega) ?_;exact z.ld i (o:=a.toNat*1) (l:=li) q hi (by rw[aa5,aaj,g2];rfl) rfl
theorem _root_.Go.Ago.Z.ZE (z:Z h0 h L)(i:Nat){b m:Nat}{e:κ}{c:List Bool}{a:Int}{v:Bool}{f:Bool->M β}(hg:gt c a=some v)(hm:c.length=m)(q:Wp (f v) h Q)(hi:L[i]?=some (.aD b (c.map .bool) e):=by rfl) :
  Wp (AI (ao (arr b m) a 1) λp=>AI (ar .bool p) f) h Q:=by
 obtain⟨g1,g2⟩:=bH hg;have hlt:=aY g2;refine Tq g1 (by omega) ?_;exact z.ld i (o:=a.toNat*1) (l:=.bool) q hi (by rw[aa5,aaj,g2];rfl) rfl
theorem IP {c:List α}{a:Int}(hg:(gt c a).isSome=true):0<=a/\a.toNat<c.length/\∃v,gt c a=some v:=by
 cases h1:gt c a with
 |none=>rw[h1] at hg;cases hg
 |some v=>exact⟨(bH h1).1,aY (bH h1).2,v,rfl⟩
theorem yL {b m:Nat}{a:Int}(h1:0<=a)(h2:a.toNat<m){f:Addr->M β}(q:Wp (f ⟨b,a.toNat,none⟩) h Q):Wp (AI (ao (arr b m) a 1) f) h Q:=by
 refine Tq h1 (by omega) ?_;rw[aa5];exact q
theorem last_cases {l:List α}{x:α}(hl:l.getLast?=some x):l=l.dropLast++[x]:=by
 cases l with
 |nil=>cases hl
 |cons a r=>
  grind [List.getLast?_eq_some_getLast,Option.some.inj,List.dropLast_concat_getLast]
theorem Yd {C:TC}{m:Nat}{s:Sl}{root:Int}{b:Nat} :
  ∀(k n:Nat) (a:Int) (st r:TS) (v w:Int) (h:af) (E:List dh),k<=n->tp k a st v=some (r,w)->TZ C m s root h0 h st (.aD b [vi a] ay::E) ->
   Wp (dj n (aw C.c4) (aw C.c5) (aw C.c8) (aw C.c9) (aw b) v) h λy h'=>y=w/\TZ C m s root h0 h' r (.aD b [vi a] ay::E):=by
 intro k
 induction k with
 |zero=>intro n a st r v w h E _ hv;cases hv
 |succ k ih=>
  intro n a st r v w h E hn hv tz;obtain⟨n,rfl⟩:∃m,n=m+1:=⟨n-1,by omega⟩;rw[rZ];unfold eY;rw[tp] at hv;cases hx:st.j5.getLast? with
  |none=>rw[hx] at hv;cases hv
  |some x=>
   rw[hx] at hv;simp only at hv;split at hv
   case isFalse=>cases hv
   rename_i hc;obtain⟨x1,x2,_⟩:=IP hc.1;obtain⟨_,x3,_⟩:=IP hc.2.1;obtain⟨ok,s1,s2,g1,g2,z⟩:=tz;have hst:=last_cases hx;have hps:vA h s1 1 ay (st.j5.map vi) g1:=z.get 13 rfl;have hlen:s1.len=st.j5.length:=hps.DE.CL;have hl2:=aaL List.length hst;simp at hl2;have hpos:st.j5.length≠0:=λe=>by rw[aap e] at hx;cases hx
   have hbnd:s1.len<9223372036854775808:=by
    have:=hc.2.2;unfold cN at this;omega
   have e1:IntKind.i64.wrap ((s1.len:Int)-1)=((s1.len:Nat):Int)-1:=IntWalk.i64_in _ ⟨by omega,by omega⟩;refine z.ld 3 (o:=0) (l:=.sl) ?_;refine z.ld 3 (o:=0) (l:=.sl) ?_;rw[e1];refine hps.DE.Yw (enc:=vi) (v:=x) (by omega) ?_ λad cl=>cl.uI (l:=li) rfl rfl ?_
   .rw[List.getLast?_eq_getElem?] at hx;rw[<-hx];congr 1;omega
   refine z.ld 3 (o:=0) (l:=.sl) ?_;refine z.ld 3 (o:=0) (l:=.sl) ?_;rw[e1];refine z.XS 13 (cs:=st.j5.dropLast.map vi) (v:=vi x) (g:=g1) (by show some (dh.ps s1 1 ay (st.j5.map vi) g1)=_;(conv=>lhs;rw[hst]);rw[aa6];rfl) λs1' hs1 z=>?_
   refine z.st 3 λh1 z=>?_;refine z.ld 4 (o:=0) (l:=.sl) ?_;refine yL x1 (by rw[<-ok.on];exact x2) ?_;refine z.zX 12 (enc:=Value.bool) (v:=false) x2 λh2 z=>?_;refine z.ld 8 (o:=0) (l:=.sl) ?_;refine z.ld 7 (o:=0) (l:=.sl) ?_;refine yL x1 (by rw[<-ok.nn];exact x3) ?_;have hsz:s2.len=st.nk.length:=(vA.DE (z.get 14 rfl)).CL;rw[hsz];refine z.zX 11 (enc:=vi) (v:=(st.nk.length:Int)) x3 λh3 z=>?_;refine z.ld 15 (o:=0) (l:=li) (x:=a) ?_;have tz:TZ C m s root h0 h3 { st with j5:=st.j5.dropLast,on:=st.on.set x.toNat false,nn:=st.nn.set x.toNat (st.nk.length:Int) } (.aD b [vi a] ay::E):=
    ⟨⟨ok.ix,ok.lo,by simp[ok.nn],by simp[ok.on]⟩,s1',s2,g1,g2,z⟩
   by_cases hxa:x=a
   .rw[BY hxa] at hv;cases hv;rw[BY (by simpa using hxa),ah];exact⟨rfl,tz⟩
   .rw[By hxa] at hv;rw[By (by simpa using hxa)];exact ih n a _ r _ w h3 E (by omega) hv tz
theorem Ye {C:TC}{m:Nat}{s:Sl}{root:Int}{N:List aq}(G:mE h0 s N){B:Nat}(hB:Bd N B) :
  ∀(k:Nat),(∀(n:Nat) (a:Int) (st r:TS) (h:af) (E:List dh),k<=n->tv k N a st=some r->TZ C m s root h0 h st E ->
    Wp (cW n a (aw C.c1) (aw C.c2) (aw C.c3) (aw C.c4) (aw C.c5) (aw C.c6) (aw C.c7) (aw C.c8) (aw C.c9)) h λ_ h'=>TZ C m s root h0 h' r E) /\
   (∀(n:Nat) (a:Int) (b:Nat) (sl:Sl) (xs:ε) (i:Nat) (st r:TS) (h:af) (E:List dh),k<=n->tl k N a (xs.drop i) st=some r->IL h0 sl xs->i<=xs.length->xs.length<=B->TZ C m s root h0 h st (.aD b [vi a] ay::E) ->
    Wp (dm n (aw C.c2) (aw C.c3) (aw C.c4) (aw C.c5) (aw C.c7) (aw C.c8) (aw C.c9) (aw b) (fnS C b) sl (sl.len:Int) (i:Int)) h λ_ h'=>TZ C m s root h0 h' r (.aD b [vi a] ay::E)) /\
   (∀(n:Nat) (a:Int) (b:Nat) (sl:Sl) (xs:ε) (i:Nat) (st r:TS) (h:af) (E:List dh),k<=n->tl k N a (xs.drop i) st=some r->IL h0 sl xs->i<=xs.length->xs.length<=B->TZ C m s root h0 h st (.aD b [vi a] ay::E) ->
    Wp (dk n (aw C.c2) (aw C.c3) (aw C.c4) (aw C.c5) (aw C.c8) (aw C.c9) (aw b) (fnS C b) sl (sl.len:Int) (i:Int)) h λ_ h'=>TZ C m s root h0 h' r (.aD b [vi a] ay::E)) /\
   (∀(n:Nat) (a x:Int) (b:Nat) (st r:TS) (h:af) (E:List dh),k<=n->ts k N a x st=some r->TZ C m s root h0 h st (.aD b [vi a] ay::E) ->
    Wp (cR n x (aw C.c2) (aw C.c6) (aw C.c3) (aw b) (aw C.c5)) h λ_ h'=>TZ C m s root h0 h' r (.aD b [vi a] ay::E)):=by
 intro k
 induction k with
 |zero=>grind [tv,tl,ts]
 |succ k ih=>
  obtain⟨ih1,ih2,ih3,ih4⟩:=ih;refine⟨λn a st r h E hn hv tz=>?_,λn a b sl xs i st r h E hn hv il hi hxB tz=>?_,λn a b sl xs i st r h E hn hv il hi hxB tz=>?_,λn a x b st r h E hn hv tz=>?_⟩
  .obtain⟨n,rfl⟩:∃m,n=m+1:=⟨n-1,by omega⟩;rw[uk];unfold gH;rw[tv] at hv;cases hp:IM a st with
   |none=>rw[hp] at hv;cases hv
   |some st1=>
   rw[hp] at hv;simp only at hv;unfold IM at hp;split at hp
   case isFalse=>cases hp
   rename_i hc;obtain⟨c1,c2,c3,c4,c5⟩:=hc;obtain⟨a1,a2,_⟩:=IP c3;obtain⟨_,a3,_⟩:=IP c4;obtain⟨_,a4,_⟩:=IP c5;have hp:=aao hp;obtain⟨ok,s1,s2,g1,g2,z⟩:=tz;refine z.new λb h1 z _=>?_;have z:=z.perm (L':=TL C m s root st s1 s2 g1 g2++(.aD b [vi a] ay::E)) List.perm_middle.symm;refine z.ld 0 (o:=0) (l:=li) (x:=st.next) ?_
   refine z.st 0 λh2 z=>?_;refine z.ld 1 (o:=0) (l:=.sl) ?_;refine z.ld 15 (o:=0) (l:=li) (x:=a) ?_;refine z.ld 2 (o:=0) (l:=.sl) ?_;refine z.ld 15 (o:=0) (l:=li) (x:=a) ?_;refine z.ld 0 (o:=0) (l:=li) (x:=IntKind.i64.wrap (st.next+1)) ?_
   refine yL a1 (by rw[<-ok.ix];exact a2) ?_;refine z.ld 0 (o:=0) (l:=li) (x:=IntKind.i64.wrap (st.next+1)) ?_
   refine z.VY 9 (enc:=vi) (v:=IntKind.i64.wrap (st.next+1)) a2 ?_ λh3 z=>?_
   .intro a' ha';simp only[abz,IN,abw,ab9] at ha';rcases ha' with rfl|rfl|rfl
    .exact z.VX 9 2 rfl rfl (by decide)
    .exact z.VX 9 15 rfl rfl (by decide)
    .exact z.VX 9 0 rfl rfl (by decide)
   refine yL a1 (by rw[<-ok.lo];exact a3) ?_;refine z.zX 10 (enc:=vi) (v:=IntKind.i64.wrap (st.next+1)) a3 λh4 z=>?_
   refine z.ld 3 (o:=0) (l:=.sl) ?_;refine z.ld 15 (o:=0) (l:=li) (x:=a) ?_;have hps:vA h4 s1 1 ay (st.j5.map vi) g1:=z.get 13 rfl;have hlen:s1.len=st.j5.length:=hps.DE.CL;refine z.M9 13 (new:=[vi a]) rfl (by decide) rfl (by show s1.len+1<=cN;omega) λs1' h5 g1' hs1 z _=>?_;refine z.st 3 λh6 z=>?_;refine z.ld 4 (o:=0) (l:=.sl) ?_;refine z.ld 15 (o:=0) (l:=li) (x:=a) ?_;refine yL a1 (by rw[<-ok.on];exact a4) ?_;refine z.zX 12 (enc:=Value.bool) (v:=true) a4 λh7 z=>?_;have tz:TZ C m s root h0 h7 st1 (.aD b [vi a] ay::E):=by
    subst hp;refine⟨⟨by simp[ok.ix],by simp[ok.lo],ok.nn,by simp[ok.on]⟩,s1',s2,g1',g2,?_⟩;have:(st.j5++[a]).map vi=st.j5.map vi++[vi a]:=(by simp);unfold TL;simp only;rw[this];exact z
   clear z hps hlen;obtain⟨ok,s1,s2,g1,g2,z⟩:=tz;cases hx:gt N a with
   |none=>rw[hx] at hv;cases hv
   |some x=>
   rw[hx] at hv;simp only at hv;obtain⟨x1,x2⟩:=bH hx;have hb:=hB.2.2 x (OF x2);cases hk:tl k N a x.keys st1 with
   |none=>rw[hk] at hv;cases hv
   |some st2=>
   rw[hk] at hv;simp only at hv;cases hi:tl k N a x.items st2 with
   |none=>rw[hi] at hv;cases hv
   |some st3=>
   rw[hi] at hv;simp only at hv;refine z.ld 6 (o:=0) (l:=.sl) ?_;refine z.ld 15 (o:=0) (l:=li) (x:=a) ?_;refine G.at z x1 x2 λad ks is nd ik ii=>nd.V2 ?_;rw[ag];refine (ih2 n a b ks x.keys 0 st1 st2 _ E (by omega) hk ik (by omega) hb.1 ⟨ok,s1,s2,g1,g2,z⟩).mono λ_ h8 tz=>?_;obtain⟨ok,s1,s2,g1,g2,z⟩:=tz;refine z.ld 6 (o:=0) (l:=.sl) ?_;refine z.ld 15 (o:=0) (l:=li) (x:=a) ?_;refine G.at z x1 x2 λad2 ks2 is2 nd2 ik2 ii2=>nd2.Tt ?_;rw[ag];refine (ih3 n a b is2 x.items 0 st2 st3 _ E (by omega) hi ii2 (by omega) hb.2 ⟨ok,s1,s2,g1,g2,z⟩).mono λ_ h9 tz=>?_;obtain⟨ok,s1,s2,g1,g2,z⟩:=tz;cases hl:gt st3.lo a with
   |none=>rw[hl] at hv;cases hv
   |some l=>
   cases hj:gt st3.ix a with
   |none=>rw[hl,hj] at hv;cases hv
   |some j=>
   rw[hl,hj] at hv;simp only at hv;refine z.ld 2 (o:=0) (l:=.sl) ?_;refine z.ld 15 (o:=0) (l:=li) (x:=a) ?_;refine z.OM 10 hl ok.lo ?_;refine z.ld 1 (o:=0) (l:=.sl) ?_;refine z.ld 15 (o:=0) (l:=li) (x:=a) ?_;refine z.OM 9 hj ok.ix ?_;have fin:∀{h':af} {r:TS},TZ C m s root h0 h' r (.aD b [vi a] ay::E)->TZ C m s root h0 h' r E:=λtz=>by
    obtain⟨ok,s1,s2,g1,g2,z⟩:=tz;exact⟨ok,s1,s2,g1,g2,(z.perm aca).drop⟩
   by_cases hlj:l=j
   .rw[By (by simpa using hlj)] at hv;rw[By (by simpa using hlj)];cases ht:tp k a st3 0 with
    |none=>rw[ht] at hv;cases hv
    |some q=>
    obtain⟨st4,w⟩:=q;rw[ht] at hv;simp only at hv;split at hv
    case isFalse=>cases hv
    rename_i hcs;cases hv;rw[ag];refine (Yd k n a st3 st4 0 w h9 E (by omega) ht ⟨ok,s1,s2,g1,g2,z⟩).mono λy h10 hy=>?_;obtain⟨rfl,ok,s1,s2,g1,g2,z⟩:=hy;refine z.ld 7 (o:=0) (l:=.sl) ?_;have hsz:s2.len=st4.nk.length:=(vA.DE (z.get 14 rfl)).CL;refine z.M9 14 (new:=[vi y]) rfl (by decide) rfl (by show s2.len+1<=cN;omega) λs2' h11 g2' hs2 z _=>?_;refine z.st 7 λh12 z=>?_;rw[ah];refine fin ⟨⟨ok.ix,ok.lo,ok.nn,ok.on⟩,s1,s2',g1,g2',?_⟩;have:(st4.nk++[y]).map vi=st4.nk.map vi++[vi y]:=(by simp);unfold TL;simp only;rw[this];exact z
   .rw[BY (by simpa using hlj)] at hv;cases hv;rw[BY (by simpa using hlj),ah];exact fin ⟨ok,s1,s2,g1,g2,z⟩
  .obtain⟨n,rfl⟩:∃m,n=m+1:=⟨n-1,by omega⟩;rw[r5];unfold fb;rw[il.len];by_cases hi2:i<xs.length
   .rw[BY (by simp;omega)];obtain⟨x,hx⟩:=gU hi2;rw[drop_cons hx,tl] at hv;cases hs:ts k N a x st with
    |none=>rw[hs] at hv;cases hv
    |some st1=>
     rw[hs] at hv;simp only at hv;have fr:Fr (λ_=>False) h0 h:=(by obtain⟨_,_,_,_,_,z⟩:=tz;exact z.fr);refine (il.fr fr).ix (by omega) (by simpa using hx) λa1 g c=>c.uI (l:=li) rfl rfl ?_;unfold cx;rw[ag,BY (by rfl),ag];refine lG (c:=(aw C.c2,aw C.c6,aw C.c3,aw b,aw C.c5)) rfl ?_;refine (ih4 n a x b st st1 h E (by omega) hs tz).mono λ_ h2 tz=>?_;rw[vV hi (by have:=hB.2.1;omega)];have:=ih2 n a b sl xs (i+1) st1 r h2 E (by omega) hv il (by omega) hxB tz
     rwa [il.len] at this
   .rw[By (by simp;omega),ah]
    grind [List.drop_eq_nil_of_le,tl,tl,tl]
  .obtain⟨n,rfl⟩:∃m,n=m+1:=⟨n-1,by omega⟩;rw[r4];unfold eZ;rw[il.len];by_cases hi2:i<xs.length
   .rw[BY (by simp;omega)];obtain⟨x,hx⟩:=gU hi2;rw[drop_cons hx,tl] at hv;cases hs:ts k N a x st with
    |none=>rw[hs] at hv;cases hv
    |some st1=>
     rw[hs] at hv;simp only at hv;have fr:Fr (λ_=>False) h0 h:=(by obtain⟨_,_,_,_,_,z⟩:=tz;exact z.fr);refine (il.fr fr).ix (by omega) (by simpa using hx) λa1 g c=>c.uI (l:=li) rfl rfl ?_;unfold gq cx;rw[ag,BY (by rfl),ag];refine lG (c:=(aw C.c2,aw C.c6,aw C.c3,aw b,aw C.c5)) rfl ?_;refine (ih4 n a x b st st1 h E (by omega) hs tz).mono λ_ h2 tz=>?_;rw[vV hi (by have:=hB.2.1;omega)];have:=ih3 n a b sl xs (i+1) st1 r h2 E (by omega) hv il (by omega) hxB tz
     rwa [il.len] at this
   .rw[By (by simp;omega),ah]
    grind [List.drop_eq_nil_of_le,tl,tl,tl]
  .obtain⟨n,rfl⟩:∃m,n=m+1:=⟨n-1,by omega⟩;rw[sG];unfold fG;rw[ts] at hv;cases hx:gt st.ix x with
   |none=>rw[hx] at hv;cases hv
   |some i=>
   rw[hx] at hv;simp only at hv;obtain⟨ok,s1,s2,g1,g2,z⟩:=tz;refine z.ld 1 (o:=0) (l:=.sl) ?_;refine z.OM 9 hx ok.ix ?_;by_cases hi0:i=0
   .rw[BY hi0] at hv;rw[BY (by simpa using hi0)];cases hv1:tv k N x st with
    |none=>rw[hv1] at hv;cases hv
    |some st1=>
    rw[hv1] at hv;simp only at hv;refine z.ld 5 (o:=0) (l:=.raw) (x:=fnC C) ?_;unfold fF;rw[ag,BY (by rfl),ag];refine lG (c:=(aw C.c1,aw C.c2,aw C.c3,aw C.c4,aw C.c5,aw C.c6,aw C.c7,aw C.c8,aw C.c9)) rfl ?_;refine (ih1 n x st st1 h _ (by omega) hv1 ⟨ok,s1,s2,g1,g2,z⟩).mono λ_ h2 tz=>?_;obtain⟨ok,s1,s2,g1,g2,z⟩:=tz;cases hl:gt st1.lo x with
    |none=>rw[hl] at hv;cases hv
    |some l=>
    rw[hl] at hv;simp only at hv;unfold Rr at hv;cases hw:gt st1.lo a with
    |none=>rw[hw] at hv;cases hv
    |some w=>
    rw[hw] at hv;have hv:=aao hv;refine z.ld 2 (o:=0) (l:=.sl) ?_;refine z.ld 15 (o:=0) (l:=li) (x:=a) ?_;refine z.ld 2 (o:=0) (l:=.sl) ?_;refine z.ld 15 (o:=0) (l:=li) (x:=a) ?_;refine z.OM 10 hw ok.lo ?_;refine z.ld 2 (o:=0) (l:=.sl) ?_;refine z.OM 10 hl ok.lo ?_;obtain⟨w1,w2⟩:=bH hw;refine yL w1 (by rw[<-ok.lo];exact aY w2) ?_;refine z.zX 10 (enc:=vi) (v:=mn w l) (aY w2) λh3 z=>?_;rw[ah,<-hv];exact⟨⟨ok.ix,by simp[ok.lo],ok.nn,ok.on⟩,s1,s2,g1,g2,z⟩
   .rw[By hi0] at hv;rw[By (by simpa using hi0)];cases ho:gt st.on x with
    |none=>rw[ho] at hv;cases hv
    |some o=>
    rw[ho] at hv;refine z.ld 4 (o:=0) (l:=.sl) ?_;refine z.ZE 12 ho ok.on ?_;cases o with
    |false=>
     cases hv;rw[By (by simp),ah];exact⟨ok,s1,s2,g1,g2,z⟩
    |true=>
     simp only at hv;rw[BY rfl];unfold Rr at hv;cases hw:gt st.lo a with
     |none=>rw[hw] at hv;cases hv
     |some w=>
     rw[hw] at hv;have hv:=aao hv;refine z.ld 2 (o:=0) (l:=.sl) ?_;refine z.ld 15 (o:=0) (l:=li) (x:=a) ?_;refine z.ld 2 (o:=0) (l:=.sl) ?_;refine z.ld 15 (o:=0) (l:=li) (x:=a) ?_;refine z.OM 10 hw ok.lo ?_;refine z.ld 1 (o:=0) (l:=.sl) ?_;refine z.OM 9 hx ok.ix ?_;obtain⟨w1,w2⟩:=bH hw;refine yL w1 (by rw[<-ok.lo];exact aY w2) ?_;refine z.zX 10 (enc:=vi) (v:=mn w i) (aY w2) λh3 z=>?_;rw[ah,<-hv];exact⟨⟨ok.ix,by simp[ok.lo],ok.nn,ok.on⟩,s1,s2,g1,g2,z⟩
end
section
variable {α β:Type}{h h' h0:af}{L:List dh}{Q:β->af->Prop}
def zE (m:Nat):TS:=⟨0,List.replicate m 0,List.replicate m 0,List.replicate m (-1),List.replicate m false,[],[]⟩
def comp (k:Nat)(N:List aq)(root:Int):Option (ε×ε):=(tv k N root (zE N.length)).map λst=>(st.nn,st.nk)
theorem Rt {m i:Nat}(hi:i<m):(List.replicate i (-1:Int)++List.replicate (m-i) 0).set i (-1)=List.replicate (i+1) (-1)++List.replicate (m-(i+1)) 0:=by
 have e:m-i=(m-(i+1))+1:=by omega
 rw[acb _ _ (by simp),e,abv,aax,abI,abp,acX (n:=i),aas];rfl
theorem TJ {bn c9 m:Nat}(hm:m<1073741824){o1 o2 o3 o4:dh}(a0:Addr)(a1:Int)(a2 a3:Addr) :
  ∀(n i:Nat) (h:af),m-i<n->i<=m->Z h0 h (o1::o2::.aD bn ((List.replicate i (-1)++List.replicate (m-i) 0).map vi) ay::o3::o4::.aD c9 [aS (arr bn m)] cw::L) ->
   Wp (dY n a0 a1 a2 a3 (aw c9) (m:Int) (i:Int)) h λ_ h'=>Z h0 h' (o1::o2::.aD bn ((List.replicate m (-1)).map vi) ay::o3::o4::.aD c9 [aS (arr bn m)] cw::L):=by
 intro n
 induction n with
 |zero=>intro i h h1;omega
 |succ n ih=>
  intro i h h1 h2 z;rw[tP];unfold gb;by_cases hi:i<m
  .rw[BY (by simp;omega)];refine z.ld 5 (o:=0) (l:=.sl) (x:=arr bn m) ?_;refine yL (b:=bn) (m:=m) (by omega) (by omega) ?_;rw[aac];refine z.zX 2 (enc:=vi) (xs:=List.replicate i (-1)++List.replicate (m-i) 0) (v:=-1) (by grind) λh3 z=>?_;rw[vV h2 (by omega)];rw[Rt hi] at z;exact ih (i+1) h3 (by omega) (by omega) z
  .rw[By (by simp;omega),ah];have:i=m:=by omega
   subst this;simpa using z
theorem D4 {s:Sl}{root:Int}{N:List aq}(z:Z h0 h L)(G:mE h0 s N){B:Nat}(hB:Bd N B){k n:Nat}(hk:k<=n)(hn:B+2<n){nn nk:ε}(hv:comp k N root=some (nn,nk)) :
  Wp (iM n (s,root)) h λx h'=>nn.length=N.length/\∃bn s2 g2,x=(arr bn N.length,s2)/\Z h0 h' (.aD bn (nn.map vi) ay::.ps s2 1 ay (nk.map vi) g2::L):=by
 unfold iM;unfold comp at hv;cases ht:tv k N root (zE N.length) with
 |none=>rw[ht] at hv;cases hv
 |some st=>
 rw[ht] at hv;have hv:=aao hv;have e1:st.nn=nn:=aaL Prod.fst hv;have e2:st.nk=nk:=aaL Prod.snd hv;subst e1 e2;have hb1:(N.length:Int)<=cN:=by have:=hB.1;have:=hB.2.1;unfold cN;omega
 refine z.new λx0 h1 z _=>?_;refine z.ld 0 (o:=0) (l:=.sl) ?_;rw[G.len];refine z.dT [1,3,5,6,7,8] (by decide) (by decide) λnb h2 z=>?_;refine z.Tr 0 (by omega) hb1 λh3 z=>?_;refine z.Tr 1 (by omega) hb1 λh4 z=>?_;refine z.Tr 2 (by omega) hb1 λh5 z=>?_;rw[aac] at z⊢;rw[l6 (enc:=vi)] at z;refine z.newAt 3 λh6 z=>z.newAt 4 λh7 z=>z.newAt 5 λh8 z=>?_;refine z.wb 3 (by intro k hk;simp at hk;omega) ?_;refine z.XT 3 (by intro a ha;simp at ha) λh9 z=>?_;refine z.wb 4 (by intro k hk;simp at hk;omega) ?_;refine z.XT 4 (by intro a ha;simp at ha) λh10 z=>?_;refine z.st 5 λh11 z=>?_;refine z.ld 5 (o:=0) (l:=.sl) ?_;rw[ag];refine (TJ (m:=N.length) (by have:=hB.1;have:=hB.2.1;omega) (aw x0) (N.length:Int) (aw (nb+6)) (aw (nb+7)) n 0 h11 (by have:=hB.1;omega) (by omega) z).mono λ_ h12 z=>?_;refine z.new λb14 h13 z _=>?_;refine z.new λb15 h14 z _=>?_;refine z.DV (by omega) hb1 λbo h15 z _=>?_;rw[aac] at z⊢;rw[l6 (enc:=Value.bool)] at z;refine z.new λb17 h16 z _=>z.st 0 λh17 z=>?_;refine z.new λb19 h18 z _=>z.st 0 λh19 z=>?_;refine z.new λb21 h20 z _=>z.st 0 λh21 z=>?_;refine z.ld 0 (o:=0) (l:=.raw) ?_;refine z.ld 12 (o:=1) (l:=li) (x:=root) ?_;have z:=z.add (Fr.refl z.wf) (o:=.ps ⟨none,0,0⟩ 1 ay [] 0) vA.nil (.inl rfl);have z:=z.add (Fr.refl z.wf) (o:=.ps ⟨none,0,0⟩ 1 ay [] 0) vA.nil (.inl rfl);have z:=Z.lA (pre:=[_,_,_,_,_,_,_,_,_,_,_,_,_,_,_]) z [3,11,12,6,4,2,14,7,13,8,9,10,5,0,1] (by simp only[aae,aam];decide);have tz:TZ ⟨b19,nb+6,nb+7,b15,b17,b21,x0,b14,nb+8,nb+1,nb+3,nb+5,bo⟩ N.length s root h0 h21 (zE N.length) L:=
  ⟨⟨by simp[zE],by simp[zE],by simp[zE],by simp[zE]⟩,⟨none,0,0⟩,⟨none,0,0⟩,0,0,z⟩
 unfold gI;rw[ag,BY (by rfl),ag];refine lG (c:=(aw b19,aw (nb+6),aw (nb+7),aw b15,aw b17,aw b21,aw x0,aw b14,aw (nb+8))) rfl ?_;refine ((Ye G hB k).1 n root _ st h21 L hk ht tz).mono λ_ h22 tz=>?_;obtain⟨ok,s1,s2,g1,g2,z⟩:=tz;refine z.ld 8 (o:=0) (l:=.sl) ?_;refine z.ld 7 (o:=0) (l:=.sl) ?_;rw[ah];exact⟨ok.nn,nb+5,s2,g2,rfl,z.sub ((List.Sublist.cons _<|List.Sublist.cons _<|List.Sublist.cons _<|List.Sublist.cons _<|List.Sublist.cons _<|List.Sublist.cons _<|List.Sublist.cons _<|List.Sublist.cons _<|List.Sublist.cons _<|List.Sublist.cons _<|List.Sublist.cons _<|List.Sublist.cons₂ _<|List.Sublist.cons _<|List.Sublist.cons _<|List.Sublist.cons₂ _ (List.Sublist.refl L)))⟩
end
section
variable {α β:Type}{h h' h0:af}{L:List dh}{Q:β->af->Prop}
def mx (p q:Int):Int:=if p<q then q else p
def mem:Nat->ε->List ε->Option (List ε)
 |_,[],X=>some X
 |i,c::cs,X=>match gt X c with
  |none=>none
  |some xs=>mem (i+1) cs (X.set c.toNat (xs++[(i:Int)]))
def dR (nn:ε)(c:Int):ε->ε->Bool->Option (ε×Bool)
 |[],b,a=>some (b,a)
 |x::xs,b,a=>match gt nn x with
  |none=>none
  |some d=>if d=c then dR nn c xs b false else match gt b c,gt b d with
   |some p,some q=>dR nn c xs (b.set c.toNat (mx p q)) a
   |_,_=>none
def dM (N:List aq)(nn:ε)(c:Int):ε->ε->Bool->Option (ε×Bool)
 |[],b,a=>some (b,a)
 |i::is,b,a=>match gt N i with
  |none=>none
  |some x=>match dR nn c x.keys b a with
   |none=>none
   |some (b1,a1)=>match dR nn c x.items b1 a1 with
    |none=>none
    |some (b2,a2)=>dM N nn c is b2 a2
def dC (N:List aq)(nn:ε):Nat->List (ε×Int)->ε->Bool->Option (ε×Bool)
 |_,[],b,a=>some (b,a)
 |c,(xs,sz)::r,b,a=>match dM N nn (c:Int) xs b a with
  |none=>none
  |some (b1,a1)=>match gt b1 (c:Int) with
   |none=>none
   |some p=>dC N nn (c+1) r (b1.set c (IntKind.i64.wrap (p+sz))) a1
def dep (k:Nat)(N:List aq)(root:Int):Option (Int×Bool):=match comp k N root with
 |none=>none
 |some (nn,nk)=>if nk.length<=N.length then match mem 0 nn (List.replicate nk.length []) with
  |none=>none
  |some X=>match dC N nn 0 (X.zip nk) (List.replicate nk.length 0) true with
   |none=>none
   |some (b,a)=>match gt nn root with
    |none=>none
    |some c=>match gt b c with
     |none=>none
     |some v=>some (IntKind.i64.wrap (v-1),a)
  else none
theorem L8:∀{cs:ε} {i:Nat} {X Y:List ε},mem i cs X=some Y->Y.length=X.length
 |[],i,X,Y,he=>by cases he;rfl
 |c::cs,i,X,Y,he=>by
  rw[mem] at he;cases hg:gt X c with
  |none=>rw[hg] at he;cases he
  |some xs=>rw[hg] at he;rw[L8 he,ab2]
theorem Ru:∀{cs:ε} {i:Nat} {X Y:List ε},mem i cs X=some Y->(∀xs∈X,xs.length<=i)->∀xs∈Y,xs.length<=i+cs.length
 |[],i,X,Y,he,hX=>by cases he;simpa using hX
 |c::cs,i,X,Y,he,hX=>by
  rw[mem] at he;cases hg:gt X c with
  |none=>rw[hg] at he;cases he
  |some xs=>
   rw[hg] at he;intro ys hy;have:=Ru he (λzs hz=>?_) ys hy
   .simp;omega
   .rcases abr hz with hz|rfl
    .have:=hX zs hz;omega
    .have:=hX xs (OF (bH hg).2);simp;omega
theorem yM {nn:ε}{c:Int}:∀{xs b:ε} {a:Bool} {b':ε} {a':Bool},dR nn c xs b a=some (b',a')->b'.length=b.length
 |[],b,a,b',a',he=>by cases he;rfl
 |x::xs,b,a,b',a',he=>by
  rw[dR] at he;split at he
  .cases he
  .split at he
   .exact yM he
   .split at he
    .rw[yM he,ab2]
    .cases he
theorem KC {N:List aq}{nn:ε}{c:Int}:∀{xs b:ε} {a:Bool} {b':ε} {a':Bool},dM N nn c xs b a=some (b',a')->b'.length=b.length
 |[],b,a,b',a',he=>by cases he;rfl
 |x::xs,b,a,b',a',he=>by
  rw[dM] at he;split at he
  .cases he
  .split at he
   .cases he
   .rename_i h1;split at he
    .cases he
    .rename_i h2;rw[KC he,yM h2,yM h1]
theorem Rv {N:List aq}{nn:ε}:∀{r:List (ε×Int)} {c:Nat} {b:ε} {a:Bool} {b':ε} {a':Bool},dC N nn c r b a=some (b',a')->b'.length=b.length
 |[],c,b,a,b',a',he=>by cases he;rfl
 |(xs,sz)::r,c,b,a,b',a',he=>by
  rw[dC] at he;split at he
  .cases he
  .rename_i h1;split at he
   .cases he
   .rw[Rv he,ab2,KC h1]
structure ME where
 s:Sl
 g:Nat
 xs:ε
def ME.own (e:ME):dh:=.ps e.s 1 ay (e.xs.map vi) e.g
def DL (bb bn x0 bm:Nat)(s2 s:Sl)(g2:Nat)(root:Int)(nn nk b:ε)(M:List ME):List dh:=
 [.aD bb (b.map vi) ay,.aD bn (nn.map vi) ay,.ps s2 1 ay (nk.map vi) g2,.aD x0 [aS s,vi root] aj,.aD bm ((M.map ME.s).map aS) cw]
theorem WL {M:List ME}{c:Nat}{e:ME}(he:M[c]?=some e){bb bn x0 bm:Nat}{s2 s:Sl}{g2:Nat}{root:Int}{nn nk b:ε}{M':List ME} :
  (DL bb bn x0 bm s2 s g2 root nn nk b M'++(M.map ME.own++L))[c+5]?=some (.ps e.s 1 ay (e.xs.map vi) e.g):=by
 simp only[DL,aaq,aaP,aaO];rw[aau (by simpa using aY he),aaj,he];rfl
theorem WM {bb bn x0 bm:Nat}{s2 s:Sl}{g2:Nat}{root:Int}{nn nk b:ε}{m:Nat}(hm:nn.length=m)(hb:m<1073741824)(a4:Sl)(a3:Bool)(a2:Sl)(a1:Sl) :
  ∀(n i:Nat) (h:af) (M:List ME) (X:List ε),m-i<n->i<=m->mem i (nn.drop i) (M.map ME.xs)=some X->(∀e∈M,e.xs.length<=i)->Z h0 h (DL bb bn x0 bm s2 s g2 root nn nk b M++(M.map ME.own++L)) ->
   Wp (gN n (aw x0) a1 a2 a3 a4 (arr bm M.length) (arr bn m) (m:Int) (i:Int)) h λ_ h'=>∃M',M'.map ME.xs=X/\Z h0 h' (DL bb bn x0 bm s2 s g2 root nn nk b M'++(M'.map ME.own++L)):=by
 intro n
 induction n with
 |zero=>intro i h M X h1;omega
 |succ n ih=>
  intro i h M X h1 h2 hv hle z;rw[xx];unfold kp;by_cases hi:i<m
  .rw[BY (by simp;omega)];obtain⟨c,hc⟩:=gU (l:=nn) (i:=i) (by omega);rw[drop_cons hc,mem] at hv;cases hg:gt (M.map ME.xs) c with
   |none=>rw[hg] at hv;cases hv
   |some xs=>
   rw[hg] at hv;simp only at hv;obtain⟨g1,gg⟩:=bH hg;rw[aaj] at gg;cases hM:M[c.toNat]? with
   |none=>rw[hM] at gg;cases gg
   |some e=>
   rw[hM] at gg;have gg:e.xs=xs:=aao gg;have hlt:=aY hM;refine z.OM (c:=nn) 1 (v:=c) (by unfold gt;rw[BY (by omega)];simpa using hc) hm ?_;refine yL (b:=bm) (m:=M.length) g1 hlt ?_;refine z.ld 4 (o:=c.toNat) (l:=.sl) (x:=e.s) ?_ rfl (by rw[aaj,aaj,hM];rfl) rfl;have hown:=WL (L:=L) hM (bb:=bb) (bn:=bn) (x0:=x0) (bm:=bm) (s2:=s2) (s:=s) (g2:=g2) (root:=root) (nn:=nn) (nk:=nk) (b:=b) (M':=M);have hlen:e.s.len=e.xs.length:=(vA.DE (z.get _ hown)).CL;have hel:=hle e (OF hM);refine z.M9 (c.toNat+5) (new:=[vi (i:Int)]) hown (by decide) rfl (by unfold cN;omega) λs' h3 g' hs' z _=>?_;refine yL (b:=bm) (m:=M.length) g1 hlt ?_;refine z.zX 4 (xs:=M.map ME.s) (enc:=aS) (v:=s') (k:=c.toNat) (by simpa using hlt) (λh4 z=>?_);rw[vV h2 (by omega)];have hl':(M.set c.toNat ⟨s',g',e.xs++[(i:Int)]⟩).length=M.length:=by simp
   have z:Z h0 h4 (DL bb bn x0 bm s2 s g2 root nn nk b (M.set c.toNat ⟨s',g',e.xs++[(i:Int)]⟩)++((M.set c.toNat ⟨s',g',e.xs++[(i:Int)]⟩).map ME.own++L)):=by
    refine z.perm (List.Perm.of_eq ?_);simp only[DL,aaq,aaP,abo,abp]
    grind [List.set_append_left,List.map_set,ME.own]
   have:=ih (i+1) h4 (M.set c.toNat ⟨s',g',e.xs++[(i:Int)]⟩) X (by omega) (by omega) (by rw[acg];simp only;rw[gg];exact hv) (λx hx=>?_) z
   .rw[hl'] at this;exact this
   grind
  .rw[By (by simp;omega),ah];have:nn.drop i=[]:=aah (by omega);rw[this] at hv;cases hv;exact⟨M,rfl,z⟩
theorem Rw {bb bn:Nat}{nn:ε}{m p:Nat}(hm:nn.length=m){sl:Sl}{xs:ε}(il:IL h0 sl xs){B:Nat}(hB:B<1073741824)(hl:xs.length<=B){c:Nat}(a0:Addr)(a2 a5:Sl)(a7 a8:Int)(a9:Sl)(a10 a11:Int)(a12:Sl)(a13 a14:Int) :
  ∀(n i:Nat) (h:af) (b b':ε) (a a':Bool) (R:List dh),xs.length-i<n->i<=xs.length->b.length=p->dR nn c (xs.drop i) b a=some (b',a')->Z h0 h (.aD bb (b.map vi) ay::.aD bn (nn.map vi) ay::R) ->
   Wp (gJ n a0 (arr bn m) a2 a (arr bb p) a5 (c:Int) a7 a8 a9 a10 a11 a12 a13 a14 sl (sl.len:Int) (i:Int)) h λy h'=>y=a'/\Z h0 h' (.aD bb (b'.map vi) ay::.aD bn (nn.map vi) ay::R):=by
 intro n
 induction n with
 |zero=>intro i h b b' a a' R h1;omega
 |succ n ih=>
  intro i h b b' a a' R h1 h2 hp hv z;rw[xr];unfold ki;rw[il.len];by_cases hi:i<xs.length
  .rw[BY (by simp;omega)];obtain⟨x,hx⟩:=gU hi;rw[drop_cons hx,dR] at hv;refine (il.fr z.fr).ix (by omega) (by simpa using hx) λa1 g cl=>cl.uI (l:=li) rfl rfl ?_;cases hg:gt nn x with
   |none=>rw[hg] at hv;cases hv
   |some d=>
   rw[hg] at hv;simp only at hv;refine z.OM (c:=nn) 1 hg hm ?_;rw[vV h2 (by omega)];by_cases hd:d=c
   .rw[BY hd] at hv;rw[BY (by simpa using hd)];have:=ih (i+1) h b b' false a' R (by omega) (by omega) hp hv z
    rwa [il.len] at this
   .rw[By hd] at hv;rw[By (by simpa using hd)];cases hq1:gt b (c:Int) with
    |none=>rw[hq1] at hv;cases hv
    |some v=>
    cases hq2:gt b d with
    |none=>rw[hq1,hq2] at hv;cases hv
    |some w=>
    rw[hq1,hq2] at hv;simp only at hv;obtain⟨g1,g2⟩:=bH hq1;obtain⟨g3,g4⟩:=bH hg;have hlt:=aY g2;refine yL (b:=bb) (m:=p) g1 (by omega) ?_;refine yL (b:=bn) (m:=m) g3 (by rw[<-hm];exact aY g4) ?_;refine z.ld 0 (o:=(c:Int).toNat) (l:=li) (x:=v) ?_ rfl (by rw[aaj,g2];rfl) rfl;refine z.ld 1 (o:=x.toNat) (l:=li) (x:=d) ?_ rfl (by rw[aaj,g4];rfl) rfl;refine z.OM (c:=b) 0 hq2 hp ?_;refine yL (b:=bb) (m:=p) g1 (by omega) ?_;refine z.zX 0 (xs:=b) (enc:=vi) (v:=mx v w) hlt (λh3 z=>?_);have:=ih (i+1) h3 (b.set (c:Int).toNat (mx v w)) b' a a' R (by omega) (by omega) (by simpa using hp) hv z
    rwa [il.len] at this
  .rw[By (by simp;omega),ah];have:xs.drop i=[]:=aah (by omega);rw[this] at hv;cases hv;exact⟨rfl,z⟩
theorem WN {bb bn b1:Nat}{nn:ε}{m p:Nat}(hm:nn.length=m){ks is:Sl}{kl il:ε}(ik:IL h0 ks kl)(ii:IL h0 is il){B:Nat}(hB:B<1073741824)(hl:kl.length<=B)(hl2:il.length<=B){c:Nat}(a0:Addr)(a2 a5:Sl)(a7 a8:Int)(a9:Sl)(a10 a11:Int)
  (n:Nat) (hn:B+5<=n) (h:af) (b b2 b':ε) (a a2' a':Bool) (R:List dh) (hp:b.length=p) (hv1:dR nn c kl b a=some (b2,a2')) (hv2:dR nn c il b2 a2'=some (b',a')) (z:Z h0 h (.aD bb (b.map vi) ay::.aD bn (nn.map vi) ay::.aD b1 [aS ks,aS is] cw::R)) :
   Wp (gK n a0 (arr bn m) a2 a (arr bb p) a5 (c:Int) a7 a8 a9 a10 a11 { a:=some (aw b1),len:=2,cap:=3 } (2:Nat) 0) h λy h'=>y=a'/\Z h0 h' (.aD bb (b'.map vi) ay::.aD bn (nn.map vi) ay::.aD b1 [aS ks,aS is] cw::R):=by
 obtain⟨n,rfl⟩:∃m,n=m+3:=⟨n-3,by omega⟩;have rs:∀{h},Cl h ⟨b1,0,none⟩ [aS ks,aS is] (b1+1)->Bb h { a:=some (aw b1),len:=2,cap:=3 } 1 [aS ks,aS is] (b1+1):=λc=>⟨rfl,.inr ⟨_,rfl,c⟩⟩;rw[mv];unfold gk;rw[BY (by decide)];refine (rs (z.cl 2 rfl)).ix (k:=0) (by decide) (by simp) λad cl=>cl.uI (l:=.sl) rfl rfl ?_;rw[ag];refine (Rw hm ik hB hl a0 a2 a5 a7 a8 a9 a10 a11 _ _ _ _ 0 h b b2 a a2' _ (by omega) (by omega) hp (by simpa using hv1) z).mono λy h1 hy=>?_;obtain⟨rfl,z⟩:=hy;rw[show IntKind.i64.wrap (0+1)=1 from by decide,mv];unfold gk;rw[BY (by decide)];refine (rs (z.cl 2 rfl)).ix (k:=1) (by decide) (by simp) λad cl=>cl.uI (l:=.sl) rfl rfl ?_;rw[ag];refine (Rw hm ii hB hl2 a0 a2 a5 a7 a8 a9 a10 a11 _ _ _ _ 0 h1 b2 b' y a' _ (by omega) (by omega) (by rw[yM hv1];exact hp) (by simpa using hv2) z).mono λy2 h2 hy=>?_;obtain⟨rfl,z⟩:=hy;rw[show IntKind.i64.wrap (1+1)=2 from by decide,mv];unfold gk;rw[By (by decide),ah];exact⟨rfl,z⟩
theorem WO {s:Sl}{N:List aq}(G:mE h0 s N){B:Nat}(hB:Bd N B){bb bn x0:Nat}{root:Int}{nn:ε}{m p:Nat}(hm:nn.length=m){sl:Sl}{xs:ε}(hl:xs.length<=B){o2:dh}{c:Nat}(a2 a5:Sl)(a7 a8:Int)
  (hr:∀h' b,Z h0 h' (.aD bb b ay::.aD bn (nn.map vi) ay::o2::.aD x0 [aS s,vi root] aj::L)->IL h' sl xs) (hsl:sl.len=xs.length) :
  ∀(n i:Nat) (h:af) (b b':ε) (a a':Bool),B+6+(xs.length-i)<n->i<=xs.length->b.length=p->dM N nn c (xs.drop i) b a=some (b',a')->Z h0 h (.aD bb (b.map vi) ay::.aD bn (nn.map vi) ay::o2::.aD x0 [aS s,vi root] aj::L) ->
   Wp (gL n (aw x0) (arr bn m) a2 a (arr bb p) a5 (c:Int) a7 a8 sl (sl.len:Int) (i:Int)) h λy h'=>y=a'/\Z h0 h' (.aD bb (b'.map vi) ay::.aD bn (nn.map vi) ay::o2::.aD x0 [aS s,vi root] aj::L):=by
 intro n
 induction n with
 |zero=>intro i h b b' a a' h1;omega
 |succ n ih=>
  intro i h b b' a a' h1 h2 hp hv z;rw[xu];unfold kj;rw[hsl];by_cases hi:i<xs.length
  .rw[BY (by simp;omega)];obtain⟨x,hx⟩:=gU hi;rw[drop_cons hx,dM] at hv;cases hg:gt N x with
   |none=>rw[hg] at hv;cases hv
   |some nx=>
   rw[hg] at hv;simp only at hv;obtain⟨x1,x2⟩:=bH hg;have hb:=hB.2.2 nx (OF x2);cases hv1:dR nn c nx.keys b a with
   |none=>rw[hv1] at hv;cases hv
   |some q1=>
   obtain⟨b1,a1⟩:=q1;rw[hv1] at hv;simp only at hv;cases hv2:dR nn c nx.items b1 a1 with
   |none=>rw[hv2] at hv;cases hv
   |some q2=>
   obtain⟨b2,a2'⟩:=q2;rw[hv2] at hv;simp only at hv;refine (hr h _ z).ix (by omega) (by simpa using hx) λad g cl=>cl.uI (l:=li) rfl rfl ?_;refine z.dT [12] (by decide) (by decide) λnb h3 z=>?_;refine z.ld 4 (o:=0) (l:=.sl) ?_;refine G.Yx z x1 x2 λad1 ks is nd=>(nd.fr z.fr).V2 ?_;refine z.ld 4 (o:=0) (l:=.sl) ?_;refine G.Yx z x1 x2 λad2 ks2 is2 nd2=>(nd2.fr z.fr).Tt ?_;refine z.newAt 0 λh4 z=>?_;have z:=Z.lA (pre:=[_,_,_]) z [1,2,0] (by simp only[aae,aam];decide);rw[ag];refine (WN hm nd.keys nd2.items hB.2.1 hb.1 hb.2 _ _ _ _ _ _ _ _ n (by omega) h4 b b1 b2 a a1 a2' _ hp hv1 hv2 z).mono λy h5 hy=>?_;obtain⟨rfl,z⟩:=hy;have z:=(Z.lA (pre:=[_,_,_]) z [2,0,1] (by simp only[aae,aam];decide)).drop;rw[vV h2 (by have:=hB.2.1;omega)];have:=ih (i+1) h5 b2 b' y a' (by omega) (by omega) (by rw[yM hv2,yM hv1];exact hp) hv z
   rwa [hsl] at this
  .rw[By (by simp;omega),ah];have:xs.drop i=[]:=aah (by omega);rw[this] at hv;cases hv;exact⟨rfl,z⟩
theorem WQ {s:Sl}{N:List aq}(G:mE h0 s N){B:Nat}(hB:Bd N B){bb bn x0 bm:Nat}{s2:Sl}{g2:Nat}{root:Int}{nn nk:ε}{m p:Nat}(hm:nn.length=m){M:List ME}(hM:M.length=p)(hs:nk.length=p)(hpB:p<=B)(hle:∀e∈M,e.xs.length<=B) :
  ∀(n i:Nat) (h:af) (b b':ε) (a a':Bool),2*B+8+(p-i)<n->i<=p->b.length=p->dC N nn i (((M.map ME.xs).zip nk).drop i) b a=some (b',a')->Z h0 h (DL bb bn x0 bm s2 s g2 root nn nk b M++(M.map ME.own++L)) ->
   Wp (gM n (aw x0) (arr bn m) s2 a (arr bb p) (arr bm p) (p:Int) (i:Int)) h λy h'=>y=a'/\Z h0 h' (DL bb bn x0 bm s2 s g2 root nn nk b' M++(M.map ME.own++L)):=by
 intro n
 induction n with
 |zero=>intro i h b b' a a' h1;omega
 |succ n ih=>
  intro i h b b' a a' h1 h2 hp hv z;rw[xw];unfold ko;by_cases hi:i<p
  .rw[BY (by simp;omega)];obtain⟨e,he⟩:=gU (l:=M) (i:=i) (by omega);obtain⟨sz,hz⟩:=gU (l:=nk) (i:=i) (by omega);have hzip:((M.map ME.xs).zip nk)[i]?=some (e.xs,sz):=by
    grind
   rw[drop_cons hzip,dC] at hv;cases hv1:dM N nn (i:Int) e.xs b a with
   |none=>rw[hv1] at hv;cases hv
   |some q1=>
   obtain⟨b1,a1⟩:=q1;rw[hv1] at hv;simp only at hv;cases hg:gt b1 (i:Int) with
   |none=>rw[hg] at hv;cases hv
   |some v=>
   rw[hg] at hv;simp only at hv;obtain⟨g1,gg⟩:=bH hg;refine yL (b:=bm) (m:=p) (by omega) (by omega) ?_;refine z.ld 4 (o:=(i:Int).toNat) (l:=.sl) (x:=e.s) ?_ rfl (by rw[aac,aaj,aaj,he];rfl) rfl;have hown:∀{b:δ},(.aD bb b ay::.aD bn (nn.map vi) ay::.ps s2 1 ay (nk.map vi) g2::.aD x0 [aS s,vi root] aj::.aD bm ((M.map ME.s).map aS) cw::(M.map ME.own++L):List dh)[i+5]?=some (.ps e.s 1 ay (e.xs.map vi) e.g):=by
    intro b;simp only[aaO];rw[aau (by simpa using aY he),aaj,he];rfl
   have hlen:e.s.len=e.xs.length:=(vA.DE (z.get _ (hown (b:=b.map vi)))).CL;have hel:=hle e (OF he);rw[ag];refine (WO G hB hm hel s2 (arr bm p) (p:Int) (i:Int) (λh' b z=>⟨_,vA.DE (z.get _ hown)⟩) hlen n 0 h b b1 a a1 (by omega) (by omega) hp (by simpa using hv1) z).mono λy h3 hy=>?_;obtain⟨rfl,z⟩:=hy;have hlb:b1.length=p:=by rw[KC hv1];exact hp
   refine yL (b:=bb) (m:=p) (by omega) (by omega) ?_;have hps:vA h3 s2 1 ay (nk.map vi) g2:=z.get 2 rfl;refine hps.DE.Yw (enc:=vi) (v:=sz) (by omega) (by simpa using hz) λad cl=>?_;refine z.ld 0 (o:=(i:Int).toNat) (l:=li) (x:=v) ?_ rfl (by rw[aaj,gg];rfl) rfl;refine cl.uI (l:=li) rfl rfl ?_;refine yL (b:=bb) (m:=p) (by omega) (by omega) ?_;refine z.zX 0 (xs:=b1) (enc:=vi) (v:=IntKind.i64.wrap (v+sz)) (aY gg) (λh4 z=>?_);rw[vV h2 (by have:=hB.2.1;omega)];exact ih (i+1) h4 _ b' y a' (by omega) (by omega) (by simpa using hlb) hv z
  .rw[By (by simp;omega),ah];have:((M.map ME.xs).zip nk).drop i=[]:=aah (by simp;omega);rw[this] at hv;cases hv;exact⟨rfl,z⟩
theorem IQ {s:Sl}{root:Int}{N:List aq}(z:Z h0 h L)(G:mE h0 s N){B:Nat}(hB:Bd N B){k n:Nat}(hk:k<=n)(hn:3*B+10<n){d:Int}{a:Bool}(hv:dep k N root=some (d,a)) :
  Wp (lN n (s,root)) h λx h'=>x=(d,a)/\Z h0 h' L:=by
 unfold lN;unfold dep at hv;cases hc:comp k N root with
 |none=>rw[hc] at hv;cases hv
 |some q=>
 obtain⟨nn,nk⟩:=q;rw[hc] at hv;simp only at hv;split at hv
 case isFalse=>cases hv
 rename_i hsz;cases hm:mem 0 nn (List.replicate nk.length []) with
 |none=>rw[hm] at hv;cases hv
 |some X=>
 rw[hm] at hv;simp only at hv;cases hd:dC N nn 0 (X.zip nk) (List.replicate nk.length 0) true with
 |none=>rw[hd] at hv;cases hv
 |some q=>
 obtain⟨b,a1⟩:=q;rw[hd] at hv;simp only at hv;cases hg:gt nn root with
 |none=>rw[hg] at hv;cases hv
 |some c=>
 rw[hg] at hv;simp only at hv;cases hg2:gt b c with
 |none=>rw[hg2] at hv;cases hv
 |some v=>
 rw[hg2] at hv;simp only[IN,abm] at hv;obtain⟨rfl,rfl⟩:=hv;have hNB:=hB.1;have hBB:=hB.2.1;refine z.new λx0 h1 z _=>?_;refine z.jV 0 (ls:=[.sl,li]) (x:=(s,root)) ?_;rw[ag];refine (D4 z G hB hk (by omega) hc).mono λy h2 hy=>?_;obtain⟨hnn,bn,s2,g2,rfl,z⟩:=hy;have hs2:s2.len=nk.length:=(vA.DE (z.get 1 rfl)).CL;simp only;rw[hs2];refine z.DV (by omega) (by unfold cN;omega) λbb h3 z _=>?_;refine z.DV (by omega) (by unfold cN;omega) λbm h4 z _=>?_;rw[aac] at z⊢;rw[l6 (enc:=vi),show aZ=aS jb from rfl,l6 (enc:=aS)] at z;have z:=Z.lA (pre:=[_,_,_,_,_]) z [1,2,3,4,0] (by simp only[aae,aam];decide);have hown:∀n,((List.replicate n (⟨⟨none,0,0⟩,0,[]⟩:ME)).map ME.own)=List.replicate n (.ps ⟨none,0,0⟩ 1 ay [] 0):=by
  intro n;rw[abN];rfl
 have addn:∀(n:Nat) {L:List dh},Z h0 h4 L->Z h0 h4 (List.replicate n (.ps ⟨none,0,0⟩ 1 ay [] 0)++L):=by
  intro n
  induction n with
  |zero=>intro L z;exact z
  |succ n ih=>intro L z;exact (ih z).add (Fr.refl z.wf) (o:=.ps ⟨none,0,0⟩ 1 ay [] 0) vA.nil (.inl rfl)
 have z:=addn nk.length z;have z:Z h0 h4 (DL bb bn x0 bm s2 s g2 root nn nk (List.replicate nk.length 0) (List.replicate nk.length ⟨⟨none,0,0⟩,0,[]⟩)++((List.replicate nk.length (⟨⟨none,0,0⟩,0,[]⟩:ME)).map ME.own++L)):=by
  refine z.perm ?_;rw[hown];have e:(List.replicate nk.length (⟨⟨none,0,0⟩,0,[]⟩:ME)).map ME.s=List.replicate nk.length jb:=by rw[abN]
  unfold DL;rw[e];simp only[aaq,aaP];have:=acM L (acd (l₁:=List.replicate nk.length (dh.ps ⟨none,0,0⟩ 1 ay [] 0)) (l₂:=[.aD bb ((List.replicate nk.length 0).map vi) ay,.aD bn (nn.map vi) ay,.ps s2 1 ay (nk.map vi) g2,.aD x0 [aS s,vi root] aj,.aD bm ((List.replicate nk.length jb).map aS) cw]))
  simp_all
 rw[ag];have hl0:=WM (L:=L) (h0:=h0) hnn (by omega) (arr bb nk.length) true s2 (arr bn N.length) n 0 h4 (List.replicate nk.length ⟨⟨none,0,0⟩,0,[]⟩) X (by omega) (by omega) (by rw[abN];exact hm) (λe he=>by rw[abu he];simp) z;rw[aax] at hl0;refine hl0.mono λ_ h5 hx=>?_;obtain⟨M,rfl,z⟩:=hx;have hML:M.length=nk.length:=by have:=L8 hm;simpa using this
 rw[ag];refine (WQ G hB hnn hML rfl (by omega) (λe he=>?_) n 0 h5 _ b true a1 (by omega) (by omega) (by simp) (by simpa using hd) z).mono λy h6 hy=>?_
 .have:=Ru hm (λxs hx=>by rw[abu hx];simp) e.xs (List.mem_map.2 ⟨e,he,rfl⟩);omega
 obtain⟨rfl,z⟩:=hy;refine z.ld 3 (o:=1) (l:=li) (x:=root) ?_;refine z.OM (c:=nn) 1 hg hnn ?_;have hbl:b.length=nk.length:=by rw[Rv hd,aax]
 refine z.OM (c:=b) (m:=nk.length) 0 hg2 hbl ?_;rw[ah];refine⟨rfl,?_⟩;have z:=z.drop.drop.drop.drop.drop;exact z.sub (ab1 _ _)
end
section
variable {α β:Type}{h h' h0:af}{L:List dh}{Q:β->af->Prop}
def gA:List Bool->List aq->Option Bool
 |m::ms,x::xs=>if m=false then some false else match s6 x with
  |none=>none
  |some false=>some false
  |some true=>gA ms xs
 |_,[]=>some true
 |[],_::_=>none
def gB:List Bool->ε->Bool
 |b::bs,c::cs=>if b=true/\c≠1 then false else gB bs cs
 |_,_=>true
def sq (k:Nat)(N:List aq)(root:Int):Option Int:=
 if 4096<N.length then some 7
 else if N.length=0 then some 3
 else if KA N root=false then some 3
 else match A5 k N root (List.replicate N.length false) with
  |none=>none
  |some ms=>match gA ms N with
   |none=>none
   |some false=>some 3
   |some true=>match Ss N root with
    |none=>none
    |some c=>match Su k N N (List.replicate N.length false) with
     |none=>none
     |some ks=>
      if gB ks c=false then some 3
      else match Hi k N N with
       |none=>none
       |some true=>some 8
       |some false=>match dep k N root with
        |none=>none
        |some (d,_)=>if 32<d then some 5 else some 0
theorem Rx {s:Sl}{N:List aq}(G:mE h0 s N){B:Nat}(hB:Bd N B)(ht:∀x∈N,x.text.size<=65536){bm:Nat}{ms:List Bool}(hm:ms.length=N.length){e:κ}(a0:Addr) :
  ∀(n i:Nat) (r:Bool) (h:af) (L:List dh),(N.length-i)+65540<n->i<=N.length->gA (ms.drop i) (N.drop i)=some r->Z h0 h (.aD bm (ms.map .bool) e::L) ->
   Wp (gP n a0 (arr bm N.length) s (s.len:Int) (i:Int)) h λy h'=>y=(if r then .inl () else .inr 3)/\Z h0 h' (.aD bm (ms.map .bool) e::L):=by
 intro n
 induction n with
 |zero=>intro i r h L h1;omega
 |succ n ih=>
  intro i r h L h1 h2 hv z;rw[xz];unfold kr;rw[G.len];by_cases hi:i<N.length
  .rw[BY (by simp;omega)];obtain⟨x,hx⟩:=gU hi;obtain⟨b,hb⟩:=gU (l:=ms) (i:=i) (by omega);rw[drop_cons hx,drop_cons hb,gA] at hv;refine G.at z (by omega) (by simpa using hx) λa ks is nd ik ii=>nd.jV ?_;refine z.node λx2 h2' z=>?_;refine z.ZE (c:=ms) 1 (v:=b) (by unfold gt;rw[BY (by omega)];simpa using hb) hm ?_;cases b with
   |false=>
    rw[BY rfl] at hv;cases hv;rw[BY (by rfl),ah];exact⟨rfl,z.drop⟩
   |true=>
    rw[By (by simp)] at hv;rw[By (by simp)];refine z.jV 0 (ls:=[li,.str,.bool,.sl,.sl]) (x:=(x.kind,x.text,x.ord,ks,is)) ?_;cases hf:s6 x with
    |none=>rw[hf] at hv;cases hv
    |some f=>
     rw[hf] at hv;have htx:=ht x (OF hx);rw[ag];refine (TF z ik ii htx (by omega) hf).mono λy h3 hy=>?_;obtain⟨rfl,z⟩:=hy;cases y with
     |false=>
      cases hv;rw[BY (by rfl),ah];exact⟨rfl,z.drop⟩
     |true=>
      simp only at hv;rw[By (by simp),vV h2 (by have:=hB.1;have:=hB.2.1;omega)];have:=ih (i+1) r h3 L (by omega) (by omega) hv z.drop
      rwa [G.len] at this
  .rw[By (by simp;omega),ah];have e1:N.drop i=[]:=aah (by omega);have e2:ms.drop i=[]:=aah (by omega);rw[e1,e2] at hv;cases hv;exact⟨rfl,z⟩
theorem Ry {bk bc m:Nat}{ks:List Bool}{c:ε}(hk:ks.length=m)(hc:c.length=m)(hb:m<1073741824){e1 e2:κ}(a0:Addr)(z:Z h0 h (.aD bk (ks.map .bool) e1::.aD bc (c.map vi) e2::L)) :
  ∀(n i:Nat),m-i<n->i<=m->Wp (gO n a0 (arr bc m) (arr bk m) (m:Int) (i:Int)) h λy h'=>y=(if gB (ks.drop i) (c.drop i) then .inl () else .inr 3)/\h'=h:=by
 intro n
 induction n with
 |zero=>intro i h1;omega
 |succ n ih=>
  intro i h1 h2;rw[xy];unfold kq;by_cases hi:i<m
  .rw[BY (by simp;omega)];obtain⟨b,hb⟩:=gU (l:=ks) (i:=i) (by omega);obtain⟨v,hv⟩:=gU (l:=c) (i:=i) (by omega);have hg:gB (ks.drop i) (c.drop i)=if b=true/\v≠1 then false else gB (ks.drop (i+1)) (c.drop (i+1)):=by rw[drop_cons hb,drop_cons hv,gB]
   rw[hg];clear hg;refine z.ZE (c:=ks) 0 (v:=b) (by unfold gt;rw[BY (by omega)];simpa using hb) hk ?_;have hnx:=ih (i+1) (by omega) (by omega);rw[<-vV h2 (by omega)] at hnx;cases b with
   |false=>
    have e:(if false=true/\v≠1 then false else gB (ks.drop (i+1)) (c.drop (i+1)))=gB (ks.drop (i+1)) (c.drop (i+1)):=By (by simp);rw[e,By (by simp)];exact hnx
   |true=>
    rw[BY rfl];refine z.OM (c:=c) 1 (v:=v) (by unfold gt;rw[BY (by omega)];simpa using hv) hc ?_;by_cases h1:v=1
    .have e:(if true=true/\v≠1 then false else gB (ks.drop (i+1)) (c.drop (i+1)))=gB (ks.drop (i+1)) (c.drop (i+1)):=By (by simp[h1]);rw[e,By (by simpa using h1)];exact hnx
    .have e:(if true=true/\v≠1 then false else gB (ks.drop (i+1)) (c.drop (i+1)))=false:=BY ⟨rfl,h1⟩;rw[e,BY (by simpa using h1),ah];exact⟨rfl,rfl⟩
  .rw[By (by simp;omega),ah];have e1:ks.drop i=[]:=aah (by omega);rw[e1];exact⟨rfl,rfl⟩
theorem qo {s:Sl}{root:Int}{N:List aq}(z:Z h0 h L)(G:mE h0 s N){B:Nat}(hB:Bd N B)(ht:∀x∈N,x.text.size<=65536){k n:Nat}(hn:k+4*B+65600<n){r:Int}(hv:sq k N root=some r) :
  Wp (dD n (s,root)) h λx h'=>x=r/\Z h0 h' L:=by
 have hNB:=hB.1;have hBB:=hB.2.1;unfold dD;unfold sq at hv;refine z.new λx0 h1 z _=>?_;refine z.ld 0 (o:=0) (l:=.sl) ?_;rw[G.len];by_cases c1:4096<N.length
 .rw[BY c1] at hv;cases hv;rw[BY (by simp;omega),ah];exact⟨rfl,z.drop⟩
 rw[By c1] at hv;rw[By (by simp;omega)];refine z.ld 0 (o:=0) (l:=.sl) ?_;rw[G.len];by_cases c2:N.length=0
 .rw[BY c2] at hv;cases hv;rw[BY (by simp[c2]),ah];exact⟨rfl,z.drop⟩
 rw[By c2] at hv;rw[By (by simp;exact λe=>c2 (by simp[e]))];refine z.jV 0 (ls:=[.sl,li]) (x:=(s,root)) ?_;rw[ag];refine (KB z G hB (by omega)).mono λy h2 hy=>?_;obtain⟨rfl,z⟩:=hy;cases c3:KA N root with
 |false=>
  rw[BY c3] at hv;cases hv;rw[BY (by rfl),ah];exact⟨rfl,z.drop⟩
 |true=>
 rw[By (by simp[c3])] at hv;rw[By (by simp)];unfold lO;refine z.ld 0 (o:=0) (l:=.sl) ?_;rw[G.len];refine z.DV (by omega) (by unfold cN;omega) λbm h3 z _=>?_;rw[aac] at z⊢;rw[l6 (enc:=Value.bool)] at z;refine z.jV 1 (ls:=[.sl,li]) (x:=(s,root)) ?_;refine z.ld 1 (o:=1) (l:=li) (x:=root) ?_;cases hvis:A5 k N root (List.replicate N.length false) with
 |none=>rw[hvis] at hv;cases hv
 |some ms=>
 rw[hvis] at hv;simp only at hv;rw[ag];have hms:ms.length=N.length:=by have:=(GZ k N).1 _ _ _ hvis;simpa using this
 have hw:=Dd (cap:=N.length+1) z G hB hvis (n:=n) (root:=root) (by omega);rw[aax] at hw;refine hw.mono λ_ h4 z=>?_;refine z.ld 1 (o:=0) (l:=.sl) ?_;cases hA:gA ms N with
 |none=>rw[hA] at hv;cases hv
 |some b=>
 rw[hA] at hv;rw[ag];refine (Rx G hB ht hms (aw x0) n 0 b h4 _ (by omega) (by omega) (by simpa using hA) z).mono λy h5 hy=>?_;obtain⟨rfl,z⟩:=hy;cases b with
 |false=>cases hv;exact ah.2 ⟨rfl,z.drop.drop⟩
 |true=>
 simp only at hv;show Wp (AI _ _) h5 _;refine z.jV 1 (ls:=[.sl,li]) (x:=(s,root)) ?_;cases hc:Ss N root with
 |none=>rw[hc] at hv;cases hv
 |some c=>
 rw[hc] at hv;simp only at hv;rw[ag];refine (OH z G hB (by omega) hc).mono λy h6 hy=>?_;obtain⟨bc,rfl,hcl,z⟩:=hy;refine z.jV 2 (ls:=[.sl,li]) (x:=(s,root)) ?_;cases hi:Su k N N (List.replicate N.length false) with
 |none=>rw[hi] at hv;cases hv
 |some ks=>
 rw[hi] at hv;simp only at hv;rw[ag];refine (OJ (k:=k) z G hB (by omega) hi).mono λy h7 hy=>?_;obtain⟨bk,rfl,hkl,z⟩:=hy;rw[ag];refine (Ry hkl hcl (by omega) (aw x0) z n 0 (by omega) (by omega)).mono λy h8 hy=>?_;obtain⟨rfl,rfl⟩:=hy;simp only[acR];cases hgB:gB ks c with
 |false=>
  rw[BY hgB] at hv;cases hv;exact ah.2 ⟨rfl,z.drop.drop.drop.drop⟩
 |true=>
 rw[By (by simp[hgB])] at hv;show Wp (AI _ _) h8 _;refine z.jV 3 (ls:=[.sl,li]) (x:=(s,root)) ?_;cases htw:Hi k N N with
 |none=>rw[htw] at hv;cases hv
 |some b=>
 rw[htw] at hv;rw[ag];refine (Rq (k:=k) z G hB (by omega) htw).mono λy h9 hy=>?_;obtain⟨rfl,z⟩:=hy;cases y with
 |true=>cases hv;rw[BY rfl,ah];exact⟨rfl,z.drop.drop.drop.drop⟩
 |false=>
 simp only at hv;rw[By (by simp)];refine z.jV 3 (ls:=[.sl,li]) (x:=(s,root)) ?_;cases hd:dep k N root with
 |none=>rw[hd] at hv;cases hv
 |some q=>
 obtain⟨d,a⟩:=q;rw[hd] at hv;simp only at hv;rw[ag];refine (IQ z G hB (k:=k) (by omega) (by omega) hd).mono λy h10 hy=>?_;obtain⟨rfl,z⟩:=hy;by_cases h32:32<d
 .rw[BY h32] at hv;cases hv;rw[BY (by simpa using h32),ah];exact⟨rfl,z.drop.drop.drop.drop⟩
 .rw[By h32] at hv;cases hv;rw[By (by simpa using h32),ah];exact⟨rfl,z.drop.drop.drop.drop⟩
end
section
variable {α β:Type}{h h' h0:af}{L:List dh}{Q:β->af->Prop}
def ZF:List Bool->Nat->ε
 |[],_=>[]
 |b::bs,n=>(n:Int)::ZF bs (if b then n+1 else n)
def ZG (at':ε):ε->Option ε
 |[]=>some []
 |x::xs=>match gt at' x,ZG at' xs with
  |some v,some r=>some (v::r)
  |_,_=>none
def kN (at':ε):List Bool->List aq->Option (List aq)
 |_,[]=>some []
 |[],_::_=>none
 |b::bs,x::xs=>if b then match ZG at' x.keys,ZG at' x.items,kN at' bs xs with
   |some ks,some is,some r=>some ({ x with keys:=ks,items:=is }::r)
   |_,_,_=>none
  else kN at' bs xs
def kept (k:Nat)(N:List aq)(root:Int):Option (List aq×Int):=match A5 k N root (List.replicate N.length false) with
 |none=>none
 |some ms=>match gt (ZF ms 0) root,kN (ZF ms 0) ms N with
  |some r,some N'=>some (N',r)
  |_,_=>none
theorem fill {ys:ε}{i:Nat}{v:Int}(hv:ys[i]?=some v):(ys.take i++List.replicate (ys.length-i) 0).set i v=ys.take (i+1)++List.replicate (ys.length-(i+1)) 0:=by
 have hlt:=aY hv;have e:ys.length-i=(ys.length-(i+1))+1:=by omega
 rw[acb _ _ (by simp;omega),e,abv,aaI,acJ (by omega),abI,abp,acz,hv,aas];rfl
theorem wO {cks:List θ}{m:M α}{f:α->M β}{P:α->af->Prop}(ha:∀a,some a∈cks->∃cs e,LB h a.block cs e/\∀r h',P r h'->LB h' a.block cs e)(hm:Wp m h P)(q:∀r h',P r h'->Wp (f r) h' Q):Wp (AI (kO cks m) f) h Q:=by
 rw[ag];refine JZ (hm.mono λr h' hp=>⟨λa hma=>?_,q r h' hp⟩);obtain⟨cs,e,l1,l2⟩:=ha a hma;rw[(l2 r h' hp).get,l1.get]
end
end Go.Sh
