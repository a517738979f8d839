
import Derived.Test.YtmfkngdglbcngaaGreatDoorGr
import Derived.Test.YtmfkngdglbcngaaGreatDoorSh3
set_option linter.all false
namespace Go.Sh
open Go Go.Ago Go.Proofs
variable {α β:Type}{h h' h0:af}{L:List bu}{Q:β->af->Prop}
def Bd (N:List ak)(B:Nat):Prop:=N.length<=B/\B<1073741824/\∀x∈N,x.keys.length<=B/\x.items.length<=B
theorem vq {i B:Nat}(h1:i<=B)(h2:B<1073741824):IntKind.i64.wrap ((i:Int)+1)=((i+1:Nat):Int):=by
 rw[afi (by omega) (by omega)];rfl
theorem drop_cons {l:List α}{i:Nat}{x:α}(hx:l[i]?=some x):l.drop i=x::l.drop (i+1):=by
 grind [List.getElem?_eq_some_iff,List.drop_eq_getElem_cons]
theorem fY {l:List α}{i:Nat}(hi:i<l.length):∃x,l[i]?=some x:=⟨l[i],abi hi⟩
def wy (n:Nat)(x:Int):Bool:=decide (0<=x)&&decide (x<(n:Int))
def F9 (N:List ak)(root:Int):Bool:=wy N.length root&&N.all λx=>x.keys.all (wy N.length)&&x.items.all (wy N.length)
theorem Wb {s s5 s8:Sl}{root:Int}{g:Nat}{a0:Addr}(cg:Cl h a0 [aH s,vi root] g){xs:ε}(il:IL h s8 xs){B:Nat}(hB:B<1073741824)(hl:xs.length<=B)(a2:Sl)(a3 a4 a6 a7:Int) :
  ∀(n i:Nat) (b:Bool),xs.length-i<n->i<=xs.length->Wp (jq n a0 b a2 a3 a4 s5 a6 a7 s8 (s8.len:Int) (i:Int)) h λr h'=>h'=h/\r=(b&&(xs.drop i).all (wy s.len)):=by
 intro n
 induction n with
 |zero=>intro i b h1;omega
 |succ n ih=>
  intro i b h1 h2;rw[xP];unfold pK;rw[il.len];by_cases hi:i<xs.length
  .rw[AT (by simp;omega)];obtain⟨x,hx⟩:=fY hi;refine il.ix (by omega) (by simpa using hx) λa g2 c=>c.sy (l:=li) rfl rfl ?_;rw[vq h2 (by omega),drop_cons hx,ah7];have ih':=λb=>ih (i+1) b (by omega) (by omega);rw[il.len] at ih';cases b with
   |false=>
    simp only[adZ,aeL,ais];exact (ih' false).mono λr h' h3=>by simpa using h3
   |true=>
    simp only[agN,ahL];by_cases hx0:0<=x
    .rw[AT (by simpa using hx0)];refine cg.ld (o:=0) (l:=.sl) rfl rfl ?_;refine (ih' _).mono λr h' h3=>⟨h3.1,?_⟩;rw[h3.2];simp[wy,hx0]
    .rw[By (by simpa using hx0)];refine (ih' _).mono λr h' h3=>⟨h3.1,?_⟩;rw[h3.2];simp[wy,hx0]
  .rw[By (by simp;omega),ag]
   grind
theorem adf {s:Sl}{root:Int}{g b1 g1:Nat}{a0:Addr}(cg:Cl h a0 [aH s,vi root] g){ks is:Sl}{kl il:ε}(ik:IL h ks kl)(ii:IL h is il){B:Nat}(hB:B<1073741824)(hl:kl.length<=B)(hl2:il.length<=B)
  (c1:Cl h ⟨b1,0,none⟩ [aH ks,aH is] g1) (a2:Sl) (a3 a4:Int) (n:Nat) (b:Bool) (hn:B+5<=n) :
  Wp (jr n a0 b a2 a3 a4 { a:=some (an b1),len:=2,cap:=3 } (2:Nat) 0) h λr h'=>h'=h/\r=(b&&(kl.all (wy s.len)&&il.all (wy s.len))):=by
 obtain⟨n,rfl⟩:∃m,n=m+3:=⟨n-3,by omega⟩;have rs:rk h { a:=some (an b1),len:=2,cap:=3 } 1 [aH ks,aH is] g1:=⟨rfl,.inr ⟨_,rfl,c1⟩⟩;rw[nD];unfold jA;rw[AT (by decide)];refine rs.ix (k:=0) (by decide) (by simp) λa c=>c.sy (l:=.sl) rfl rfl ?_;rw[ah];refine (Wb cg ik hB hl a2 a3 a4 _ _ _ 0 b (by omega) (by omega)).mono λr h' h3=>?_;obtain⟨rfl,rfl⟩:=h3;rw[show IntKind.i64.wrap (0+1)=1 from by decide,nD];unfold jA;rw[AT (by decide)];refine rs.ix (k:=1) (by decide) (by simp) λa c=>c.sy (l:=.sl) rfl rfl ?_;rw[ah];refine (Wb cg ii hB hl2 a2 a3 a4 _ _ _ 0 _ (by omega) (by omega)).mono λr h' h3=>?_;obtain⟨rfl,rfl⟩:=h3;rw[show IntKind.i64.wrap (1+1)=2 from by decide,nD];unfold jA;rw[By (by decide),ag];simp[Bool.and_assoc]
theorem adg {s:Sl}{root:Int}{N:List ak}(G:kX h0 s N){B:Nat}(hB:Bd N B){b0:Nat} :
  ∀(n i:Nat) (b:Bool) (h:af) (L:List bu) (z:Z h0 h (.au b0 [aH s,vi root] aj::L)),N.length-i+B+5<n->i<=N.length ->
   Wp (ju n (an b0) b s (s.len:Int) (i:Int)) h λr h'=>(r=(b&&(N.drop i).all λx=>x.keys.all (wy N.length)&&x.items.all (wy N.length)))/\Z h0 h' (.au b0 [aH s,vi root] aj::L):=by
 intro n
 induction n with
 |zero=>intro i b h L z h1;omega
 |succ n ih=>
  intro i b h L z h1 h2;rw[xQ];unfold pL;rw[G.len];by_cases hi:i<N.length
  .rw[AT (by simp;omega)];obtain⟨x,hx⟩:=fY hi;refine G.at z (by omega) (by simpa using hx) λa ks is nd ik ii=>nd.fC ?_;refine z.node λx2 h2' z=>?_;refine z.ld 0 (o:=3) (l:=.sl) ?_;refine z.ld 0 (o:=4) (l:=.sl) ?_;refine z.new λx6 h4 z f2=>?_;rw[ah];have hb:=hB.2.2 x (IN hx);refine (adf (z.cl 2 rfl) (ik.fr z.fr) (ii.fr z.fr) hB.2.1 hb.1 hb.2 (z.cl 0 rfl) _ _ _ n b (by omega)).mono λr h' h3=>?_;obtain⟨rfl,rfl⟩:=h3;rw[vq (ag4 hi) (by have:=hB.1;have:=hB.2.1;omega)];have ih':=ih (i+1) (b&&(x.keys.all (wy s.len)&&x.items.all (wy s.len))) _ L z.drop.drop (by omega) (by omega);rw[G.len] at ih'⊢;refine ih'.mono λr h5 h6=>⟨?_,h6.2⟩;rw[h6.1,drop_cons hx,ah7,Bool.and_assoc]
  .rw[By (by simp;omega),ag]
   grind
theorem O1 {s:Sl}{root:Int}{N:List ak}(z:Z h0 h L)(G:kX h0 s N){B:Nat}(hB:Bd N B){n:Nat}(hn:2*B+6<n) :
  Wp (sA n (s,root)) h λr h'=>r=F9 N root/\Z h0 h' L:=by
 unfold sA;have J:∀b h x0,Z h0 h (.au x0 [aH s,vi root] aj::L)->Wp (lC n (an x0) b) h λr h'=>(r=(b&&N.all λx=>x.keys.all (wy N.length)&&x.items.all (wy N.length)))/\Z h0 h' L:=by
  intro b h x0 z;unfold lC;refine z.ld 0 (o:=0) (l:=.sl) ?_;rw[ah];refine (adg G hB n 0 b h L z (by have:=hB.1;omega) (by omega)).mono λr h' h1=>?_;rw[ag];exact⟨by simpa using h1.1,h1.2.drop⟩
 refine z.new λx0 h1 z f1=>?_;refine z.ld 0 (o:=1) (l:=li) ?_;by_cases h0r:0<=root
 .rw[AT (by simpa using h0r)];refine z.ld 0 (o:=1) (l:=li) ?_;refine z.ld 0 (o:=0) (l:=.sl) ?_;refine (J _ _ _ z).mono λr h' h2=>⟨?_,h2.2⟩;rw[h2.1,G.len];simp[F9,wy,h0r]
 .rw[By (by simpa using h0r)];refine (J _ _ _ z).mono λr h' h2=>⟨?_,h2.2⟩;rw[h2.1];simp[F9,wy,h0r]
end Go.Sh
