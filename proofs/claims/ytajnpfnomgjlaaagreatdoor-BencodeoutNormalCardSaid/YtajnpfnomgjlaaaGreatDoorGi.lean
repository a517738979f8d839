
import Derived.Test.YtajnpfnomgjlaaaGreatDoorGr
import Derived.Test.YtajnpfnomgjlaaaGreatDoorSh1
set_option linter.all false
namespace Go.Sh
open Go Go.Ago Go.Proofs
variable {α β:Type}{h h' h0:ai}{L:List bG}{Q:β->ai->Prop}
def Bd (N:List av)(B:Nat):Prop:=N.length<=B/\B<1073741824/\∀x∈N,x.keys.length<=B/\x.items.length<=B
theorem vk {i B:Nat}(h1:i<=B)(h2:B<1073741824):IntKind.i64.wrap ((i:Int)+1)=((i+1:Nat):Int):=by
 rw[ag7 (by omega) (by omega)];rfl
theorem drop_cons {l:List α}{i x}(hx:l[i]?=some x):l.drop i=x::l.drop (i+1):=by
 grind [List.getElem?_eq_some_iff,List.drop_eq_getElem_cons]
theorem eY {l:List α}{i}(hi:i<l.length):∃x,l[i]?=some x:=⟨l[i],ace hi⟩
def xy (n:Nat)(x:Int):Bool:=decide (0<=x)&&decide (x<(n:Int))
def H3 (N:List av)(root:Int):Bool:=xy N.length root&&N.all λx=>x.keys.all (xy N.length)&&x.items.all (xy N.length)
theorem XR {s s5 s8 root g a0}(cg:Cl h a0 [aI s,vi root] g){xs}(il:IL h s8 xs){B}(hB:B<1073741824)(hl:xs.length<=B) a2 a3 a4 a6 a7 :
  ∀n i b ,xs.length-i<n->i<=xs.length->Wp (gO n a0 b a2 a3 a4 s5 a6 a7 s8 (s8.len:Int) (i:Int)) h λr h'=>h'=h/\r=(b&&(xs.drop i).all (xy s.len)):=by
 intro n
 induction n with
 |zero=>intro i b h1;omega
 |succ n ih=>
  intro i b h1 h2;rw[yQ];unfold lB;rw[il.len];by_cases hi:i<xs.length
  .rw[By (by simp;omega)];obtain⟨x,hx⟩:=eY hi;refine il.ix (by omega) (by simpa using hx) λa g2 c=>c.rD rfl rfl ?_;rw[vk h2 (by omega),drop_cons hx,ajF];have ih':=λb=>ih (i+1) b (by omega) (by omega);rw[il.len] at ih';cases b with
   |false=>
    simp only[afl,ahk,ai2];exact (ih' false).mono λr h' h3=>by simpa using h3
   |true=>
    simp only[aiG,ajj];by_cases hx0:0<=x
    .rw[By (by simpa using hx0)];refine cg.ld rfl rfl ?_;refine (ih' _).mono λr h' h3=>⟨h3.1,?_⟩;rw[h3.2];simp[xy,hx0]
    .rw[AT (by simpa using hx0)];refine (ih' _).mono λr h' h3=>⟨h3.1,?_⟩;rw[h3.2];simp[xy,hx0]
  .rw[AT (by simp;omega),ag]
   grind
theorem ae5 {s root g b1 g1 a0}(cg:Cl h a0 [aI s,vi root] g){ks is kl il}(ik:IL h ks kl)(ii:IL h is il){B}(hB:B<1073741824)(hl:kl.length<=B)(hl2:il.length<=B)
  (c1:Cl h ⟨b1,0,none⟩ [aI ks,aI is] g1) a2 a3 a4 n b (hn:B+5<=n) :
  Wp (gP n a0 b a2 a3 a4 { a:=some (al b1),len:=2,cap:=3 } (2:Nat) 0) h λr h'=>h'=h/\r=(b&&(kl.all (xy s.len)&&il.all (xy s.len))):=by
 obtain⟨n,rfl⟩:∃m,n=m+3:=⟨n-3,by omega⟩;have rs:wq h { a:=some (al b1),len:=2,cap:=3 } 1 [aI ks,aI is] g1:=⟨rfl,.inr ⟨_,rfl,c1⟩⟩;rw[pz];unfold gI;rw[By (by decide)];refine rs.ix (by decide) (by simp) λa c=>c.rD rfl rfl ?_;rw[ah];refine (XR cg ik hB hl a2 a3 a4 _ _ _ 0 b (by omega) (by omega)).mono λr h' h3=>?_;obtain⟨rfl,rfl⟩:=h3;rw[show IntKind.i64.wrap (0+1)=1 from by decide,pz];unfold gI;rw[By (by decide)];refine rs.ix (by decide) (by simp) λa c=>c.rD rfl rfl ?_;rw[ah];refine (XR cg ii hB hl2 a2 a3 a4 _ _ _ 0 _ (by omega) (by omega)).mono λr h' h3=>?_;obtain⟨rfl,rfl⟩:=h3;rw[show IntKind.i64.wrap (1+1)=2 from by decide,pz];unfold gI;rw[AT (by decide),ag];simp[Bool.and_assoc]
theorem ae6 {s root N}(G:oI h0 s N){B}(hB:Bd N B){b0} :
  ∀n i b h L (z:Z h0 h (.au b0 [aI s,vi root] aj::L)),N.length-i+B+5<n->i<=N.length ->
   Wp (gQ n (al b0) b s (s.len:Int) (i:Int)) h λr h'=>(r=(b&&(N.drop i).all λx=>x.keys.all (xy N.length)&&x.items.all (xy N.length)))/\Z h0 h' (.au b0 [aI s,vi root] aj::L):=by
 intro n
 induction n with
 |zero=>intro i b h L z h1;omega
 |succ n ih=>
  intro i b h L z h1 h2;rw[yR];unfold lC;rw[G.len];by_cases hi:i<N.length
  .rw[By (by simp;omega)];obtain⟨x,hx⟩:=eY hi;refine G.at z (by omega) (by simpa using hx) λa ks is nd ik ii=>nd.iN ?_;refine z.node λx2 h2' z=>?_;refine z.ld 0 ?_;refine z.ld 0 ?_;refine z.new λx6 h4 z f2=>?_;rw[ah];have hb:=hB.2.2 x (BY hx);refine (ae5 (z.cl 2 rfl) (ik.fr z.fr) (ii.fr z.fr) hB.2.1 hb.1 hb.2 (z.cl 0 rfl) _ _ _ n b (by omega)).mono λr h' h3=>?_;obtain⟨rfl,rfl⟩:=h3;rw[vk (aid hi) (by have:=hB.1;have:=hB.2.1;omega)];have ih':=ih (i+1) (b&&(x.keys.all (xy s.len)&&x.items.all (xy s.len))) _ L z.drop.drop (by omega) (by omega);rw[G.len] at ih'⊢;refine ih'.mono λr h5 h6=>⟨?_,h6.2⟩;rw[h6.1,drop_cons hx,ajF,Bool.and_assoc]
  .rw[AT (by simp;omega),ag]
   grind
theorem PN {s root N}(z:Z h0 h L)(G:oI h0 s N){B}(hB:Bd N B){n}(hn:2*B+6<n) :
  Wp (pf n (s,root)) h λr h'=>r=H3 N root/\Z h0 h' L:=by
 unfold pf;have J:∀b h x0,Z h0 h (.au x0 [aI s,vi root] aj::L)->Wp (jf n (al x0) b) h λr h'=>(r=(b&&N.all λx=>x.keys.all (xy N.length)&&x.items.all (xy N.length)))/\Z h0 h' L:=by
  intro b h x0 z;unfold jf;refine z.ld 0 ?_;rw[ah];refine (ae6 G hB n 0 b h L z (by have:=hB.1;omega) (by omega)).mono λr h' h1=>?_;rw[ag];exact⟨by simpa using h1.1,h1.2.drop⟩
 refine z.new λx0 h1 z f1=>?_;refine z.ld 0 ?_;by_cases h0r:0<=root
 .rw[By (by simpa using h0r)];refine z.ld 0 ?_;refine z.ld 0 ?_;refine (J _ _ _ z).mono λr h' h2=>⟨?_,h2.2⟩;rw[h2.1,G.len];simp[H3,xy,h0r]
 .rw[AT (by simpa using h0r)];refine (J _ _ _ z).mono λr h' h2=>⟨?_,h2.2⟩;rw[h2.1];simp[H3,xy,h0r]
end Go.Sh
