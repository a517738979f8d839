
import Derived.Test.YtpojbnjkkkiccaaGreatDoorGr
import Derived.Test.YtpojbnjkkkiccaaGreatDoorSh1
set_option linter.all false
namespace Go.Sh
open Go Go.Ago Go.Proofs
variable {α β:Type}{h h' h0:ai}{L:List aZ}{Q:β->ai->Prop}
def Bd (N:List aq)(B:Nat):Prop:=N.length<=B/\B<1073741824/\∀x∈N,x.keys.length<=B/\x.items.length<=B
theorem wZ {i B:Nat}(h1:i<=B)(h2:B<1073741824):IntKind.i64.wrap ((i:Int)+1)=((i+1:Nat):Int):=by
 grind [amz]
theorem drop_cons {l:List α}{i}{x}(hx:l[i]?=some x):l.drop i=x::l.drop (i+1):=by
 grind [List.getElem?_eq_some_iff,List.drop_eq_getElem_cons]
theorem eC {l:List α}{i}(hi:i<l.length):∃x,l[i]?=some x:=⟨l[i],aci hi⟩
def zA (n:Nat)(x:Int):Bool:=decide (0<=x)&&decide (x<(n:Int))
def LN (N:List aq)(root:Int):Bool:=zA N.length root&&N.all λx=>x.keys.all (zA N.length)&&x.items.all (zA N.length)
theorem aa2 {s s5 s8}{root}{g}{a0}(cg:Cl h a0 [aA s,vi root] g){xs}(il:IL h s8 xs){B}(hB:B<1073741824)(hl:xs.length<=B) a2 a3 a4 a6 a7 :
  ∀n i b ,xs.length-i<n->i<=xs.length->Wp (mC n a0 b a2 a3 a4 s5 a6 a7 s8 (s8.len:Int) (i:Int)) h λr h'=>h'=h/\r=(b&&(xs.drop i).all (zA s.len)):=by
 intro n
 induction n with
 |zero=>intro i b h1;omega
 |succ n ih=>
  intro i b h1 h2;rw[A3];unfold rS;rw[il.len];by_cases hi:i<xs.length
  .rw[By (by grind)];obtain⟨x,hx⟩:=eC hi;refine il.ix (by omega) (by simpa using hx) λa g2 c=>c.sL rfl rfl ?_;rw[wZ h2 (by omega),drop_cons hx,aoK];have ih':=λb=>ih (i+1) b (by omega) (by omega);rw[il.len] at ih';cases b with
   |false=>
    simp only[aft,afM,apm];exact (ih' false).mono λr h' h3=>by grind
   |true=>
    simp only[amt,aoI];by_cases hx0:0<=x
    .rw[By (by grind)];refine cg.ld rfl rfl ?_;refine (ih' _).mono λr h' h3=>⟨h3.1,?_⟩
     grind [zA]
    .rw[AT (by grind)];refine (ih' _).mono λr h' h3=>⟨h3.1,?_⟩
     grind [zA]
  .rw[AT (by grind),ag]
   grind
theorem akt {s}{root}{g b1 g1}{a0}(cg:Cl h a0 [aA s,vi root] g){ks is}{kl il}(ik:IL h ks kl)(ii:IL h is il){B}(hB:B<1073741824)(hl:kl.length<=B)(hl2:il.length<=B)
  (c1:Cl h ⟨b1,0,none⟩ [aA ks,aA is] g1) a2 a3 a4 n b (hn:B+5<=n) :
  Wp (mD n a0 b a2 a3 a4 { a:=some (ak b1),len:=2,cap:=3 } (2:Nat) 0) h λr h'=>h'=h/\r=(b&&(kl.all (zA s.len)&&il.all (zA s.len))):=by
 obtain⟨n,rfl⟩:∃m,n=m+3:=⟨n-3,by omega⟩;have rs:vR h { a:=some (ak b1),len:=2,cap:=3 } 1 [aA ks,aA is] g1:=⟨rfl,.inr ⟨_,rfl,c1⟩⟩;rw[o9];unfold kh;rw[By (by decide)];refine rs.ix (by decide) (by simp) λa c=>c.sL rfl rfl ?_;rw[ah];refine (aa2 cg ik hB hl a2 a3 a4 _ _ _ 0 b (by omega) (by omega)).mono λr h' h3=>?_;obtain⟨rfl,rfl⟩:=h3;rw[show IntKind.i64.wrap (0+1)=1 from by decide,o9];unfold kh;rw[By (by decide)];refine rs.ix (by decide) (by simp) λa c=>c.sL rfl rfl ?_;rw[ah];refine (aa2 cg ii hB hl2 a2 a3 a4 _ _ _ 0 _ (by omega) (by omega)).mono λr h' h3=>?_;obtain⟨rfl,rfl⟩:=h3;rw[show IntKind.i64.wrap (1+1)=2 from by decide,o9];unfold kh;rw[AT (by decide),ag]
 grind
theorem aku {s}{root}{N}(G:ou h0 s N){B}(hB:Bd N B){b0} :
  ∀n i b h L (z:Z h0 h (.ar b0 [aA s,vi root] aj::L)),N.length-i+B+5<n->i<=N.length ->
   Wp (mE n (ak b0) b s (s.len:Int) (i:Int)) h λr h'=>(r=(b&&(N.drop i).all λx=>x.keys.all (zA N.length)&&x.items.all (zA N.length)))/\Z h0 h' (.ar b0 [aA s,vi root] aj::L):=by
 intro n
 induction n with
 |zero=>intro i b h L z h1;omega
 |succ n ih=>
  intro i b h L z h1 h2;rw[A4];unfold rU;rw[G.len];by_cases hi:i<N.length
  .rw[By (by grind)];obtain⟨x,hx⟩:=eC hi;refine G.at z (by omega) (by simpa using hx) λa ks is nd ik ii=>nd.gh ?_;refine z.node λx2 h2' z=>?_;refine z.ld 0 ?_;refine z.ld 0 ?_;refine z.new λx6 h4 z f2=>?_;rw[ah];have hb:=hB.2.2 x (IN hx);refine (akt (z.cl 2 rfl) (ik.fr z.fr) (ii.fr z.fr) hB.2.1 hb.1 hb.2 (z.cl 0 rfl) _ _ _ n b (by omega)).mono λr h' h3=>?_;obtain⟨rfl,rfl⟩:=h3;rw[wZ (anK hi) (by have:=hB.1;have:=hB.2.1;omega)];have ih':=ih (i+1) (b&&(x.keys.all (zA s.len)&&x.items.all (zA s.len))) _ L z.drop.drop (by omega) (by omega);rw[G.len] at ih'⊢;refine ih'.mono λr h5 h6=>⟨?_,h6.2⟩;rw[h6.1,drop_cons hx,aoK,Bool.and_assoc]
  .rw[AT (by grind),ag]
   grind
theorem SX {s}{root}{N}(z:Z h0 h L)(G:ou h0 s N){B}(hB:Bd N B){n}(hn:2*B+6<n) :
  Wp (vn n (s,root)) h λr h'=>r=LN N root/\Z h0 h' L:=by
 unfold vn;have J:∀b h x0,Z h0 h (.ar x0 [aA s,vi root] aj::L)->Wp (mF n (ak x0) b) h λr h'=>(r=(b&&N.all λx=>x.keys.all (zA N.length)&&x.items.all (zA N.length)))/\Z h0 h' L:=by
  intro b h x0 z;unfold mF;refine z.ld 0 ?_;rw[ah];refine (aku G hB n 0 b h L z (by have:=hB.1;omega) (by omega)).mono λr h' h1=>?_;rw[ag];exact⟨by grind,h1.2.drop⟩
 refine z.new λx0 h1 z f1=>?_;refine z.ld 0 ?_;by_cases h0r:0<=root
 .rw[By (by grind)];refine z.ld 0 ?_;refine z.ld 0 ?_;refine (J _ _ _ z).mono λr h' h2=>⟨?_,h2.2⟩;rw[h2.1,G.len];simp[LN,zA,h0r]
 .rw[AT (by grind)];refine (J _ _ _ z).mono λr h' h2=>⟨?_,h2.2⟩
  grind [LN,zA]
end Go.Sh
