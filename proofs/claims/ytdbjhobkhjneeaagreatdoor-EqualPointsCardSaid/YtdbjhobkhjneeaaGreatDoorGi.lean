
import Derived.Test.YtdbjhobkhjneeaaGreatDoorGr
import Derived.Test.YtdbjhobkhjneeaaGreatDoorSh0
set_option linter.all false
namespace Go.Sh
open Go Go.Ago Go.Proofs
variable {α β:Type}{h h' h0:aj}{L:List bJ}{Q:β->aj->Prop}
def Bd (N:List al)(B:Nat):Prop:=N.length<=B/\B<1073741824/\∀x∈N,x.keys.length<=B/\x.items.length<=B
theorem wX {i B:Nat}(h1:i<=B)(h2:B<1073741824):IntKind.i64.wrap ((i:Int)+1)=((i+1:Nat):Int):=by
 grind [ak4]
theorem drop_cons {l:List α}{i}{x}(hx:l[i]?=some x):l.drop i=x::l.drop (i+1):=by
 grind [List.getElem?_eq_some_iff,List.drop_eq_getElem_cons]
theorem gS {l:List α}{i}(hi:i<l.length):∃x,l[i]?=some x:=⟨l[i],abt hi⟩
def yv (n:Nat)(x:Int):Bool:=decide (0<=x)&&decide (x<(n:Int))
def JI (N:List al)(root:Int):Bool:=yv N.length root&&N.all λx=>x.keys.all (yv N.length)&&x.items.all (yv N.length)
theorem ZB {s s5 s8}{root}{g}{a0}(cg:Cl h a0 [aC s,vi root] g){xs}(il:IL h s8 xs){B}(hB:B<1073741824)(hl:xs.length<=B) a2 a3 a4 a6 a7 :
  ∀n i b ,xs.length-i<n->i<=xs.length->Wp (mh n a0 b a2 a3 a4 s5 a6 a7 s8 (s8.len:Int) (i:Int)) h λr h'=>h'=h/\r=(b&&(xs.drop i).all (yv s.len)):=by
 intro n
 induction n with
 |zero=>intro i b h1;omega
 |succ n ih=>
  intro i b h1 h2;rw[zZ];unfold qW;rw[il.len];by_cases hi:i<xs.length
  .rw[By (by grind)];obtain⟨x,hx⟩:=gS hi;refine il.ix (by omega) (by simpa using hx) λa g2 c=>c.tC rfl rfl ?_;rw[wX h2 (by omega),drop_cons hx,ano];have ih':=λb=>ih (i+1) b (by omega) (by omega);rw[il.len] at ih';cases b with
   |false=>
    simp only[aeb,aed,aoa];exact (ih' false).mono λr h' h3=>by grind
   |true=>
    simp only[aks,anm];by_cases hx0:0<=x
    .rw[By (by grind)];refine cg.ld rfl rfl ?_;refine (ih' _).mono λr h' h3=>⟨h3.1,?_⟩
     grind [yv]
    .rw[AT (by grind)];refine (ih' _).mono λr h' h3=>⟨h3.1,?_⟩
     grind [yv]
  .rw[AT (by grind),af]
   grind
theorem aiU {s}{root}{g b1 g1}{a0}(cg:Cl h a0 [aC s,vi root] g){ks is}{kl il}(ik:IL h ks kl)(ii:IL h is il){B}(hB:B<1073741824)(hl:kl.length<=B)(hl2:il.length<=B)
  (c1:Cl h ⟨b1,0,none⟩ [aC ks,aC is] g1) a2 a3 a4 n b (hn:B+5<=n) :
  Wp (mi n a0 b a2 a3 a4 { a:=some (ak b1),len:=2,cap:=3 } (2:Nat) 0) h λr h'=>h'=h/\r=(b&&(kl.all (yv s.len)&&il.all (yv s.len))):=by
 obtain⟨n,rfl⟩:∃m,n=m+3:=⟨n-3,by omega⟩;have rs:rY h { a:=some (ak b1),len:=2,cap:=3 } 1 [aC ks,aC is] g1:=⟨rfl,.inr ⟨_,rfl,c1⟩⟩;rw[oA];unfold j7;rw[By (by decide)];refine rs.ix (by decide) (by simp) λa c=>c.tC rfl rfl ?_;rw[ag];refine (ZB cg ik hB hl a2 a3 a4 _ _ _ 0 b (by omega) (by omega)).mono λr h' h3=>?_;obtain⟨rfl,rfl⟩:=h3;rw[show IntKind.i64.wrap (0+1)=1 from by decide,oA];unfold j7;rw[By (by decide)];refine rs.ix (by decide) (by simp) λa c=>c.tC rfl rfl ?_;rw[ag];refine (ZB cg ii hB hl2 a2 a3 a4 _ _ _ 0 _ (by omega) (by omega)).mono λr h' h3=>?_;obtain⟨rfl,rfl⟩:=h3;rw[show IntKind.i64.wrap (1+1)=2 from by decide,oA];unfold j7;rw[AT (by decide),af]
 grind
theorem aiV {s}{root}{N}(G:kP h0 s N){B}(hB:Bd N B){b0} :
  ∀n i b h L (z:Z h0 h (.au b0 [aC s,vi root] ah::L)),N.length-i+B+5<n->i<=N.length ->
   Wp (mj n (ak b0) b s (s.len:Int) (i:Int)) h λr h'=>(r=(b&&(N.drop i).all λx=>x.keys.all (yv N.length)&&x.items.all (yv N.length)))/\Z h0 h' (.au b0 [aC s,vi root] ah::L):=by
 intro n
 induction n with
 |zero=>intro i b h L z h1;omega
 |succ n ih=>
  intro i b h L z h1 h2;rw[Aa];unfold qX;rw[G.len];by_cases hi:i<N.length
  .rw[By (by grind)];obtain⟨x,hx⟩:=gS hi;refine G.at z (by omega) (by simpa using hx) λa ks is nd ik ii=>nd.fH ?_;refine z.node λx2 h2' z=>?_;refine z.ld 0 ?_;refine z.ld 0 ?_;refine z.new λx6 h4 z f2=>?_;rw[ag];have hb:=hB.2.2 x (IN hx);refine (aiU (z.cl 2 rfl) (ik.fr z.fr) (ii.fr z.fr) hB.2.1 hb.1 hb.2 (z.cl 0 rfl) _ _ _ n b (by omega)).mono λr h' h3=>?_;obtain⟨rfl,rfl⟩:=h3;rw[wX (amM hi) (by have:=hB.1;have:=hB.2.1;omega)];have ih':=ih (i+1) (b&&(x.keys.all (yv s.len)&&x.items.all (yv s.len))) _ L z.drop.drop (by omega) (by omega);rw[G.len] at ih'⊢;refine ih'.mono λr h5 h6=>⟨?_,h6.2⟩;rw[h6.1,drop_cons hx,ano,Bool.and_assoc]
  .rw[AT (by grind),af]
   grind
theorem Q1 {s}{root}{N}(z:Z h0 h L)(G:kP h0 s N){B}(hB:Bd N B){n}(hn:2*B+6<n) :
  Wp (uv n (s,root)) h λr h'=>r=JI N root/\Z h0 h' L:=by
 unfold uv;have J:∀b h x0,Z h0 h (.au x0 [aC s,vi root] ah::L)->Wp (ml n (ak x0) b) h λr h'=>(r=(b&&N.all λx=>x.keys.all (yv N.length)&&x.items.all (yv N.length)))/\Z h0 h' L:=by
  intro b h x0 z;unfold ml;refine z.ld 0 ?_;rw[ag];refine (aiV G hB n 0 b h L z (by have:=hB.1;omega) (by omega)).mono λr h' h1=>?_;rw[af];exact⟨by grind,h1.2.drop⟩
 refine z.new λx0 h1 z f1=>?_;refine z.ld 0 ?_;by_cases h0r:0<=root
 .rw[By (by grind)];refine z.ld 0 ?_;refine z.ld 0 ?_;refine (J _ _ _ z).mono λr h' h2=>⟨?_,h2.2⟩;rw[h2.1,G.len];simp[JI,yv,h0r]
 .rw[AT (by grind)];refine (J _ _ _ z).mono λr h' h2=>⟨?_,h2.2⟩
  grind [JI,yv]
end Go.Sh
