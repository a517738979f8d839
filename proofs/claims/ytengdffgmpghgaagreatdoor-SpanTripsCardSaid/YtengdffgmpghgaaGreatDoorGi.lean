
import Derived.Test.YtengdffgmpghgaaGreatDoorGr
import Derived.Test.YtengdffgmpghgaaGreatDoorSh4
set_option linter.all false
namespace Go.Sh
open Go Go.Ago Go.Proofs
variable {α β:Type}{h h' h0:ab}{L:List bA}{Q:β->ab->Prop}
def Bd (N:List ah)(B:Nat):Prop:=N.length<=B/\B<1073741824/\∀x∈N,x.keys.length<=B/\x.items.length<=B
theorem rR {i B:Nat}(h1:i<=B)(h2:B<1073741824):IntKind.i64.wrap ((i:Int)+1)=((i+1:Nat):Int):=by
 rw[aeH (by omega) (by omega)];rfl
theorem drop_cons {l:List α}{i:Nat}{x:α}(hx:l[i]?=some x):l.drop i=x::l.drop (i+1):=by
 grind [List.getElem?_eq_some_iff,List.drop_eq_getElem_cons]
theorem dS {l:List α}{i:Nat}(hi:i<l.length):∃x,l[i]?=some x:=⟨l[i],aah hi⟩
def xc (n:Nat)(x:Int):Bool:=decide (0<=x)&&decide (x<(n:Int))
def He (N:List ah)(root:Int):Bool:=xc N.length root&&N.all λx=>x.keys.all (xc N.length)&&x.items.all (xc N.length)
theorem Ys {s s5 s8:Sl}{root:Int}{g:Nat}{a0:Addr}(cg:Cl h a0 [aM s,vi root] g){xs:ε}(il:IL h s8 xs){B:Nat}(hB:B<1073741824)(hl:xs.length<=B)(a2:Sl)(a3 a4 a6 a7:Int) :
  ∀(n i:Nat) (b:Bool),xs.length-i<n->i<=xs.length->Wp (jr n a0 b a2 a3 a4 s5 a6 a7 s8 (s8.len:Int) (i:Int)) h λr h'=>h'=h/\r=(b&&(xs.drop i).all (xc s.len)):=by
 intro n
 induction n with
 |zero=>intro i b h1;omega
 |succ n ih=>
  intro i b h1 h2;rw[yI];unfold pK;rw[il.len];by_cases hi:i<xs.length
  .rw[By (by simp;omega)];obtain⟨x,hx⟩:=dS hi;refine il.ix (by omega) (by simpa using hx) λa g2 c=>c.rz (l:=li) rfl rfl ?_;rw[rR h2 (by omega),drop_cons hx,akA];have ih':=λb=>ih (i+1) b (by omega) (by omega);rw[il.len] at ih';cases b with
   |false=>
    simp only[aeZ,afy,akX];exact (ih' false).mono λr h' h3=>by simpa using h3
   |true=>
    simp only[ai8,aj5];by_cases hx0:0<=x
    .rw[By (by simpa using hx0)];refine cg.ld (o:=0) (l:=.sl) rfl rfl ?_;refine (ih' _).mono λr h' h3=>⟨h3.1,?_⟩;rw[h3.2];simp[xc,hx0]
    .rw[AT (by simpa using hx0)];refine (ih' _).mono λr h' h3=>⟨h3.1,?_⟩;rw[h3.2];simp[xc,hx0]
  .rw[AT (by simp;omega),af]
   grind
theorem agd {s:Sl}{root:Int}{g b1 g1:Nat}{a0:Addr}(cg:Cl h a0 [aM s,vi root] g){ks is:Sl}{kl il:ε}(ik:IL h ks kl)(ii:IL h is il){B:Nat}(hB:B<1073741824)(hl:kl.length<=B)(hl2:il.length<=B)
  (c1:Cl h ⟨b1,0,none⟩ [aM ks,aM is] g1) (a2:Sl) (a3 a4:Int) (n:Nat) (b:Bool) (hn:B+5<=n) :
  Wp (ju n a0 b a2 a3 a4 { a:=some (ai b1),len:=2,cap:=3 } (2:Nat) 0) h λr h'=>h'=h/\r=(b&&(kl.all (xc s.len)&&il.all (xc s.len))):=by
 obtain⟨n,rfl⟩:∃m,n=m+3:=⟨n-3,by omega⟩;have rs:rO h { a:=some (ai b1),len:=2,cap:=3 } 1 [aM ks,aM is] g1:=⟨rfl,.inr ⟨_,rfl,c1⟩⟩;rw[nv];unfold jE;rw[By (by decide)];refine rs.ix (k:=0) (by decide) (by simp) λa c=>c.rz (l:=.sl) rfl rfl ?_;rw[ag];refine (Ys cg ik hB hl a2 a3 a4 _ _ _ 0 b (by omega) (by omega)).mono λr h' h3=>?_;obtain⟨rfl,rfl⟩:=h3;rw[show IntKind.i64.wrap (0+1)=1 from by decide,nv];unfold jE;rw[By (by decide)];refine rs.ix (k:=1) (by decide) (by simp) λa c=>c.rz (l:=.sl) rfl rfl ?_;rw[ag];refine (Ys cg ii hB hl2 a2 a3 a4 _ _ _ 0 _ (by omega) (by omega)).mono λr h' h3=>?_;obtain⟨rfl,rfl⟩:=h3;rw[show IntKind.i64.wrap (1+1)=2 from by decide,nv];unfold jE;rw[AT (by decide),af];simp[Bool.and_assoc]
theorem age {s:Sl}{root:Int}{N:List ah}(G:oj h0 s N){B:Nat}(hB:Bd N B){b0:Nat} :
  ∀(n i:Nat) (b:Bool) (h:ab) (L:List bA) (z:Z h0 h (.av b0 [aM s,vi root] ao::L)),N.length-i+B+5<n->i<=N.length ->
   Wp (jv n (ai b0) b s (s.len:Int) (i:Int)) h λr h'=>(r=(b&&(N.drop i).all λx=>x.keys.all (xc N.length)&&x.items.all (xc N.length)))/\Z h0 h' (.av b0 [aM s,vi root] ao::L):=by
 intro n
 induction n with
 |zero=>intro i b h L z h1;omega
 |succ n ih=>
  intro i b h L z h1 h2;rw[yJ];unfold pL;rw[G.len];by_cases hi:i<N.length
  .rw[By (by simp;omega)];obtain⟨x,hx⟩:=dS hi;refine G.at z (by omega) (by simpa using hx) λa ks is nd ik ii=>nd.fG ?_;refine z.node λx2 h2' z=>?_;refine z.ld 0 (o:=3) (l:=.sl) ?_;refine z.ld 0 (o:=4) (l:=.sl) ?_;refine z.new λx6 h4 z f2=>?_;rw[ag];have hb:=hB.2.2 x (BY hx);refine (agd (z.cl 2 rfl) (ik.fr z.fr) (ii.fr z.fr) hB.2.1 hb.1 hb.2 (z.cl 0 rfl) _ _ _ n b (by omega)).mono λr h' h3=>?_;obtain⟨rfl,rfl⟩:=h3;rw[rR (ajx hi) (by have:=hB.1;have:=hB.2.1;omega)];have ih':=ih (i+1) (b&&(x.keys.all (xc s.len)&&x.items.all (xc s.len))) _ L z.drop.drop (by omega) (by omega);rw[G.len] at ih'⊢;refine ih'.mono λr h5 h6=>⟨?_,h6.2⟩;rw[h6.1,drop_cons hx,akA,Bool.and_assoc]
  .rw[AT (by simp;omega),af]
   grind
theorem QH {s:Sl}{root:Int}{N:List ah}(z:Z h0 h L)(G:oj h0 s N){B:Nat}(hB:Bd N B){n:Nat}(hn:2*B+6<n) :
  Wp (sO n (s,root)) h λr h'=>r=He N root/\Z h0 h' L:=by
 unfold sO;have J:∀b h x0,Z h0 h (.av x0 [aM s,vi root] ao::L)->Wp (lB n (ai x0) b) h λr h'=>(r=(b&&N.all λx=>x.keys.all (xc N.length)&&x.items.all (xc N.length)))/\Z h0 h' L:=by
  intro b h x0 z;unfold lB;refine z.ld 0 (o:=0) (l:=.sl) ?_;rw[ag];refine (age G hB n 0 b h L z (by have:=hB.1;omega) (by omega)).mono λr h' h1=>?_;rw[af];exact⟨by simpa using h1.1,h1.2.drop⟩
 refine z.new λx0 h1 z f1=>?_;refine z.ld 0 (o:=1) (l:=li) ?_;by_cases h0r:0<=root
 .rw[By (by simpa using h0r)];refine z.ld 0 (o:=1) (l:=li) ?_;refine z.ld 0 (o:=0) (l:=.sl) ?_;refine (J _ _ _ z).mono λr h' h2=>⟨?_,h2.2⟩;rw[h2.1,G.len];simp[He,xc,h0r]
 .rw[AT (by simpa using h0r)];refine (J _ _ _ z).mono λr h' h2=>⟨?_,h2.2⟩;rw[h2.1];simp[He,xc,h0r]
end Go.Sh
