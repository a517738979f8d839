
import Derived.Test.YtcdofopdlaebaaaGreatDoorGr
import Derived.Test.YtcdofopdlaebaaaGreatDoorSh3
set_option linter.all false
namespace Go.Sh
open Go Go.Ago Go.Proofs
variable {α β:Type}{h h' h0:af}{L:List bj}{Q:β->af->Prop}
def Bd (N:List an)(B:Nat):Prop:=N.length<=B/\B<1073741824/\∀x∈N,x.keys.length<=B/\x.items.length<=B
theorem uv {i B:Nat}(h1:i<=B)(h2:B<1073741824):IntKind.i64.wrap ((i:Int)+1)=((i+1:Nat):Int):=by
 rw[aec (by omega) (by omega)];rfl
theorem drop_cons {l:List α}{i:Nat}{x:α}(hx:l[i]?=some x):l.drop i=x::l.drop (i+1):=by
 have hlt:=(List.getElem?_eq_some_iff.1 hx).1;rw[aee hlt,(List.getElem?_eq_some_iff.1 hx).2]
theorem jy {l:List α}{i:Nat}(hi:i<l.length):∃x,l[i]?=some x:=⟨l[i],aaJ hi⟩
def xe (n:Nat)(x:Int):Bool:=decide (0<=x)&&decide (x<(n:Int))
def Gp (N:List an)(root:Int):Bool:=xe N.length root&&N.all λx=>x.keys.all (xe N.length)&&x.items.all (xe N.length)
theorem Vq {s s5 s8:Sl}{root:Int}{g:Nat}{a0:Addr}(cg:Cl h a0 [aE s,vi root] g){xs:List Int}(il:IL h s8 xs){B:Nat}(hB:B<1073741824)(hl:xs.length<=B)(a2:Sl)(a3 a4 a6 a7:Int) :
  ∀(n i:Nat) (b:Bool),xs.length-i<n->i<=xs.length->Wp (iY n a0 b a2 a3 a4 s5 a6 a7 s8 (s8.len:Int) (i:Int)) h λr h'=>h'=h/\r=(b&&(xs.drop i).all (xe s.len)):=by
 intro n
 induction n with
 |zero=>intro i b h1;omega
 |succ n ih=>
  intro i b h1 h2;rw[w3];unfold o0;rw[il.len];by_cases hi:i<xs.length
  .rw[if_pos (by simp;omega)];obtain⟨x,hx⟩:=jy hi;refine il.ix (by omega) (by simpa using hx) λa g2 c=>c.pL (l:=li) rfl rfl ?_;rw[uv h2 (by omega),drop_cons hx,agi];have ih':=λb=>ih (i+1) b (by omega) (by omega);rw[il.len] at ih';cases b with
   |false=>
    simp only[aa1,if_false,ag6];exact (ih' false).mono λr h' h3=>by simpa using h3
   |true=>
    simp only[if_true,agf];by_cases hx0:0<=x
    .rw[if_pos (by simpa using hx0)];refine cg.ld (o:=0) (l:=.sl) rfl rfl ?_;refine (ih' _).mono λr h' h3=>⟨h3.1,?_⟩;rw[h3.2];simp[xe,hx0]
    .rw[if_neg (by simpa using hx0)];refine (ih' _).mono λr h' h3=>⟨h3.1,?_⟩;rw[h3.2];simp[xe,hx0]
  .rw[if_neg (by simp;omega),ag];have:xs.drop i=[]:=aaS (by omega);simp[this]
theorem ab8 {s:Sl}{root:Int}{g b1 g1:Nat}{a0:Addr}(cg:Cl h a0 [aE s,vi root] g){ks is:Sl}{kl il:List Int}(ik:IL h ks kl)(ii:IL h is il){B:Nat}(hB:B<1073741824)(hl:kl.length<=B)(hl2:il.length<=B)
  (c1:Cl h ⟨b1,0,none⟩ [aE ks,aE is] g1) (a2:Sl) (a3 a4:Int) (n:Nat) (b:Bool) (hn:B+5<=n) :
  Wp (iZ n a0 b a2 a3 a4 { a:=some (ak b1),len:=2,cap:=3 } (2:Nat) 0) h λr h'=>h'=h/\r=(b&&(kl.all (xe s.len)&&il.all (xe s.len))):=by
 obtain⟨n,rfl⟩:∃m,n=m+3:=⟨n-3,by omega⟩;have rs:qy h { a:=some (ak b1),len:=2,cap:=3 } 1 [aE ks,aE is] g1:=⟨rfl,.inr ⟨_,rfl,c1⟩⟩;rw[mK];unfold jh;rw[if_pos (by decide)];refine rs.ix (k:=0) (by decide) (by simp) λa c=>c.pL (l:=.sl) rfl rfl ?_;rw[ah];refine (Vq cg ik hB hl a2 a3 a4 _ _ _ 0 b (by omega) (by omega)).mono λr h' h3=>?_;obtain⟨rfl,rfl⟩:=h3;rw[show IntKind.i64.wrap (0+1)=1 from by decide,mK];unfold jh;rw[if_pos (by decide)];refine rs.ix (k:=1) (by decide) (by simp) λa c=>c.pL (l:=.sl) rfl rfl ?_;rw[ah];refine (Vq cg ii hB hl2 a2 a3 a4 _ _ _ 0 _ (by omega) (by omega)).mono λr h' h3=>?_;obtain⟨rfl,rfl⟩:=h3;rw[show IntKind.i64.wrap (1+1)=2 from by decide,mK];unfold jh;rw[if_neg (by decide),ag];simp[Bool.and_assoc]
theorem ab9 {s:Sl}{root:Int}{N:List an}(G:jI h0 s N){B:Nat}(hB:Bd N B){b0:Nat} :
  ∀(n i:Nat) (b:Bool) (h:af) (L:List bj) (z:Z h0 h (.ar b0 [aE s,vi root] aj::L)),N.length-i+B+5<n->i<=N.length ->
   Wp (ja n (ak b0) b s (s.len:Int) (i:Int)) h λr h'=>(r=(b&&(N.drop i).all λx=>x.keys.all (xe N.length)&&x.items.all (xe N.length)))/\Z h0 h' (.ar b0 [aE s,vi root] aj::L):=by
 intro n
 induction n with
 |zero=>intro i b h L z h1;omega
 |succ n ih=>
  intro i b h L z h1 h2;rw[w4];unfold o5;rw[G.len];by_cases hi:i<N.length
  .rw[if_pos (by simp;omega)];obtain⟨x,hx⟩:=jy hi;refine G.at z (by omega) (by simpa using hx) λa ks is nd ik ii=>nd.fI ?_;refine z.node λx2 h2' z=>?_;refine z.ld 0 (o:=3) (l:=.sl) ?_;refine z.ld 0 (o:=4) (l:=.sl) ?_;refine z.new λx6 h4 z f2=>?_;rw[ah];have hb:=hB.2.2 x (IN hx);refine (ab8 (z.cl 2 rfl) (ik.fr z.fr) (ii.fr z.fr) hB.2.1 hb.1 hb.2 (z.cl 0 rfl) _ _ _ n b (by omega)).mono λr h' h3=>?_;obtain⟨rfl,rfl⟩:=h3;rw[uv (afM hi) (by have:=hB.1;have:=hB.2.1;omega)];have ih':=ih (i+1) (b&&(x.keys.all (xe s.len)&&x.items.all (xe s.len))) _ L z.drop.drop (by omega) (by omega);rw[G.len] at ih'⊢;refine ih'.mono λr h5 h6=>⟨?_,h6.2⟩;rw[h6.1,drop_cons hx,agi,Bool.and_assoc]
  .rw[if_neg (by simp;omega),ag];have:N.drop i=[]:=aaS (by omega);simp[this,z]
theorem N5 {s:Sl}{root:Int}{N:List an}(z:Z h0 h L)(G:jI h0 s N){B:Nat}(hB:Bd N B){n:Nat}(hn:2*B+6<n) :
  Wp (rJ n (s,root)) h λr h'=>r=Gp N root/\Z h0 h' L:=by
 unfold rJ;have J:∀b h x0,Z h0 h (.ar x0 [aE s,vi root] aj::L)->Wp (kL n (ak x0) b) h λr h'=>(r=(b&&N.all λx=>x.keys.all (xe N.length)&&x.items.all (xe N.length)))/\Z h0 h' L:=by
  intro b h x0 z;unfold kL;refine z.ld 0 (o:=0) (l:=.sl) ?_;rw[ah];refine (ab9 G hB n 0 b h L z (by have:=hB.1;omega) (by omega)).mono λr h' h1=>?_;rw[ag];exact⟨by simpa using h1.1,h1.2.drop⟩
 refine z.new λx0 h1 z f1=>?_;refine z.ld 0 (o:=1) (l:=li) ?_;by_cases h0r:0<=root
 .rw[if_pos (by simpa using h0r)];refine z.ld 0 (o:=1) (l:=li) ?_;refine z.ld 0 (o:=0) (l:=.sl) ?_;refine (J _ _ _ z).mono λr h' h2=>⟨?_,h2.2⟩;rw[h2.1,G.len];simp[Gp,xe,h0r]
 .rw[if_neg (by simpa using h0r)];refine (J _ _ _ z).mono λr h' h2=>⟨?_,h2.2⟩;rw[h2.1];simp[Gp,xe,h0r]
end Go.Sh
