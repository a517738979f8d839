
import Derived.Test.YtmjkmdhbcmckgaaGreatDoorGr
import Derived.Test.YtmjkmdhbcmckgaaGreatDoorSh2
set_option linter.all false
namespace Go.Sh
open Go Go.Ago Go.Proofs
variable {α β:Type}{h h' h0:AHeap}{L:List Own}{Q:β→AHeap→Prop}
def Bd (N:List NodeV)(B:Nat):Prop:=N.length≤B∧B<1073741824∧∀ x ∈ N,x.keys.length≤B∧x.items.length≤B
theorem up1 {i B:Nat}(h1:i≤B)(h2:B<1073741824):IntKind.i64.wrap ((i:Int)+1)=((i+1:Nat):Int):=by
 rw [wrap1 (by omega) (by omega)];rfl
theorem drop_cons {l:List α}{i:Nat}{x:α}(hx:l[i]?=some x):l.drop i=x::l.drop (i+1):=by
 have hlt:=(List.getElem?_eq_some_iff.1 hx).1
 rw [List.drop_eq_getElem_cons hlt,(List.getElem?_eq_some_iff.1 hx).2]
theorem getI {l:List α}{i:Nat}(hi:i<l.length):∃ x,l[i]?=some x:=⟨l[i],List.getElem?_eq_getElem hi⟩
def okIx (n:Nat)(x:Int):Bool:=decide (0≤x) && decide (x<(n:Int))
def inds (N:List NodeV)(root:Int):Bool:=okIx N.length root && N.all fun x=>x.keys.all (okIx N.length) && x.items.all (okIx N.length)
theorem ind_L2 {s s5 s8:Sl}{root:Int}{g:Nat}{a0:Addr}(cg:Cl h a0 [vsl s,vi root] g){xs:List Int}(il:IL h s8 xs){B:Nat}(hB:B<1073741824)(hl:xs.length≤B)(a2:Sl)(a3 a4 a6 a7:Int) :
  ∀ (n i:Nat) (b:Bool),xs.length - i<n→i≤xs.length→Wp (graph_indices_L2 n a0 b a2 a3 a4 s5 a6 a7 s8 (s8.len:Int) (i:Int)) h fun r h'=>h'=h∧r=(b && (xs.drop i).all (okIx s.len)):=by
 intro n
 induction n with
 | zero=>intro i b h1;omega
 | succ n ih =>
  intro i b h1 h2
  rw [graph_indices_L2_succ]
  unfold graph_indices_L2_B
  rw [il.len]
  by_cases hi:i<xs.length
  ·rw [if_pos (by simp;omega)]
   obtain⟨x,hx⟩:=getI hi
   refine il.ix (by omega) (by simpa using hx) fun a g2 c=>c.ld0 (l:=li) rfl rfl ?_
   rw [up1 h2 (by omega),drop_cons hx,List.all_cons]
   have ih':=fun b=>ih (i+1) b (by omega) (by omega)
   rw [il.len] at ih'
   cases b with
   | false =>
    simp only [Bool.false_eq_true,if_false,Bool.false_and]
    exact (ih' false).mono fun r h' h3=>by simpa using h3
   | true =>
    simp only [if_true,Bool.true_and]
    by_cases hx0:0≤x
    ·rw [if_pos (by simpa using hx0)]
     refine cg.ld (o:=0) (l:=.sl) rfl rfl ?_
     refine (ih' _).mono fun r h' h3=>⟨h3.1,?_⟩
     rw [h3.2];simp [okIx,hx0]
    ·rw [if_neg (by simpa using hx0)]
     refine (ih' _).mono fun r h' h3=>⟨h3.1,?_⟩
     rw [h3.2];simp [okIx,hx0]
  ·rw [if_neg (by simp;omega),Wp_pure]
   have:xs.drop i=[]:=List.drop_eq_nil_of_le (by omega)
   simp [this]
theorem ind_L1 {s:Sl}{root:Int}{g b1 g1:Nat}{a0:Addr}(cg:Cl h a0 [vsl s,vi root] g){ks is:Sl}{kl il:List Int}(ik:IL h ks kl)(ii:IL h is il){B:Nat}(hB:B<1073741824)(hl:kl.length≤B)(hl2:il.length≤B)
  (c1:Cl h ⟨b1,0,none⟩ [vsl ks,vsl is] g1) (a2:Sl) (a3 a4:Int) (n:Nat) (b:Bool) (hn:B+5≤n) :
  Wp (graph_indices_L1 n a0 b a2 a3 a4 { a:=some (adr b1),len:=2,cap:=3 } (2:Nat) 0) h fun r h'=>h'=h∧r=(b && (kl.all (okIx s.len) && il.all (okIx s.len))):=by
 obtain⟨n,rfl⟩:∃ m,n=m+3:=⟨n - 3,by omega⟩
 have rs:RSl h { a:=some (adr b1),len:=2,cap:=3 } 1 [vsl ks,vsl is] g1:=⟨rfl,.inr ⟨_,rfl,c1⟩⟩
 rw [graph_indices_L1_succ]
 unfold graph_indices_L1_B
 rw [if_pos (by decide)]
 refine rs.ix (k:=0) (by decide) (by simp) fun a c=>c.ld0 (l:=.sl) rfl rfl ?_
 rw [Wp_bind]
 refine (ind_L2 cg ik hB hl a2 a3 a4 _ _ _ 0 b (by omega) (by omega)).mono fun r h' h3=>?_
 obtain⟨rfl,rfl⟩:=h3
 rw [show IntKind.i64.wrap (0+1)=1 from by decide,graph_indices_L1_succ]
 unfold graph_indices_L1_B
 rw [if_pos (by decide)]
 refine rs.ix (k:=1) (by decide) (by simp) fun a c=>c.ld0 (l:=.sl) rfl rfl ?_
 rw [Wp_bind]
 refine (ind_L2 cg ii hB hl2 a2 a3 a4 _ _ _ 0 _ (by omega) (by omega)).mono fun r h' h3=>?_
 obtain⟨rfl,rfl⟩:=h3
 rw [show IntKind.i64.wrap (1+1)=2 from by decide,graph_indices_L1_succ]
 unfold graph_indices_L1_B
 rw [if_neg (by decide),Wp_pure]
 simp [Bool.and_assoc]
theorem ind_L0 {s:Sl}{root:Int}{N:List NodeV}(G:GrR h0 s N){B:Nat}(hB:Bd N B){b0:Nat} :
  ∀ (n i:Nat) (b:Bool) (h:AHeap) (L:List Own) (z:Z h0 h (.blk b0 [vsl s,vi root] T_api_Graph::L)),N.length - i+B+5<n→i≤N.length →
   Wp (graph_indices_L0 n (adr b0) b s (s.len:Int) (i:Int)) h fun r h'=>(r=(b && (N.drop i).all fun x=>x.keys.all (okIx N.length) && x.items.all (okIx N.length)))∧Z h0 h' (.blk b0 [vsl s,vi root] T_api_Graph::L):=by
 intro n
 induction n with
 | zero=>intro i b h L z h1;omega
 | succ n ih =>
  intro i b h L z h1 h2
  rw [graph_indices_L0_succ]
  unfold graph_indices_L0_B
  rw [G.len]
  by_cases hi:i<N.length
  ·rw [if_pos (by simp;omega)]
   obtain⟨x,hx⟩:=getI hi
   refine G.at z (by omega) (by simpa using hx) fun a ks is nd ik ii=>nd.lds ?_
   refine z.node fun x2 h2' z=>?_
   refine z.ld 0 (o:=3) (l:=.sl) ?_
   refine z.ld 0 (o:=4) (l:=.sl) ?_
   refine z.new fun x6 h4 z f2=>?_
   rw [Wp_bind]
   have hb:=hB.2.2 x (List.mem_of_getElem? hx)
   refine (ind_L1 (z.cl 2 rfl) (ik.fr z.fr) (ii.fr z.fr) hB.2.1 hb.1 hb.2 (z.cl 0 rfl) _ _ _ n b (by omega)).mono fun r h' h3=>?_
   obtain⟨rfl,rfl⟩:=h3
   rw [up1 (Nat.le_of_lt hi) (by have:=hB.1;have:=hB.2.1;omega)]
   have ih':=ih (i+1) (b && (x.keys.all (okIx s.len) && x.items.all (okIx s.len))) _ L z.drop.drop (by omega) (by omega)
   rw [G.len] at ih' ⊢
   refine ih'.mono fun r h5 h6=>⟨?_,h6.2⟩
   rw [h6.1,drop_cons hx,List.all_cons,Bool.and_assoc]
  ·rw [if_neg (by simp;omega),Wp_pure]
   have:N.drop i=[]:=List.drop_eq_nil_of_le (by omega)
   simp [this,z]
theorem indices_wp {s:Sl}{root:Int}{N:List NodeV}(z:Z h0 h L)(G:GrR h0 s N){B:Nat}(hB:Bd N B){n:Nat}(hn:2 * B+6<n) :
  Wp (graph_indices n (s,root)) h fun r h'=>r=inds N root∧Z h0 h' L:=by
 unfold graph_indices
 have J:∀ b h x0,Z h0 h (.blk x0 [vsl s,vi root] T_api_Graph::L)→Wp (graph_indices_J0 n (adr x0) b) h fun r h'=>(r=(b && N.all fun x=>x.keys.all (okIx N.length) && x.items.all (okIx N.length)))∧Z h0 h' L:=by
  intro b h x0 z
  unfold graph_indices_J0
  refine z.ld 0 (o:=0) (l:=.sl) ?_
  rw [Wp_bind]
  refine (ind_L0 G hB n 0 b h L z (by have:=hB.1;omega) (by omega)).mono fun r h' h1=>?_
  rw [Wp_pure]
  exact⟨by simpa using h1.1,h1.2.drop⟩
 refine z.new fun x0 h1 z f1=>?_
 refine z.ld 0 (o:=1) (l:=li) ?_
 by_cases h0r:0≤root
 ·rw [if_pos (by simpa using h0r)]
  refine z.ld 0 (o:=1) (l:=li) ?_
  refine z.ld 0 (o:=0) (l:=.sl) ?_
  refine (J _ _ _ z).mono fun r h' h2=>⟨?_,h2.2⟩
  rw [h2.1,G.len]
  simp [inds,okIx,h0r]
 ·rw [if_neg (by simpa using h0r)]
  refine (J _ _ _ z).mono fun r h' h2=>⟨?_,h2.2⟩
  rw [h2.1]
  simp [inds,okIx,h0r]
end Go.Sh
