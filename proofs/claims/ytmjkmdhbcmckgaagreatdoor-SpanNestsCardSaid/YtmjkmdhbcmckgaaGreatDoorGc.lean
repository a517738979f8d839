
import Derived.Test.YtmjkmdhbcmckgaaGreatDoorGv
import Derived.Test.YtmjkmdhbcmckgaaGreatDoorBi
import Derived.Test.YtmjkmdhbcmckgaaGreatDoorShLib
set_option linter.all false
namespace Go.Sh
open Go Go.Ago Go.Proofs
variable {α β:Type}{h h' h0:AHeap}{L:List Own}{Q:β→AHeap→Prop}
def bump (c:List Int)(x:Int):Option (List Int):=(gt c x).map fun v=>c.set x.toNat (IntKind.i64.wrap (v+1))
def bumps:List Int→List Int→Option (List Int)
 | [],c=>some c
 | x::xs,c=>(bump c x).bind (bumps xs)
def cnts:List NodeV→List Int→Option (List Int)
 | [],c=>some c
 | x::xs,c=>((bumps x.keys c).bind (bumps x.items)).bind (cnts xs)
def cnt (N:List NodeV)(root:Int):Option (List Int):=(bump (List.replicate N.length 0) root).bind (cnts N)
theorem bump_len {c c':List Int}{x:Int}(hb:bump c x=some c'):c'.length=c.length:=by
 unfold bump at hb
 cases hg:gt c x with
 | none=>rw [hg] at hb;cases hb
 | some v=>rw [hg] at hb;cases hb;simp
theorem bumps_len:∀ {xs c c':List Int},bumps xs c=some c'→c'.length=c.length
 | [],c,c',hb=>by cases hb;rfl
 | x::xs,c,c',hb=>by
  rw [bumps] at hb
  cases h1:bump c x with
  | none=>rw [h1] at hb;cases hb
  | some c1=>rw [h1] at hb;rw [bumps_len hb,bump_len h1]
theorem cnts_len:∀ {N:List NodeV} {c c':List Int},cnts N c=some c'→c'.length=c.length
 | [],c,c',hb=>by cases hb;rfl
 | x::xs,c,c',hb=>by
  rw [cnts] at hb
  cases h1:bumps x.keys c with
  | none=>rw [h1] at hb;cases hb
  | some c1 =>
   rw [h1] at hb
   simp only [Option.bind_some] at hb
   cases h2:bumps x.items c1 with
   | none=>rw [h2] at hb;cases hb
   | some c2=>rw [h2] at hb;rw [cnts_len hb,bumps_len h2,bumps_len h1]
theorem bump_wp {i b n cap:Nat}{e:TypeId}{c c':List Int}{x:Int}(z:Z h0 h L)(hi:L[i]?=some (.blk b (c.map vi) e))(hb:bump c x=some c')(hn:n=c.length){f:M β}
  (q:∀ h',Z h0 h' (L.set i (.blk b (c'.map vi) e))→Wp f h' Q) :
  Wp (M.bind (idxA ⟨some ⟨b,0,none⟩,n,cap⟩ x 1) fun a=>M.bind (ldL li a) fun (v:Int)=>M.bind (idxA ⟨some ⟨b,0,none⟩,n,cap⟩ x 1) fun a2=>M.bind (stN a2 [vi (IntKind.i64.wrap (v+1))]) fun _=>f) h Q:=by
 unfold bump at hb
 cases hg:gt c x with
 | none=>rw [hg] at hb;cases hb
 | some v =>
  rw [hg] at hb
  have hb:c.set x.toNat (IntKind.i64.wrap (v+1))=c':=Option.some.inj hb
  obtain⟨g1,g2⟩:=gt_some hg
  have hlt:=(List.getElem?_eq_some_iff.1 g2).1
  refine ixB g1 (by omega) ?_
  refine z.ld i (o:=x.toNat * 1) (l:=li) (x:=v) ?_ hi (by rw [Nat.mul_one,List.getElem?_map,g2];rfl) rfl
  refine ixB g1 (by omega) ?_
  rw [Nat.mul_one]
  refine z.stA i (xs:=c) hlt (fun h1 z=>?_) hi
  rw [hb] at z
  exact q h1 z
theorem cnt_L1 {b cap:Nat}{e:TypeId}{sl:Sl}{xs:List Int}(il:IL h0 sl xs){B:Nat}(hB:B<1073741824)(hl:xs.length≤B)(a1:Addr)(a2:Sl)(a3 a4:Int) :
  ∀ (n i:Nat) (c r:List Int) (h:AHeap) (L:List Own),xs.length - i<n→i≤xs.length→bumps (xs.drop i) c=some r→Z h0 h (.blk b (c.map vi) e::L) →
   Wp (graph_counts_L1 n ⟨some ⟨b,0,none⟩,c.length,cap⟩ a1 a2 a3 a4 sl (sl.len:Int) (i:Int)) h fun _ h'=>Z h0 h' (.blk b (r.map vi) e::L):=by
 intro n
 induction n with
 | zero=>intro i c r h L h1;omega
 | succ n ih =>
  intro i c r h L h1 h2 hb z
  rw [graph_counts_L1_succ]
  unfold graph_counts_L1_B
  rw [il.len]
  by_cases hi:i<xs.length
  ·rw [if_pos (by simp;omega)]
   obtain⟨x,hx⟩:=getI hi
   rw [drop_cons hx,bumps] at hb
   cases hb1:bump c x with
   | none=>rw [hb1] at hb;cases hb
   | some c1 =>
    rw [hb1] at hb
    refine (il.fr z.fr).ix (by omega) (by simpa using hx) fun a g cl=>cl.ld0 (l:=li) rfl rfl ?_
    refine bump_wp (i:=0) z rfl hb1 rfl fun h2 z=>?_
    have:=ih (i+1) c1 r h2 L (by omega) (by omega) hb z
    rw [up1 (Nat.le_of_lt hi) (by omega)]
    rw [il.len,bump_len hb1] at this
    exact this
  ·rw [if_neg (by simp;omega),Wp_pure]
   have:xs.drop i=[]:=List.drop_eq_nil_of_le (by omega)
   rw [this] at hb
   cases hb;exact z
theorem cnt_L2 {b cap:Nat}{e:TypeId}{sl:Sl}{xs:List Int}(il:IL h0 sl xs){B:Nat}(hB:B<1073741824)(hl:xs.length≤B)(a2:Sl)(a3 a4:Int) :
  ∀ (n i:Nat) (c r:List Int) (h:AHeap) (L:List Own),xs.length - i<n→i≤xs.length→bumps (xs.drop i) c=some r→Z h0 h (.blk b (c.map vi) e::L) →
   Wp (graph_counts_L2 n ⟨some ⟨b,0,none⟩,c.length,cap⟩ a2 a3 a4 sl (sl.len:Int) (i:Int)) h fun _ h'=>Z h0 h' (.blk b (r.map vi) e::L):=by
 intro n
 induction n with
 | zero=>intro i c r h L h1;omega
 | succ n ih =>
  intro i c r h L h1 h2 hb z
  rw [graph_counts_L2_succ]
  unfold graph_counts_L2_B
  rw [il.len]
  by_cases hi:i<xs.length
  ·rw [if_pos (by simp;omega)]
   obtain⟨x,hx⟩:=getI hi
   rw [drop_cons hx,bumps] at hb
   cases hb1:bump c x with
   | none=>rw [hb1] at hb;cases hb
   | some c1 =>
    rw [hb1] at hb
    refine (il.fr z.fr).ix (by omega) (by simpa using hx) fun a g cl=>cl.ld0 (l:=li) rfl rfl ?_
    refine bump_wp (i:=0) z rfl hb1 rfl fun h2 z=>?_
    have:=ih (i+1) c1 r h2 L (by omega) (by omega) hb z
    rw [up1 (Nat.le_of_lt hi) (by omega)]
    rw [il.len,bump_len hb1] at this
    exact this
  ·rw [if_neg (by simp;omega),Wp_pure]
   have:xs.drop i=[]:=List.drop_eq_nil_of_le (by omega)
   rw [this] at hb
   cases hb;exact z
theorem cnt_L0 {s:Sl}{N:List NodeV}(G:GrR h0 s N){B:Nat}(hB:Bd N B){b cap:Nat}{e:TypeId} :
  ∀ (n i:Nat) (c r:List Int) (h:AHeap) (L:List Own),N.length - i+B+5<n→i≤N.length→cnts (N.drop i) c=some r→Z h0 h (.blk b (c.map vi) e::L) →
   Wp (graph_counts_L0 n ⟨some ⟨b,0,none⟩,c.length,cap⟩ s (s.len:Int) (i:Int)) h fun _ h'=>Z h0 h' (.blk b (r.map vi) e::L):=by
 intro n
 induction n with
 | zero=>intro i c r h L h1;omega
 | succ n ih =>
  intro i c r h L h1 h2 hb z
  rw [graph_counts_L0_succ]
  unfold graph_counts_L0_B
  rw [G.len]
  by_cases hi:i<N.length
  ·rw [if_pos (by simp;omega)]
   obtain⟨x,hx⟩:=getI hi
   rw [drop_cons hx,cnts] at hb
   have hbd:=hB.2.2 x (List.mem_of_getElem? hx)
   cases hb1:bumps x.keys c with
   | none=>rw [hb1] at hb;cases hb
   | some c1 =>
    rw [hb1] at hb
    simp only [Option.bind_some] at hb
    cases hb2:bumps x.items c1 with
    | none=>rw [hb2] at hb;cases hb
    | some c2 =>
     rw [hb2] at hb
     simp only [Option.bind_some] at hb
     refine G.at z (by omega) (by simpa using hx) fun a ks is nd ik ii=>nd.lds ?_
     refine z.node fun x2 h2' z=>?_
     refine z.ld 0 (o:=3) (l:=.sl) ?_
     have z:=z.perm (List.Perm.swap _ _ _)
     rw [Wp_bind]
     refine (cnt_L1 ik hB.2.1 hbd.1 _ _ _ _ n 0 c c1 _ _ (by omega) (by omega) (by simpa using hb1) z).mono fun _ h3 z=>?_
     refine z.ld 1 (o:=4) (l:=.sl) ?_
     rw [Wp_bind,← bumps_len hb1]
     refine (cnt_L2 ii hB.2.1 hbd.2 _ _ _ n 0 c1 c2 _ _ (by omega) (by omega) (by simpa using hb2) z).mono fun _ h4 z=>?_
     have z:=(z.perm (List.Perm.swap _ _ _)).drop
     have:=ih (i+1) c2 r h4 L (by omega) (by omega) hb z
     rw [up1 (Nat.le_of_lt hi) (by have:=hB.1;have:=hB.2.1;omega)]
     rw [G.len,bumps_len hb2] at this
     exact this
  ·rw [if_neg (by simp;omega),Wp_pure]
   have:N.drop i=[]:=List.drop_eq_nil_of_le (by omega)
   rw [this] at hb
   cases hb;exact z
theorem counts_wp {s:Sl}{root:Int}{N:List NodeV}(z:Z h0 h L)(G:GrR h0 s N){B:Nat}(hB:Bd N B){n:Nat}(hn:2 * B+6<n){r:List Int}(hr:cnt N root=some r) :
  Wp (graph_counts n (s,root)) h fun x h'=>∃ b,x=⟨some ⟨b,0,none⟩,N.length,N.length+1⟩∧r.length=N.length∧Z h0 h' (.blk b (r.map vi) T_i64::L):=by
 unfold graph_counts
 unfold cnt at hr
 cases h1:bump (List.replicate N.length 0) root with
 | none=>rw [h1] at hr;cases hr
 | some c1 =>
  rw [h1] at hr
  simp only [Option.bind_some] at hr
  refine z.new fun x0 h1' z f1=>?_
  refine z.ld 0 (o:=0) (l:=.sl) ?_
  rw [G.len]
  refine z.mkA (by omega) (by have:=hB.1;have:=hB.2.1;unfold bigN;omega) fun b h2 z f2=>?_
  rw [Int.toNat_natCast] at z ⊢
  rw [rep_map (enc:=vi)] at z
  refine z.ld 1 (o:=1) (l:=li) ?_
  refine bump_wp (i:=0) z rfl h1 (by simp) fun h3 z=>?_
  refine z.ld 1 (o:=0) (l:=.sl) ?_
  rw [Wp_bind]
  have hl:=bump_len h1
  rw [List.length_replicate] at hl
  have:=cnt_L0 G hB (cap:=N.length+1) n 0 c1 r h3 (.blk x0 [vsl s,vi root] T_api_Graph::L) (by have:=hB.1;omega) (by omega) (by simpa using hr) z
  rw [hl] at this
  refine this.mono fun _ h4 z=>?_
  rw [Wp_pure]
  exact⟨b,rfl,by rw [cnts_len hr,hl],(z.perm (List.Perm.swap _ _ _)).drop⟩
def visA (k:Nat)(N:List NodeV):List Int→List Bool→Option (List Bool)
 | [],ms=>some ms
 | x::xs,ms=>(vis k N x ms).bind (visA k N xs)
def inK (k:Nat)(N:List NodeV):List NodeV→List Bool→Option (List Bool)
 | [],ms=>some ms
 | x::xs,ms=>(visA k N x.keys ms).bind (inK k N xs)
theorem visA_len {k:Nat}{N:List NodeV}:∀ {xs:List Int} {ms r:List Bool},visA k N xs ms=some r→r.length=ms.length
 | [],ms,r,hb=>by cases hb;rfl
 | x::xs,ms,r,hb=>by
  rw [visA] at hb
  cases h1:vis k N x ms with
  | none=>rw [h1] at hb;cases hb
  | some c1=>rw [h1] at hb;rw [visA_len hb,(vis_len k N).1 _ _ _ h1]
theorem inK_len {k:Nat}{N:List NodeV}:∀ {xs:List NodeV} {ms r:List Bool},inK k N xs ms=some r→r.length=ms.length
 | [],ms,r,hb=>by cases hb;rfl
 | x::xs,ms,r,hb=>by
  rw [inK] at hb
  cases h1:visA k N x.keys ms with
  | none=>rw [h1] at hb;cases hb
  | some c1=>rw [h1] at hb;rw [inK_len hb,visA_len h1]
theorem ink_L1 {s:Sl}{root:Int}{N:List NodeV}(G:GrR h0 s N){B:Nat}(hB:Bd N B){b b0 cap k:Nat}{e:TypeId}{sl:Sl}{xs:List Int}(il:IL h0 sl xs)(hl:xs.length≤B)(a2:Sl)(a3 a4:Int) :
  ∀ (n i:Nat) (c r:List Bool) (h:AHeap) (L:List Own),k+(xs.length - i)<n→i≤xs.length→visA k N (xs.drop i) c=some r→Z h0 h (.blk b (c.map .bool) e::.blk b0 [vsl s,vi root] T_api_Graph::L) →
   Wp (graph_inKeys_L1 n (adr b0) ⟨some ⟨b,0,none⟩,c.length,cap⟩ a2 a3 a4 sl (sl.len:Int) (i:Int)) h fun _ h'=>Z h0 h' (.blk b (r.map .bool) e::.blk b0 [vsl s,vi root] T_api_Graph::L):=by
 intro n
 induction n with
 | zero=>intro i c r h L h1;omega
 | succ n ih =>
  intro i c r h L h1 h2 hb z
  rw [graph_inKeys_L1_succ]
  unfold graph_inKeys_L1_B
  rw [il.len]
  by_cases hi:i<xs.length
  ·rw [if_pos (by simp;omega)]
   obtain⟨x,hx⟩:=getI hi
   rw [drop_cons hx,visA] at hb
   cases hb1:vis k N x c with
   | none=>rw [hb1] at hb;cases hb
   | some c1 =>
    rw [hb1] at hb
    refine (il.fr z.fr).ix (by omega) (by simpa using hx) fun a g cl=>cl.ld0 (l:=li) rfl rfl ?_
    refine z.lds 1 (ls:=[.sl,li]) (x:=(s,root)) ?_
    rw [Wp_bind]
    refine (reached_wp z G hB hb1 (by omega)).mono fun _ h2 z=>?_
    have:=ih (i+1) c1 r h2 L (by omega) (by omega) hb z
    rw [up1 (Nat.le_of_lt hi) (by have:=hB.2.1;omega)]
    rw [il.len,(vis_len k N).1 _ _ _ hb1] at this
    exact this
  ·rw [if_neg (by simp;omega),Wp_pure]
   have:xs.drop i=[]:=List.drop_eq_nil_of_le (by omega)
   rw [this] at hb
   cases hb;exact z
theorem ink_L0 {s:Sl}{root:Int}{N:List NodeV}(G:GrR h0 s N){B:Nat}(hB:Bd N B){b b0 cap k:Nat}{e:TypeId} :
  ∀ (n i:Nat) (c r:List Bool) (h:AHeap) (L:List Own),k+(N.length - i)+B+5<n→i≤N.length→inK k N (N.drop i) c=some r→Z h0 h (.blk b (c.map .bool) e::.blk b0 [vsl s,vi root] T_api_Graph::L) →
   Wp (graph_inKeys_L0 n (adr b0) ⟨some ⟨b,0,none⟩,c.length,cap⟩ s (s.len:Int) (i:Int)) h fun _ h'=>Z h0 h' (.blk b (r.map .bool) e::.blk b0 [vsl s,vi root] T_api_Graph::L):=by
 intro n
 induction n with
 | zero=>intro i c r h L h1;omega
 | succ n ih =>
  intro i c r h L h1 h2 hb z
  rw [graph_inKeys_L0_succ]
  unfold graph_inKeys_L0_B
  rw [G.len]
  by_cases hi:i<N.length
  ·rw [if_pos (by simp;omega)]
   obtain⟨x,hx⟩:=getI hi
   rw [drop_cons hx,inK] at hb
   have hbd:=hB.2.2 x (List.mem_of_getElem? hx)
   cases hb1:visA k N x.keys c with
   | none=>rw [hb1] at hb;cases hb
   | some c1 =>
    rw [hb1] at hb
    simp only [Option.bind_some] at hb
    refine G.at z (by omega) (by simpa using hx) fun a ks is nd ik ii=>nd.lds ?_
    refine z.node fun x2 h2' z=>?_
    refine z.ld 0 (o:=3) (l:=.sl) ?_
    have z:=z.perm ((List.Perm.swap _ _ _).trans (List.Perm.cons _ (List.Perm.swap _ _ _)))
    rw [Wp_bind]
    refine (ink_L1 (k:=k) G hB ik hbd.1 _ _ _ n 0 c c1 _ _ (by omega) (by omega) (by simpa using hb1) z).mono fun _ h3 z=>?_
    have z:=(z.perm ((List.Perm.cons _ (List.Perm.swap _ _ _)).trans (List.Perm.swap _ _ _))).drop
    have:=ih (i+1) c1 r h3 L (by omega) (by omega) hb z
    rw [up1 (Nat.le_of_lt hi) (by have:=hB.1;have:=hB.2.1;omega)]
    rw [G.len,visA_len hb1] at this
    exact this
  ·rw [if_neg (by simp;omega),Wp_pure]
   have:N.drop i=[]:=List.drop_eq_nil_of_le (by omega)
   rw [this] at hb
   cases hb;exact z
theorem inKeys_wp {s:Sl}{root:Int}{N:List NodeV}(z:Z h0 h L)(G:GrR h0 s N){B:Nat}(hB:Bd N B){k n:Nat}(hn:k+2 * B+6<n){r:List Bool}(hr:inK k N N (List.replicate N.length false)=some r) :
  Wp (graph_inKeys n (s,root)) h fun x h'=>∃ b,x=⟨some ⟨b,0,none⟩,N.length,N.length+1⟩∧r.length=N.length∧Z h0 h' (.blk b (r.map .bool) T_bool::L):=by
 unfold graph_inKeys
 refine z.new fun x0 h1' z f1=>?_
 refine z.ld 0 (o:=0) (l:=.sl) ?_
 rw [G.len]
 refine z.mkA (by omega) (by have:=hB.1;have:=hB.2.1;unfold bigN;omega) fun b h2 z f2=>?_
 rw [Int.toNat_natCast] at z ⊢
 rw [rep_map (enc:=Value.bool)] at z
 refine z.ld 1 (o:=0) (l:=.sl) ?_
 rw [Wp_bind]
 have:=ink_L0 (k:=k) (root:=root) G hB (cap:=N.length+1) n 0 _ r _ L (by have:=hB.1;omega) (by omega) (by simpa using hr) z
 rw [List.length_replicate] at this
 refine this.mono fun _ h4 z=>?_
 rw [Wp_pure]
 exact⟨b,rfl,by rw [inK_len hr,List.length_replicate],(z.perm (List.Perm.swap _ _ _)).drop⟩
end Go.Sh
