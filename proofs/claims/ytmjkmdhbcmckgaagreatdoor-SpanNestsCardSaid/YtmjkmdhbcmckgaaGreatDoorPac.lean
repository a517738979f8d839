
import Derived.Test.YtmjkmdhbcmckgaaGreatDoorGfPa
set_option linter.all false
namespace Go.Sh
open Go Go.Ago Go.Proofs
variable {α β:Type}{h h' h0:AHeap}{L:List Own}{Q:β→AHeap→Prop}
mutual
def same:Nat→List NodeV→Int→Int→Option Bool
 | 0,_,_,_=>none
 | k+1,N,i,j=>match gt N i,gt N j with
  | some x,some y =>
   if x.kind≠y.kind then some false
   else if eqS x.text y.text=false then some false
   else if x.ord≠y.ord then some false
   else if x.items.length≠y.items.length then some false
   else if x.kind=10∧x.ord=false then sameM k N x y 0
   else sameI k N x y 0
  | _,_=>none
def sameM:Nat→List NodeV→NodeV→NodeV→Nat→Option Bool
 | 0,_,_,_,_=>none
 | k+1,N,x,y,i=>match x.keys[i]? with
  | none=>some true
  | some kx=>match sameF k N x y i kx 0 false with
   | none=>none
   | some false=>some false
   | some true=>sameM k N x y (i+1)
def sameF:Nat→List NodeV→NodeV→NodeV→Nat→Int→Nat→Bool→Option Bool
 | 0,_,_,_,_,_,_,_=>none
 | k+1,N,x,y,i,kx,j,b=>match y.keys[j]? with
  | none=>some b
  | some ky=>match b with
   | true=>sameF k N x y i kx (j+1) true
   | false=>match same k N kx ky with
    | none=>none
    | some false=>sameF k N x y i kx (j+1) false
    | some true=>match x.items[i]?,y.items[j]? with
     | some p,some q=>match same k N p q with
      | none=>none
      | some c=>sameF k N x y i kx (j+1) c
     | _,_=>none
def sameI:Nat→List NodeV→NodeV→NodeV→Nat→Option Bool
 | 0,_,_,_,_=>none
 | k+1,N,x,y,i=>match x.items[i]? with
  | none=>some true
  | some p=>match y.items[i]? with
   | none=>none
   | some q =>
    if x.kind=10 then match x.keys[i]?,y.keys[i]? with
     | some kx,some ky=>match same k N kx ky with
      | none=>none
      | some false=>some false
      | some true=>match same k N p q with
       | none=>none
       | some false=>some false
       | some true=>sameI k N x y (i+1)
     | _,_=>none
    else match same k N p q with
     | none=>none
     | some false=>some false
     | some true=>sameI k N x y (i+1)
end
def SO (b8 b9 b0:Nat)(x y:NodeV)(kx ix ky iy s:Sl)(root:Int):List Own :=
 [.blk b8 [vi x.kind,.string x.text,.bool x.ord,vsl kx,vsl ix] T_api_Node,.blk b9 [vi y.kind,.string y.text,.bool y.ord,vsl ky,vsl iy] T_api_Node,.blk b0 [vsl s,vi root] T_api_Graph]
structure S4 (h0:AHeap) (B:Nat) (x y:NodeV) (kx ix ky iy:Sl):Prop where
 kx:IL h0 kx x.keys
 ix:IL h0 ix x.items
 ky:IL h0 ky y.keys
 iy:IL h0 iy y.items
 b1:x.keys.length≤B
 b2:x.items.length≤B
 b3:y.keys.length≤B
 b4:y.items.length≤B
theorem lt_of_get {l:List α}{i:Nat}{x:α}(hx:l[i]?=some x):i<l.length:=(List.getElem?_eq_some_iff.1 hx).1
theorem ge_of_get {l:List α}{i:Nat}(hx:l[i]?=none):l.length≤i:=List.getElem?_eq_none_iff.1 hx
theorem same_wp_all {s:Sl}{root:Int}{N:List NodeV}(G:GrR h0 s N){B:Nat}(hB:Bd N B) :
  ∀ (k:Nat),(∀ (n:Nat) (i j:Int) (r:Bool) (h:AHeap) (L:List Own),k≤n→same k N i j=some r→Z h0 h L→Wp (graph_same n (s,root) i j) h fun x h'=>x=r∧Z h0 h' L) ∧
   (∀ (n i:Nat) (r:Bool) (x y:NodeV) (kx ix ky iy:Sl) (b8 b9 b0:Nat) (h:AHeap) (L:List Own),k≤n→sameM k N x y i=some r→S4 h0 B x y kx ix ky iy→i≤x.keys.length→Z h0 h (SO b8 b9 b0 x y kx ix ky iy s root++L) →
    Wp (graph_same_L0 n (adr b0) (adr b8) (adr b9) kx (kx.len:Int) (i:Int)) h fun z h'=>z=(if r then .inl () else .inr false)∧Z h0 h' (SO b8 b9 b0 x y kx ix ky iy s root++L)) ∧
   (∀ (n i j:Nat) (v:Int) (b r:Bool) (x y:NodeV) (kx ix ky iy a6:Sl) (a7:Int) (b8 b9 b0:Nat) (h:AHeap) (L:List Own),k≤n→sameF k N x y i v j b=some r→S4 h0 B x y kx ix ky iy→j≤y.keys.length→Z h0 h (SO b8 b9 b0 x y kx ix ky iy s root++L) →
    Wp (graph_same_L1 n (adr b0) (adr b8) (adr b9) (i:Int) v b a6 a7 (i:Int) ky (ky.len:Int) (j:Int)) h fun z h'=>z=r∧Z h0 h' (SO b8 b9 b0 x y kx ix ky iy s root++L)) ∧
   (∀ (n i:Nat) (r:Bool) (x y:NodeV) (kx ix ky iy:Sl) (b8 b9 b0:Nat) (h:AHeap) (L:List Own),k≤n→sameI k N x y i=some r→S4 h0 B x y kx ix ky iy→i≤x.items.length→Z h0 h (SO b8 b9 b0 x y kx ix ky iy s root++L) →
    Wp (graph_same_L2 n (adr b0) (adr b8) (adr b9) (ix.len:Int) (i:Int)) h fun z h'=>z=(if r then .inl () else .inr false)∧Z h0 h' (SO b8 b9 b0 x y kx ix ky iy s root++L)):=by
 intro k
 induction k with
 | zero=>exact⟨fun n i j r h L _ hv=>by simp [same] at hv,fun n i r x y kx ix ky iy b8 b9 b0 h L _ hv=>by simp [sameM] at hv,fun n i j v b r x y kx ix ky iy a6 a7 b8 b9 b0 h L _ hv=>by simp [sameF] at hv,fun n i r x y kx ix ky iy b8 b9 b0 h L _ hv=>by simp [sameI] at hv⟩
 | succ k ih =>
  obtain⟨ih1,ih2,ih3,ih4⟩:=ih
  refine⟨fun n i j r h L hn hv z=>?_,fun n i r x y kx ix ky iy b8 b9 b0 h L hn hv S hi z=>?_,fun n i j v b r x y kx ix ky iy a6 a7 b8 b9 b0 h L hn hv S hj z=>?_,fun n i r x y kx ix ky iy b8 b9 b0 h L hn hv S hi z=>?_⟩
  ·obtain⟨n,rfl⟩:∃ m,n=m+1:=⟨n - 1,by omega⟩
   rw [graph_same_succ]
   unfold graph_same_B
   rw [same] at hv
   cases hx:gt N i with
   | none=>rw [hx] at hv;cases hv
   | some x =>
   cases hy:gt N j with
   | none=>rw [hx,hy] at hv;cases hv
   | some y =>
   rw [hx,hy] at hv
   simp only at hv
   obtain⟨x1,x2⟩:=gt_some hx
   obtain⟨y1,y2⟩:=gt_some hy
   refine z.new fun b0 h1 z _=>?_
   refine z.reserve [10,11] (by decide) (by decide) fun nb h2 z=>?_
   refine z.ld 2 (o:=0) (l:=.sl) ?_
   refine G.at0 z x1 x2 fun a kx ix nx=>(nx.fr z.fr).lds ?_
   refine z.ld 2 (o:=0) (l:=.sl) ?_
   refine G.at0 z y1 y2 fun a2 ky iy ny=>(ny.fr z.fr).lds ?_
   refine z.newAt 0 fun h3 z=>z.newAt 1 fun h4 z=>?_
   refine z.stC 0 ?_ fun h5 z=>z.st 1 fun h6 z=>?_
   ·intro a' ha'
    simp only [List.mem_cons,Option.some.injEq,List.not_mem_nil,or_false] at ha'
    rcases ha' with rfl | rfl
    ·exact z.nbO 0 2 rfl rfl (by decide)
    ·obtain⟨g,c⟩:=ny.cl
     exact z.nb0 0 c rfl
   have z:Z h0 h6 (SO (nb+10) (nb+11) b0 x y kx ix ky iy s root++L):=z
   have hbx:=hB.2.2 x (List.mem_of_getElem? x2)
   have hby:=hB.2.2 y (List.mem_of_getElem? y2)
   have S:S4 h0 B x y kx ix ky iy:=⟨nx.keys,nx.items,ny.keys,ny.items,hbx.1,hbx.2,hby.1,hby.2⟩
   have dr:∀ {h},Z h0 h (SO (nb+10) (nb+11) b0 x y kx ix ky iy s root++L)→Z h0 h L:=fun z=>z.drop.drop.drop
   refine z.ld 0 (o:=0) (l:=li) (x:=x.kind) ?_
   refine z.ld 1 (o:=0) (l:=li) (x:=y.kind) ?_
   by_cases e1:x.kind=y.kind
   case neg =>
    rw [if_pos e1] at hv;cases hv
    rw [if_pos (by simpa using e1),Wp_pure];exact⟨rfl,dr z⟩
   rw [if_neg (by simpa using e1)] at hv
   rw [if_neg (by simpa using e1)]
   refine z.ld 0 (o:=1) (l:=.str) (x:=x.text) ?_
   refine z.ld 1 (o:=1) (l:=.str) (x:=y.text) ?_
   cases e2:eqS x.text y.text with
   | false =>
    rw [if_pos e2] at hv;cases hv
    rw [if_pos (by rfl),Wp_pure];exact⟨rfl,dr z⟩
   | true =>
   rw [if_neg (by simp [e2])] at hv
   rw [if_neg (by simp)]
   refine z.ld 0 (o:=2) (l:=.bool) (x:=x.ord) ?_
   refine z.ld 1 (o:=2) (l:=.bool) (x:=y.ord) ?_
   by_cases e3:x.ord=y.ord
   case neg =>
    rw [if_pos e3] at hv;cases hv
    rw [if_pos (by simpa using e3),Wp_pure];exact⟨rfl,dr z⟩
   rw [if_neg (by simpa using e3)] at hv
   rw [if_neg (by simpa using e3)]
   refine z.ld 0 (o:=4) (l:=.sl) (x:=ix) ?_
   refine z.ld 1 (o:=4) (l:=.sl) (x:=iy) ?_
   rw [S.ix.len,S.iy.len]
   by_cases e4:x.items.length=y.items.length
   case neg =>
    rw [if_pos e4] at hv;cases hv
    rw [if_pos (by simp;omega),Wp_pure];exact⟨rfl,dr z⟩
   rw [if_neg (by simpa using e4)] at hv
   rw [if_neg (by simp;omega)]
   unfold graph_same_J0_B
   have fin:∀ {z:Unit ⊕ Bool} {h'} {g1:Unit→M Bool} {g2:Bool→M Bool},(z=(if r then .inl () else .inr false)∧Z h0 h' (SO (nb+10) (nb+11) b0 x y kx ix ky iy s root++L))→(g1=fun _=>M.pure true)→(g2=fun x=>M.pure x) →
     Wp (sumElim g1 g2 z) h' fun x h'=>x=r∧Z h0 h' L:=by
    intro z h' g1 g2 hz e1 e2
    obtain⟨rfl,z⟩:=hz
    subst e1 e2
    cases r with
    | true=>exact Wp_pure.2 ⟨rfl,dr z⟩
    | false=>exact Wp_pure.2 ⟨rfl,dr z⟩
   refine z.ld 0 (o:=0) (l:=li) (x:=x.kind) ?_
   by_cases e5:x.kind=10
   ·rw [if_pos (by simpa using e5)]
    refine z.ld 0 (o:=2) (l:=.bool) (x:=x.ord) ?_
    cases e6:x.ord with
    | false =>
     rw [if_pos ⟨e5,e6⟩] at hv
     rw [if_pos (by rfl)]
     refine z.ld 0 (o:=3) (l:=.sl) (x:=kx) ?_
     rw [Wp_bind]
     exact (ih2 n 0 r x y kx ix ky iy _ _ _ _ L (by omega) hv S (by omega) z).mono fun _ h' hz=>fin hz rfl rfl
    | true =>
     rw [if_neg (by simp [e6])] at hv
     rw [if_neg (by simp)]
     refine z.ld 0 (o:=4) (l:=.sl) (x:=ix) ?_
     rw [Wp_bind]
     exact (ih4 n 0 r x y kx ix ky iy _ _ _ _ L (by omega) hv S (by omega) z).mono fun _ h' hz=>fin hz rfl rfl
   ·rw [if_neg (by simpa using e5)]
    rw [if_neg (fun e=>e5 e.1)] at hv
    refine z.ld 0 (o:=4) (l:=.sl) (x:=ix) ?_
    rw [Wp_bind]
    exact (ih4 n 0 r x y kx ix ky iy _ _ _ _ L (by omega) hv S (by omega) z).mono fun _ h' hz=>fin hz rfl rfl
  ·obtain⟨n,rfl⟩:∃ m,n=m+1:=⟨n - 1,by omega⟩
   rw [graph_same_L0_succ]
   unfold graph_same_L0_B
   rw [S.kx.len]
   rw [sameM] at hv
   cases hx:x.keys[i]? with
   | none =>
    rw [hx] at hv;cases hv
    have:=ge_of_get hx
    rw [if_neg (by simp;omega),Wp_pure];exact⟨rfl,z⟩
   | some v =>
    rw [hx] at hv
    simp only at hv
    have hlt:=lt_of_get hx
    rw [if_pos (by simp;omega)]
    refine (S.kx.fr z.fr).ix (by omega) (by simpa using hx) fun a1 g c=>c.ld0 (l:=li) rfl rfl ?_
    refine z.ld 1 (o:=3) (l:=.sl) (x:=ky) ?_
    cases hf:sameF k N x y i v 0 false with
    | none=>rw [hf] at hv;cases hv
    | some b =>
     rw [hf] at hv
     rw [Wp_bind]
     refine (ih3 n i 0 v false b x y kx ix ky iy kx _ _ _ _ _ L (by omega) hf S (by omega) z).mono fun b' h2 hz=>?_
     obtain⟨rfl,z⟩:=hz
     cases b' with
     | false =>
      cases hv
      rw [if_pos (by rfl),Wp_pure];exact⟨rfl,z⟩
     | true =>
      rw [if_neg (by simp),up1 hi (by have:=S.b1;have:=hB.2.1;omega)]
      have:=ih2 n (i+1) r x y kx ix ky iy _ _ _ _ L (by omega) hv S (by omega) z
      rwa [S.kx.len] at this
  ·obtain⟨n,rfl⟩:∃ m,n=m+1:=⟨n - 1,by omega⟩
   rw [graph_same_L1_succ]
   unfold graph_same_L1_B
   rw [S.ky.len]
   rw [sameF] at hv
   cases hx:y.keys[j]? with
   | none =>
    rw [hx] at hv;cases hv
    have:=ge_of_get hx
    rw [if_neg (by simp;omega),Wp_pure];exact⟨rfl,z⟩
   | some w =>
    rw [hx] at hv
    simp only at hv
    have hlt:=lt_of_get hx
    rw [if_pos (by simp;omega)]
    refine (S.ky.fr z.fr).ix (by omega) (by simpa using hx) fun a1 g c=>c.ld0 (l:=li) rfl rfl ?_
    rw [up1 hj (by have:=S.b3;have:=hB.2.1;omega)]
    cases b with
    | true =>
     simp only at hv
     rw [if_pos rfl]
     have:=ih3 n i (j+1) v true r x y kx ix ky iy a6 a7 _ _ _ _ L (by omega) hv S (by omega) z
     rwa [S.ky.len] at this
    | false =>
     simp only at hv
     rw [if_neg (by simp)]
     refine z.lds 2 (ls:=[.sl,li]) (x:=(s,root)) ?_
     cases hs:same k N v w with
     | none=>rw [hs] at hv;cases hv
     | some b1 =>
      rw [hs] at hv
      rw [Wp_bind]
      refine (ih1 n v w b1 h _ (by omega) hs z).mono fun b' h2 hz=>?_
      obtain⟨rfl,z⟩:=hz
      cases b' with
      | false =>
       simp only at hv
       rw [if_neg (by simp)]
       have:=ih3 n i (j+1) v false r x y kx ix ky iy a6 a7 _ _ _ _ L (by omega) hv S (by omega) z
       rwa [S.ky.len] at this
      | true =>
       simp only at hv
       rw [if_pos rfl]
       refine z.lds 2 (ls:=[.sl,li]) (x:=(s,root)) ?_
       cases hp:x.items[i]? with
       | none=>rw [hp] at hv;cases hv
       | some p =>
       cases hq:y.items[j]? with
       | none=>rw [hp,hq] at hv;cases hv
       | some q =>
       rw [hp,hq] at hv
       simp only at hv
       refine z.ld 0 (o:=4) (l:=.sl) (x:=ix) ?_
       refine (S.ix.fr z.fr).ix (by omega) (by simpa using hp) fun a1 g c=>c.ld0 (l:=li) rfl rfl ?_
       refine z.ld 1 (o:=4) (l:=.sl) (x:=iy) ?_
       refine (S.iy.fr z.fr).ix (by omega) (by simpa using hq) fun a1 g c=>c.ld0 (l:=li) rfl rfl ?_
       cases hs2:same k N p q with
       | none=>rw [hs2] at hv;cases hv
       | some b2 =>
        rw [hs2] at hv
        simp only at hv
        rw [Wp_bind]
        refine (ih1 n p q b2 _ _ (by omega) hs2 z).mono fun b' h3 hz=>?_
        obtain⟨rfl,z⟩:=hz
        have:=ih3 n i (j+1) v b' r x y kx ix ky iy a6 a7 _ _ _ _ L (by omega) hv S (by omega) z
        rwa [S.ky.len] at this
  ·obtain⟨n,rfl⟩:∃ m,n=m+1:=⟨n - 1,by omega⟩
   rw [graph_same_L2_succ]
   unfold graph_same_L2_B
   rw [S.ix.len]
   rw [sameI] at hv
   cases hp:x.items[i]? with
   | none =>
    rw [hp] at hv;cases hv
    have:=ge_of_get hp
    rw [if_neg (by simp;omega),Wp_pure];exact⟨rfl,z⟩
   | some p =>
   cases hq:y.items[i]? with
   | none=>rw [hp,hq] at hv;cases hv
   | some q =>
   rw [hp,hq] at hv
   simp only at hv
   have hlt:=lt_of_get hp
   rw [if_pos (by simp;omega)]
   rw [up1 hi (by have:=S.b2;have:=hB.2.1;omega)]
   refine z.ld 0 (o:=0) (l:=li) (x:=x.kind) ?_
   have nxt:∀ {h},sameI k N x y (i+1)=some r→Z h0 h (SO b8 b9 b0 x y kx ix ky iy s root++L)→Wp ((Cl_graph_same.at n).graph_same_L2 (adr b0) (adr b8) (adr b9) (x.items.length:Int) ((i+1:Nat):Int)) h fun z h'=>z=(if r then .inl () else .inr false)∧Z h0 h' (SO b8 b9 b0 x y kx ix ky iy s root++L):=by
    intro h hv z
    have:=ih4 n (i+1) r x y kx ix ky iy _ _ _ _ L (by omega) hv S (by omega) z
    rwa [S.ix.len] at this
   by_cases e5:x.kind=10
   ·rw [if_pos e5] at hv
    rw [if_pos (by simpa using e5)]
    cases hk:x.keys[i]? with
    | none=>rw [hk] at hv;cases hv
    | some v =>
    cases hk2:y.keys[i]? with
    | none=>rw [hk,hk2] at hv;cases hv
    | some w =>
    rw [hk,hk2] at hv
    simp only at hv
    refine z.lds 2 (ls:=[.sl,li]) (x:=(s,root)) ?_
    refine z.ld 0 (o:=3) (l:=.sl) (x:=kx) ?_
    refine (S.kx.fr z.fr).ix (by omega) (by simpa using hk) fun a1 g c=>c.ld0 (l:=li) rfl rfl ?_
    refine z.ld 1 (o:=3) (l:=.sl) (x:=ky) ?_
    refine (S.ky.fr z.fr).ix (by omega) (by simpa using hk2) fun a1 g c=>c.ld0 (l:=li) rfl rfl ?_
    cases hs:same k N v w with
    | none=>rw [hs] at hv;cases hv
    | some b1 =>
    rw [hs] at hv
    rw [Wp_bind]
    refine (ih1 n v w b1 h _ (by omega) hs z).mono fun b' h2 hz=>?_
    obtain⟨rfl,z⟩:=hz
    cases b' with
    | false =>
     cases hv
     rw [if_pos (by rfl),Wp_pure];exact⟨rfl,z⟩
    | true =>
     simp only at hv
     rw [if_neg (by simp)]
     refine z.lds 2 (ls:=[.sl,li]) (x:=(s,root)) ?_
     refine z.ld 0 (o:=4) (l:=.sl) (x:=ix) ?_
     refine (S.ix.fr z.fr).ix (by omega) (by simpa using hp) fun a1 g c=>c.ld0 (l:=li) rfl rfl ?_
     refine z.ld 1 (o:=4) (l:=.sl) (x:=iy) ?_
     refine (S.iy.fr z.fr).ix (by omega) (by simpa using hq) fun a1 g c=>c.ld0 (l:=li) rfl rfl ?_
     cases hs2:same k N p q with
     | none=>rw [hs2] at hv;cases hv
     | some b2 =>
     rw [hs2] at hv
     rw [Wp_bind]
     refine (ih1 n p q b2 _ _ (by omega) hs2 z).mono fun b' h3 hz=>?_
     obtain⟨rfl,z⟩:=hz
     cases b' with
     | false =>
      cases hv
      rw [if_pos (by rfl),Wp_pure];exact⟨rfl,z⟩
     | true =>
      simp only at hv
      rw [if_neg (by simp)]
      exact nxt hv z
   ·rw [if_neg e5] at hv
    rw [if_neg (by simpa using e5)]
    refine z.lds 2 (ls:=[.sl,li]) (x:=(s,root)) ?_
    refine z.ld 0 (o:=4) (l:=.sl) (x:=ix) ?_
    refine (S.ix.fr z.fr).ix (by omega) (by simpa using hp) fun a1 g c=>c.ld0 (l:=li) rfl rfl ?_
    refine z.ld 1 (o:=4) (l:=.sl) (x:=iy) ?_
    refine (S.iy.fr z.fr).ix (by omega) (by simpa using hq) fun a1 g c=>c.ld0 (l:=li) rfl rfl ?_
    cases hs2:same k N p q with
    | none=>rw [hs2] at hv;cases hv
    | some b2 =>
    rw [hs2] at hv
    rw [Wp_bind]
    refine (ih1 n p q b2 _ _ (by omega) hs2 z).mono fun b' h3 hz=>?_
    obtain⟨rfl,z⟩:=hz
    cases b' with
    | false =>
     cases hv
     rw [if_pos (by rfl),Wp_pure];exact⟨rfl,z⟩
    | true =>
     simp only at hv
     rw [if_neg (by simp)]
     exact nxt hv z
theorem same_wp {s:Sl}{root:Int}{N:List NodeV}(z:Z h0 h L)(G:GrR h0 s N){B:Nat}(hB:Bd N B){k n:Nat}{i j:Int}{r:Bool}(hn:k≤n)(hv:same k N i j=some r):Wp (graph_same n (s,root) i j) h fun x h'=>x=r∧Z h0 h' L :=
 (same_wp_all G hB k).1 n i j r h L hn hv z
end Go.Sh
set_option linter.all false
namespace Go.Sh
open Go Go.Ago Go.Proofs
variable {α β:Type}{h h' h0:AHeap}{L:List Own}{Q:β→AHeap→Prop}
def isKey (N:List NodeV)(k:Int)(t:ByteArray)(y:Int):Bool:=match gt N y with
 | some n=>decide (k=n.kind) && eqS t n.text
 | none=>false
def twC (k:Nat)(N:List NodeV)(x:Int):List Int→Option Bool
 | []=>some false
 | y::ys=>match same k N x y with
  | none=>none
  | some true=>some true
  | some false=>twC k N x ys
def twK (k:Nat)(N:List NodeV):List Int→List Int→Option Bool
 | _,[]=>some false
 | met,x::xs=>match gt N x with
  | none=>none
  | some n=>match twC k N x (met.filter (isKey N n.kind n.text)) with
   | none=>none
   | some true=>some true
   | some false=>twK k N (met++[x]) xs
def twN (k:Nat)(N:List NodeV):List NodeV→Option Bool
 | []=>some false
 | x::xs=>match twK k N [] x.keys with
  | none=>none
  | some true=>some true
  | some false=>twN k N xs
structure TwE where
 kind:Int
 text:ByteArray
 s:Sl
 g:Nat
 xs:List Int
def TwE.own (e:TwE):Own:=.ps e.s 1 T_i64 (e.xs.map vi) e.g
def keyV (k:Int)(t:ByteArray):Value:=Value.agg #[vi k,Value.string t]
theorem veq_key (k k':Int)(t t':ByteArray):veq (keyV k t) (keyV k' t')=(decide (k=k') && eqS t t'):=by
 show veqs [vi k,Value.string t] [vi k',Value.string t']=_
 unfold veqs veqs veqs
 show (((eqK .i64 .i64 && decide (k=k'))) && (eqS t t' && true))=_
 rw [show eqK .i64 .i64=true from rfl]
 simp
theorem eqS_rfl (a:ByteArray):eqS a a=true:=(eqS_iff a a).2 rfl
def lk:List TwE→Int→ByteArray→Option (Nat×TwE)
 | [],_,_=>none
 | e::r,k,t=>if (decide (k=e.kind) && eqS t e.text)=true then some (0,e) else (lk r k t).map fun p=>(p.1+1,p.2)
theorem lk_some:∀ {E:List TwE} {k:Int} {t:ByteArray} {i:Nat} {e:TwE},lk E k t=some (i,e)→E[i]?=some e∧k=e.kind∧t=e.text
 | [],k,t,i,e,hl=>by cases hl
 | x::r,k,t,i,e,hl=>by
  rw [lk] at hl
  split at hl
  ·rename_i hc
   cases hl
   simp at hc
   exact⟨rfl,hc.1,eqS_of hc.2⟩
  ·cases hr:lk r k t with
   | none=>rw [hr] at hl;cases hl
   | some p =>
    rw [hr] at hl
    cases hl
    have:=lk_some (i:=p.1) (e:=p.2) hr
    exact⟨by simpa using this.1,this.2⟩
theorem lk_set:∀ {E:List TwE} {k:Int} {t:ByteArray} {i:Nat} {e e':TwE},lk E k t=some (i,e)→e'.kind=k→e'.text=t→∀ k' t',lk (E.set i e') k' t'=if (decide (k'=k) && eqS t' t)=true then some (i,e') else lk E k' t'
 | [],k,t,i,e,e',hl,_,_=>by cases hl
 | x::r,k,t,i,e,e',hl,h1,h2=>by
  intro k' t'
  rw [lk] at hl
  split at hl
  ·rename_i hc
   cases hl
   simp at hc
   rw [List.set_cons_zero,lk,h1,h2]
   split
   ·rfl
   ·rename_i hn
    rw [lk,if_neg]
    rw [← hc.1,← eqS_of hc.2];exact hn
  ·rename_i hc
   cases hr:lk r k t with
   | none=>rw [hr] at hl;cases hl
   | some p =>
    rw [hr] at hl
    cases hl
    rw [List.set_cons_succ,lk,lk_set (i:=p.1) (e:=p.2) hr h1 h2 k' t',lk]
    by_cases hx:(decide (k'=x.kind) && eqS t' x.text)=true
    ·rw [if_pos hx,if_pos hx,if_neg]
     intro hy
     simp at hx hy
     refine hc ?_
     rw [← hy.1,← eqS_of hy.2];simp [hx]
    ·rw [if_neg hx,if_neg hx]
     split <;> rfl
structure TwI (N:List NodeV) (E:List TwE) (met:List Int) (f:Value→Option Value):Prop where
 f:∀ k t,f (keyV k t)=(lk E k t).map fun p=>vsl p.2.s
 nn:∀ k t,lk E k t=none→met.filter (isKey N k t)=[]
 ss:∀ k t i e,lk E k t=some (i,e)→e.xs=met.filter (isKey N k t)
theorem TwI.nil (N:List NodeV):TwI N [] [] fun _=>none:=⟨fun _ _=>rfl,fun _ _ _=>rfl,fun _ _ _ _ hl=>by cases hl⟩
theorem filter_add {N:List NodeV}{met:List Int}{x:Int}{n:NodeV}(hn:gt N x=some n)(k:Int)(t:ByteArray) :
  (met++[x]).filter (isKey N k t)=met.filter (isKey N k t)++if (decide (k=n.kind) && eqS t n.text)=true then [x] else []:=by
 rw [List.filter_append]
 congr 1
 rw [List.filter_cons,isKey,hn]
 simp only [List.filter_nil]
theorem TwI.upd {N:List NodeV}{E:List TwE}{met:List Int}{f:Value→Option Value}(I:TwI N E met f){x:Int}{n:NodeV}(hn:gt N x=some n){i:Nat}{e:TwE}(hl:lk E n.kind n.text=some (i,e))(s:Sl)(g:Nat) :
  TwI N (E.set i ⟨n.kind,n.text,s,g,e.xs++[x]⟩) (met++[x]) (mupd f (keyV n.kind n.text) (vsl s)):=by
 have hs:=lk_set (e':=⟨n.kind,n.text,s,g,e.xs++[x]⟩) hl rfl rfl
 refine⟨fun k t=>?_,fun k t h1=>?_,fun k t j e2 h1=>?_⟩
 ·rw [hs,mupd,veq_key]
  split
  ·rename_i hc;rfl
  ·rename_i hc;exact I.f k t
 ·rw [hs] at h1
  rw [filter_add hn]
  split at h1
  ·cases h1
  ·rename_i hc;rw [if_neg hc,I.nn k t h1];rfl
 ·rw [hs] at h1
  rw [filter_add hn]
  split at h1
  ·rename_i hc
   cases h1
   rw [if_pos hc]
   simp at hc
   rw [hc.1,eqS_of hc.2,← I.ss _ _ _ _ hl]
  ·rename_i hc;rw [if_neg hc,List.append_nil,← I.ss _ _ _ _ h1]
theorem TwI.add {N:List NodeV}{E:List TwE}{met:List Int}{f:Value→Option Value}(I:TwI N E met f){x:Int}{n:NodeV}(hn:gt N x=some n)(hl:lk E n.kind n.text=none)(s:Sl)(g:Nat)(f':Value→Option Value)
  (hf:∀ k t,f' (keyV k t)=if (decide (k=n.kind) && eqS t n.text)=true then some (vsl s) else f (keyV k t)) :
  TwI N (⟨n.kind,n.text,s,g,[x]⟩::E) (met++[x]) f':=by
 refine⟨fun k t=>?_,fun k t h1=>?_,fun k t j e2 h1=>?_⟩
 ·rw [hf,lk]
  split
  ·rfl
  ·rw [I.f,Option.map_map];rfl
 ·rw [lk] at h1
  rw [filter_add hn]
  split at h1
  ·cases h1
  ·rename_i hc
   simp only [Option.map_eq_none_iff] at h1
   rw [if_neg hc,I.nn k t h1];rfl
 ·rw [lk] at h1
  rw [filter_add hn]
  split at h1
  ·rename_i hc
   cases h1
   rw [if_pos hc]
   simp at hc
   rw [hc.1,eqS_of hc.2,I.nn _ _ hl];rfl
  ·rename_i hc
   cases hr:lk E k t with
   | none=>rw [hr] at h1;cases h1
   | some p =>
    rw [hr] at h1
    cases h1
    rw [if_neg hc,List.append_nil,← I.ss k t p.1 p.2 hr]
theorem tw_L2 {s:Sl}{root:Int}{N:List NodeV}(G:GrR h0 s N){B:Nat}(hB:Bd N B){k:Nat}{x:Int}{sl:Sl}{ys:List Int}(hl:ys.length≤B){o1:Own}{b0:Nat}(a1:Option Nat)(a3:Addr)(a4:Sl)(a5 a6:Int)(a7:Sl)(a8 a9:Int)
  (hr:∀ h',Z h0 h' (o1::.blk b0 [vsl s,vi root] T_api_Graph::L)→IL h' sl ys) (hsl:sl.len=ys.length) :
  ∀ (n i:Nat) (r:Bool) (h:AHeap),k+(ys.length - i)<n→i≤ys.length→twC k N x (ys.drop i)=some r→Z h0 h (o1::.blk b0 [vsl s,vi root] T_api_Graph::L) →
   Wp (graph_twice_L2 n (adr b0) a1 x a3 a4 a5 a6 a7 a8 a9 sl (sl.len:Int) (i:Int)) h fun z h'=>z=(if r then .inr true else .inl ())∧Z h0 h' (o1::.blk b0 [vsl s,vi root] T_api_Graph::L):=by
 intro n
 induction n with
 | zero=>intro i r h h1;omega
 | succ n ih =>
  intro i r h h1 h2 hv z
  rw [graph_twice_L2_succ]
  unfold graph_twice_L2_B
  rw [hsl]
  by_cases hi:i<ys.length
  ·rw [if_pos (by simp;omega)]
   obtain⟨y,hy⟩:=getI hi
   rw [drop_cons hy,twC] at hv
   refine (hr h z).ix (by omega) (by simpa using hy) fun a g c=>c.ld0 (l:=li) rfl rfl ?_
   refine z.lds 1 (ls:=[.sl,li]) (x:=(s,root)) ?_
   cases hs:same k N x y with
   | none=>rw [hs] at hv;cases hv
   | some b =>
    rw [hs] at hv
    rw [Wp_bind]
    refine (same_wp z G hB (by omega) hs).mono fun b' h3 hz=>?_
    obtain⟨rfl,z⟩:=hz
    cases b' with
    | true=>cases hv;rw [if_pos rfl,Wp_pure];exact⟨rfl,z⟩
    | false =>
     rw [if_neg (by simp),up1 h2 (by have:=hB.2.1;omega)]
     have:=ih (i+1) r h3 (by omega) (by omega) hv z
     rwa [hsl] at this
  ·rw [if_neg (by simp;omega),Wp_pure]
   have:ys.drop i=[]:=List.drop_eq_nil_of_le (by omega)
   rw [this] at hv
   cases hv;exact⟨rfl,z⟩
theorem filter_le {N:List NodeV}{met:List Int}(k:Int)(t:ByteArray):(met.filter (isKey N k t)).length≤met.length:=List.length_filter_le _ _
theorem tw_L1 {s:Sl}{root:Int}{N:List NodeV}(G:GrR h0 s N){B:Nat}(hB:Bd N B){k:Nat}{sl:Sl}{xs:List Int}(il:IL h0 sl xs)(hl:xs.length≤B){b0 m:Nat}(a2:Sl)(a3 a4:Int) :
  ∀ (n i:Nat) (r:Bool) (h:AHeap) (E:List TwE) (met:List Int) (f:Value→Option Value) (c:Nat),k+B+(xs.length - i)+2<n→i≤xs.length→met.length=i→twK k N met (xs.drop i)=some r→TwI N E met f →
   Z h0 h (.blk b0 [vsl s,vi root] T_api_Graph::.map m T_api_Step f c::(E.map TwE.own++L)) →
   Wp (graph_twice_L1 n (adr b0) (some m) a2 a3 a4 sl (sl.len:Int) (i:Int)) h fun z h'=>z=(if r then .inr true else .inl ())∧Z h0 h' (.blk b0 [vsl s,vi root] T_api_Graph::L):=by
 have hbig:B≤bigN:=by have:=hB.2.1;unfold bigN;omega
 have fin:∀ {h:AHeap} {E:List TwE} {f:Value→Option Value} {c:Nat},Z h0 h (.blk b0 [vsl s,vi root] T_api_Graph::.map m T_api_Step f c::(E.map TwE.own++L))→Z h0 h (.blk b0 [vsl s,vi root] T_api_Graph::L):=fun z =>
  z.sub ((List.Sublist.cons _ (List.sublist_append_right _ _)).cons₂ _)
 intro n
 induction n with
 | zero=>intro i r h E met f c h1;omega
 | succ n ih =>
  intro i r h E met f c h1 h2 hm hv I z
  rw [graph_twice_L1_succ]
  unfold graph_twice_L1_B
  rw [il.len]
  by_cases hi:i<xs.length
  ·rw [if_pos (by simp;omega)]
   obtain⟨x,hx⟩:=getI hi
   rw [drop_cons hx,twK] at hv
   cases hn:gt N x with
   | none=>rw [hn] at hv;cases hv
   | some nx =>
   rw [hn] at hv
   simp only at hv
   obtain⟨x1,x2⟩:=gt_some hn
   refine (il.fr z.fr).ix (by omega) (by simpa using hx) fun a g cl=>cl.ld0 (l:=li) rfl rfl ?_
   refine z.reserve [13] (by decide) (by decide) fun nb h3 z=>?_
   refine z.ld 1 (o:=0) (l:=.sl) ?_
   refine G.at z x1 x2 fun a1 k1 i1 n1 _ _=>n1.ldK ?_
   refine z.ld 1 (o:=0) (l:=.sl) ?_
   refine G.at z x1 x2 fun a2' k2 i2 n2 _ _=>n2.ldT ?_
   refine z.newAt 0 fun h4 z=>z.st 0 fun h5 z=>?_
   refine z.lds 0 (ls:=[li,.str]) (x:=(nx.kind,nx.text)) ?_
   have z:Z h0 h5 (.blk (nb+13) [vi nx.kind,.string nx.text] T_api_Step::.blk b0 [vsl s,vi root] T_api_Graph::.map m T_api_Step f c::(E.map TwE.own++L)):=z
   have hfk:f (keyV nx.kind nx.text)=(lk E nx.kind nx.text).map fun p=>vsl p.2.s:=I.f _ _
   have hst:∀ {E':List TwE} {f':Value→Option Value} {c':Nat} {h':AHeap},Z h0 h' (.blk (nb+13) [vi nx.kind,.string nx.text] T_api_Step::.blk b0 [vsl s,vi root] T_api_Graph::.map m T_api_Step f' c'::(E'.map TwE.own++L))→TwI N E' (met++[x]) f'→twK k N (met++[x]) (xs.drop (i+1))=some r →
     Wp (graph_twice_L1 n (adr b0) (some m) a2 a3 a4 sl (xs.length:Int) (IntKind.i64.wrap ((i:Int)+1))) h' fun z h'=>z=(if r then .inr true else .inl ())∧Z h0 h' (.blk b0 [vsl s,vi root] T_api_Graph::L):=by
    intro E' f' c' h' z I hv
    rw [up1 h2 (by have:=hB.2.1;omega)]
    have:=ih (i+1) r h' E' (met++[x]) f' c' (by omega) (by omega) (by simp [hm]) hv I z.drop
    rwa [il.len] at this
   cases hlk:lk E nx.kind nx.text with
   | none =>
    rw [hlk] at hfk
    have hnil:=I.nn _ _ hlk
    rw [hnil,twC] at hv
    simp only at hv
    refine z.mget 2 (k:=keyV nx.kind nx.text) rfl (fun v hv2=>by rw [hfk] at hv2;cases hv2) fun _=>?_
    have hw:=tw_L2 (L:=.map m T_api_Step f c::(E.map TwE.own++L)) (root:=root) G hB (k:=k) (x:=x) (sl:=sl0) (ys:=[]) (o1:=.blk (nb+13) [vi nx.kind,.string nx.text] T_api_Step) (b0:=b0) (by simp) (some m) (adr (nb+13)) a2 a3 a4 sl (xs.length:Int) (i:Int) (fun h' _=>⟨0,RSl.nil rfl⟩) rfl n 0 false h5 (by simp;omega) (by simp) rfl z
    rw [Wp_bind]
    refine hw.mono fun y h6 hy=>?_
    obtain⟨rfl,z⟩:=hy
    show Wp (M.bind _ _) h6 _
    refine z.lds 0 (ls:=[li,.str]) (x:=(nx.kind,nx.text)) ?_
    refine z.mentry 2 (k:=keyV nx.kind nx.text) rfl (by rw [veq_key];simp [eqS_rfl]) (fun v hv2=>by rw [hfk] at hv2;cases hv2) fun _ h7 st z hs=>?_
    have z:=z.add (Fr.refl z.wf) (o:=.ps ⟨none,0,0⟩ 1 T_i64 [] 0) PSl.nil (.inl rfl)
    refine z.appP 0 (new:=[vi x]) rfl (by decide) rfl (by show 0+1≤bigN;decide) fun s' h8 g' hs' z fr=>?_
    have hs:=hs.fr fr (by simp)
    have z:Z h0 h8 (.ps s' 1 T_i64 [vi x] g'::.blk (nb+13) [vi nx.kind,.string nx.text] T_api_Step::.blk b0 [vsl s,vi root] T_api_Graph::.map m T_api_Step (mupd f (keyV nx.kind nx.text) (pkT (Ty.one .sl) sl0)) (c+1)::(E.map TwE.own++L)):=z
    refine z.mstore 3 rfl hs fun h9 z=>?_
    have z:Z h0 h9 (.ps s' 1 T_i64 [vi x] g'::.blk (nb+13) [vi nx.kind,.string nx.text] T_api_Step::.blk b0 [vsl s,vi root] T_api_Graph::.map m T_api_Step (mupd (mupd f (keyV nx.kind nx.text) (pkT (Ty.one .sl) sl0)) (keyV nx.kind nx.text) (vsl s')) (c+1)::(E.map TwE.own++L)):=z
    have z:=z.perm (L':=.blk (nb+13) [vi nx.kind,.string nx.text] T_api_Step::.blk b0 [vsl s,vi root] T_api_Graph::.map m T_api_Step (mupd (mupd f (keyV nx.kind nx.text) (pkT (Ty.one .sl) sl0)) (keyV nx.kind nx.text) (vsl s')) (c+1)::.ps s' 1 T_i64 [vi x] g'::(E.map TwE.own++L)) (List.perm_middle (l₁:=[_,_,_])).symm
    refine hst (E':=⟨nx.kind,nx.text,s',g',[x]⟩::E) z (I.add hn hlk s' g' _ fun k' t'=>?_) hv
    unfold mupd
    rw [veq_key]
    split <;> rfl
   | some p =>
    obtain⟨j,e⟩:=p
    rw [hlk] at hfk
    obtain⟨e1,e2,e3⟩:=lk_some hlk
    have hxs:=I.ss _ _ _ _ hlk
    have hjlt:=lt_of_get e1
    rw [← hxs] at hv
    have hown:∀ {f':Value→Option Value} {c':Nat},(.blk (nb+13) [vi nx.kind,.string nx.text] T_api_Step::.blk b0 [vsl s,vi root] T_api_Graph::.map m T_api_Step f' c'::(E.map TwE.own++L):List Own)[j+3]?=some (.ps e.s 1 T_i64 (e.xs.map vi) e.g):=by
     intro f' c'
     simp only [List.getElem?_cons_succ]
     rw [List.getElem?_append_left (by simpa using hjlt),List.getElem?_map,e1];rfl
    have hlen:e.s.len=e.xs.length:=(PSl.rsl (z.get (j+3) hown)).len1
    have hle:e.xs.length≤i:=by rw [hxs,← hm];exact filter_le _ _
    refine z.mget 2 (k:=keyV nx.kind nx.text) rfl (fun v hv2=>?_) fun hv2=>by rw [hfk] at hv2;cases hv2
    rw [hfk] at hv2
    cases hv2
    refine⟨e.s,rfl,?_⟩
    cases hc:twC k N x e.xs with
    | none=>rw [hc] at hv;cases hv
    | some b =>
    rw [hc] at hv
    have hw:=tw_L2 (L:=.map m T_api_Step f c::(E.map TwE.own++L)) (root:=root) G hB (k:=k) (x:=x) (sl:=e.s) (ys:=e.xs) (o1:=.blk (nb+13) [vi nx.kind,.string nx.text] T_api_Step) (b0:=b0) (by omega) (some m) (adr (nb+13)) a2 a3 a4 sl (xs.length:Int) (i:Int) (fun h' z=>⟨_,PSl.rsl (z.get (j+3) hown)⟩) hlen n 0 b h5 (by omega) (by omega) hc z
    rw [Wp_bind]
    refine hw.mono fun y h6 hy=>?_
    obtain⟨rfl,z⟩:=hy
    cases b with
    | true =>
     cases hv
     exact Wp_pure.2 ⟨rfl,fin z.drop⟩
    | false =>
     simp only at hv
     show Wp (M.bind _ _) h6 _
     refine z.lds 0 (ls:=[li,.str]) (x:=(nx.kind,nx.text)) ?_
     refine z.mentry 2 (k:=keyV nx.kind nx.text) rfl (by rw [veq_key];simp [eqS_rfl]) (fun v hv2=>?_) fun hv2=>by rw [hfk] at hv2;cases hv2
     rw [hfk] at hv2
     cases hv2
     refine⟨e.s,rfl,fun st hs=>?_⟩
     have hne:e.g≠m+1:=z.ne 2 (j+3) (o:=.map m T_api_Step f c) rfl hown (by omega) (by simp [Own.grp])
     refine z.appP (j+3) (new:=[vi x]) hown (by decide) rfl (by show e.s.len+1≤bigN;omega) fun s' h8 g' hs' z fr=>?_
     have hs:=hs.fr fr (fun e=>hne e.symm)
     refine z.mstore 2 (k:=keyV nx.kind nx.text) (m:=m) (fn:=f) (n:=c) (kt:=T_api_Step) rfl hs fun h9 z=>?_
     refine hst (c':=c) (E':=E.set j ⟨nx.kind,nx.text,s',g',e.xs++[x]⟩) (z.perm ?_) (I.upd hn hlk s' g') hv
     refine List.Perm.of_eq ?_
     show Own.blk (nb+13) _ _::Own.blk b0 _ _::Own.map m _ _ _::((E.map TwE.own++L).set j _)=_
     rw [List.set_append_left _ _ (by simpa using hjlt),List.map_set]
     congr 4
     simp [TwE.own]
  ·rw [if_neg (by simp;omega),Wp_pure]
   have:xs.drop i=[]:=List.drop_eq_nil_of_le (by omega)
   rw [this] at hv
   rw [twK] at hv
   cases hv;exact⟨rfl,fin z⟩
theorem tw_L0 {s:Sl}{root:Int}{N:List NodeV}(G:GrR h0 s N){B:Nat}(hB:Bd N B){k b0:Nat} :
  ∀ (n i:Nat) (r:Bool) (h:AHeap) (L:List Own),k+(N.length - i)+2 * B+7<n→i≤N.length→twN k N (N.drop i)=some r→Z h0 h (.blk b0 [vsl s,vi root] T_api_Graph::L) →
   Wp (graph_twice_L0 n (adr b0) s (s.len:Int) (i:Int)) h fun z h'=>z=(if r then .inr true else .inl ())∧Z h0 h' L:=by
 intro n
 induction n with
 | zero=>intro i r h L h1;omega
 | succ n ih =>
  intro i r h L h1 h2 hv z
  rw [graph_twice_L0_succ]
  unfold graph_twice_L0_B
  rw [G.len]
  by_cases hi:i<N.length
  ·rw [if_pos (by simp;omega)]
   obtain⟨x,hx⟩:=getI hi
   rw [drop_cons hx,twN] at hv
   have hbd:=hB.2.2 x (List.mem_of_getElem? hx)
   refine G.at z (by omega) (by simpa using hx) fun a ks is nd ik ii=>nd.lds ?_
   refine z.node fun x2 h2' z=>?_
   refine z.mnew fun m h3 z=>?_
   refine z.ld 1 (o:=3) (l:=.sl) (x:=ks) ?_
   cases hk:twK k N [] x.keys with
   | none=>rw [hk] at hv;cases hv
   | some b =>
    rw [hk] at hv
    have z:=z.perm (L':=.blk b0 [vsl s,vi root] T_api_Graph::.map m T_api_Step (fun _=>none) 0::([]++(.blk x2 [vi x.kind,.string x.text,.bool x.ord,vsl ks,vsl is] T_api_Node::L))) ((List.perm_middle (l₁:=[_,_])).trans (List.Perm.refl _))
    rw [Wp_bind]
    refine (tw_L1 (k:=k) G hB ik hbd.1 s (N.length:Int) (i:Int) n 0 b h3 [] [] _ 0 (by omega) (by omega) rfl (by simpa using hk) (TwI.nil N) z).mono fun y h4 hy=>?_
    obtain⟨rfl,z⟩:=hy
    have z:=(z.perm (List.Perm.swap _ _ _)).drop
    cases b with
    | true=>cases hv;exact Wp_pure.2 ⟨rfl,z.drop⟩
    | false =>
     simp only at hv
     show Wp (graph_twice_L0 n _ _ _ _) h4 _
     rw [up1 h2 (by have:=hB.1;have:=hB.2.1;omega)]
     have:=ih (i+1) r h4 L (by omega) (by omega) hv z
     rwa [G.len] at this
  ·rw [if_neg (by simp;omega),Wp_pure]
   have:N.drop i=[]:=List.drop_eq_nil_of_le (by omega)
   rw [this] at hv
   cases hv;exact⟨rfl,z.drop⟩
theorem twice_wp {s:Sl}{root:Int}{N:List NodeV}(z:Z h0 h L)(G:GrR h0 s N){B:Nat}(hB:Bd N B){k n:Nat}(hn:k+3 * B+8<n){r:Bool}(hr:twN k N N=some r) :
  Wp (graph_twice n (s,root)) h fun x h'=>x=r∧Z h0 h' L:=by
 unfold graph_twice
 refine z.new fun x0 h1 z _=>?_
 refine z.ld 0 (o:=0) (l:=.sl) ?_
 rw [Wp_bind]
 refine (tw_L0 G hB (k:=k) n 0 r h1 L (by have:=hB.1;omega) (by omega) (by simpa using hr) z).mono fun y h2 hy=>?_
 obtain⟨rfl,z⟩:=hy
 cases r with
 | true=>exact Wp_pure.2 ⟨rfl,z⟩
 | false=>exact Wp_pure.2 ⟨rfl,z⟩
end Go.Sh
set_option linter.all false
namespace Go.Sh
open Go Go.Ago Go.Proofs
variable {α β:Type}{h h' h0:AHeap}{L:List Own}{Q:β→AHeap→Prop}
structure TS where
 next:Int
 ix:List Int
 lo:List Int
 nn:List Int
 on:List Bool
 stk:List Int
 szs:List Int
def mn (a b:Int):Int:=if b<a then b else a
def tPush (a:Int)(st:TS):Option TS :=
 if st.stk.length+1≤bigN∧st.szs.length+1≤bigN∧(gt st.ix a).isSome∧(gt st.lo a).isSome∧(gt st.on a).isSome then
  let nx:=IntKind.i64.wrap (st.next+1)
  some { st with next:=nx,ix:=st.ix.set a.toNat nx,lo:=st.lo.set a.toNat nx,stk:=st.stk++[a],on:=st.on.set a.toNat true }
 else none
def tLow (a v:Int)(st:TS):Option TS:=match gt st.lo a with
 | none=>none
 | some w=>some { st with lo:=st.lo.set a.toNat (mn w v) }
def tp:Nat→Int→TS→Int→Option (TS×Int)
 | 0,_,_,_=>none
 | k+1,a,st,n=>match st.stk.getLast? with
  | none=>none
  | some x =>
   if (gt st.on x).isSome∧(gt st.nn x).isSome∧st.stk.length≤bigN then
    let st1:={ st with stk:=st.stk.dropLast,on:=st.on.set x.toNat false,nn:=st.nn.set x.toNat (st.szs.length:Int) }
    if x=a then some (st1,IntKind.i64.wrap (n+1)) else tp k a st1 (IntKind.i64.wrap (n+1))
   else none
mutual
def tv:Nat→List NodeV→Int→TS→Option TS
 | 0,_,_,_=>none
 | k+1,N,a,st=>match tPush a st with
  | none=>none
  | some st1=>match gt N a with
   | none=>none
   | some x=>match tl k N a x.keys st1 with
    | none=>none
    | some st2=>match tl k N a x.items st2 with
     | none=>none
     | some st3=>match gt st3.lo a,gt st3.ix a with
      | some l,some i =>
       if l≠i then some st3 else match tp k a st3 0 with
        | none=>none
        | some (st4,n)=>if st4.szs.length+1≤bigN then some { st4 with szs:=st4.szs++[n] } else none
      | _,_=>none
def tl:Nat→List NodeV→Int→List Int→TS→Option TS
 | 0,_,_,_,_=>none
 | _+1,_,_,[],st=>some st
 | k+1,N,a,x::xs,st=>match ts k N a x st with
  | none=>none
  | some st1=>tl k N a xs st1
def ts:Nat→List NodeV→Int→Int→TS→Option TS
 | 0,_,_,_,_=>none
 | k+1,N,a,x,st=>match gt st.ix x with
  | none=>none
  | some i =>
   if i=0 then match tv k N x st with
    | none=>none
    | some st1=>match gt st1.lo x with
     | none=>none
     | some l=>tLow a l st1
   else match gt st.on x with
    | none=>none
    | some false=>some st
    | some true=>tLow a i st
end
structure TC where
 c1:Nat
 c2:Nat
 c3:Nat
 c4:Nat
 c5:Nat
 c6:Nat
 c7:Nat
 c8:Nat
 c9:Nat
 bi:Nat
 bl:Nat
 bn:Nat
 bo:Nat
def pv (b:Nat):Value:=Value.pointer (some (adr b))
def fnC (C:TC):Value:=Value.func (Fn.func F_graph_components_1) #[] #[pv C.c1,pv C.c2,pv C.c3,pv C.c4,pv C.c5,pv C.c6,pv C.c7,pv C.c8,pv C.c9]
def fnS (C:TC)(b:Nat):Value:=Value.func (Fn.func F_graph_components_1_1) #[] #[pv C.c2,pv C.c6,pv C.c3,pv b,pv C.c5]
def arr (b m:Nat):Sl:=⟨some ⟨b,0,none⟩,m,m+1⟩
def TL (C : TC) (m : Nat) (s : Sl) (root : Int) (st : TS) (s1 s2 : Sl) (g1 g2 : Nat) : List Own :=
  [.blk C.c1 [vi st.next] T_i64, .blk C.c2 [vsl (arr C.bi m)] T_sl_i64, .blk C.c3 [vsl (arr C.bl m)] T_sl_i64, .blk C.c4 [vsl s1] T_sl_i64, .blk C.c5 [vsl (arr C.bo m)] T_sl_bool, .blk C.c6 [fnC C] T_fn_i64__,
   .blk C.c7 [vsl s, vi root] T_api_Graph, .blk C.c8 [vsl s2] T_sl_i64, .blk C.c9 [vsl (arr C.bn m)] T_sl_i64,
   .blk C.bi (st.ix.map vi) T_i64, .blk C.bl (st.lo.map vi) T_i64, .blk C.bn (st.nn.map vi) T_i64, .blk C.bo (st.on.map .bool) T_bool,
   .ps s1 1 T_i64 (st.stk.map vi) g1, .ps s2 1 T_i64 (st.szs.map vi) g2]
structure TOK (m:Nat) (st:TS):Prop where
 ix:st.ix.length=m
 lo:st.lo.length=m
 nn:st.nn.length=m
 on:st.on.length=m
def TZ (C:TC)(m:Nat)(s:Sl)(root:Int)(h0 h:AHeap)(st:TS)(E:List Own):Prop :=
 TOK m st∧∃ s1 s2 g1 g2,Z h0 h (TL C m s root st s1 s2 g1 g2++E)
theorem _root_.Go.Ago.Z.rdI (z:Z h0 h L)(i:Nat){b m:Nat}{e:TypeId}{c:List Int}{a v:Int}{f:Int→M β}(hg:gt c a=some v)(hm:c.length=m)(q:Wp (f v) h Q)(hi:L[i]?=some (.blk b (c.map vi) e):=by rfl) :
  Wp (M.bind (idxA (arr b m) a 1) fun p=>M.bind (ldL li p) f) h Q:=by
 obtain⟨g1,g2⟩:=gt_some hg
 have hlt:=lt_of_get g2
 refine ixB g1 (by omega) ?_
 exact z.ld i (o:=a.toNat * 1) (l:=li) q hi (by rw [Nat.mul_one,List.getElem?_map,g2];rfl) rfl
theorem _root_.Go.Ago.Z.rdB (z:Z h0 h L)(i:Nat){b m:Nat}{e:TypeId}{c:List Bool}{a:Int}{v:Bool}{f:Bool→M β}(hg:gt c a=some v)(hm:c.length=m)(q:Wp (f v) h Q)(hi:L[i]?=some (.blk b (c.map .bool) e):=by rfl) :
  Wp (M.bind (idxA (arr b m) a 1) fun p=>M.bind (ldL .bool p) f) h Q:=by
 obtain⟨g1,g2⟩:=gt_some hg
 have hlt:=lt_of_get g2
 refine ixB g1 (by omega) ?_
 exact z.ld i (o:=a.toNat * 1) (l:=.bool) q hi (by rw [Nat.mul_one,List.getElem?_map,g2];rfl) rfl
theorem gt_of {c:List α}{a:Int}(hg:(gt c a).isSome=true):0≤a∧a.toNat<c.length∧∃ v,gt c a=some v:=by
 cases h1:gt c a with
 | none=>rw [h1] at hg;cases hg
 | some v=>exact⟨(gt_some h1).1,lt_of_get (gt_some h1).2,v,rfl⟩
theorem ixR {b m:Nat}{a:Int}(h1:0≤a)(h2:a.toNat<m){f:Addr→M β}(q:Wp (f ⟨b,a.toNat,none⟩) h Q):Wp (M.bind (idxA (arr b m) a 1) f) h Q:=by
 refine ixB h1 (by omega) ?_
 rw [Nat.mul_one];exact q
theorem last_cases {l:List α}{x:α}(hl:l.getLast?=some x):l=l.dropLast++[x]:=by
 cases l with
 | nil=>cases hl
 | cons a r =>
  rw [List.getLast?_eq_some_getLast (by simp)] at hl
  rw [← Option.some.inj hl,List.dropLast_concat_getLast]
theorem tp_wp {C : TC} {m : Nat} {s : Sl} {root : Int} {b : Nat} :
    ∀ (k n : Nat) (a : Int) (st r : TS) (v w : Int) (h : AHeap) (E : List Own), k ≤ n → tp k a st v = some (r, w) → TZ C m s root h0 h st (.blk b [vi a] T_i64 :: E) →
      Wp (graph_components_1_L2 n (adr C.c4) (adr C.c5) (adr C.c8) (adr C.c9) (adr b) v) h fun y h' => y = w ∧ TZ C m s root h0 h' r (.blk b [vi a] T_i64 :: E) := by
  intro k
  induction k with
  | zero => intro n a st r v w h E _ hv; cases hv
  | succ k ih =>
    intro n a st r v w h E hn hv tz
    obtain ⟨n, rfl⟩ : ∃ m, n = m + 1 := ⟨n - 1, by omega⟩
    rw [graph_components_1_L2_succ]
    unfold graph_components_1_L2_B
    rw [tp] at hv
    cases hx : st.stk.getLast? with
    | none => rw [hx] at hv; cases hv
    | some x =>
      rw [hx] at hv
      simp only at hv
      split at hv
      case isFalse => cases hv
      rename_i hc
      obtain ⟨x1, x2, _⟩ := gt_of hc.1
      obtain ⟨_, x3, _⟩ := gt_of hc.2.1
      obtain ⟨ok, s1, s2, g1, g2, z⟩ := tz
      have hst := last_cases hx
      have hps : PSl h s1 1 T_i64 (st.stk.map vi) g1 := z.get 13 rfl
      have hlen : s1.len = st.stk.length := hps.rsl.len1
      have hl2 := congrArg List.length hst
      simp at hl2
      have hpos : st.stk.length ≠ 0 := fun e => by rw [List.eq_nil_of_length_eq_zero e] at hx; cases hx
      have hbnd : s1.len < 9223372036854775808 := by
        have := hc.2.2; unfold bigN at this; omega
      have e1 : IntKind.i64.wrap ((s1.len : Int) - 1) = ((s1.len : Nat) : Int) - 1 := IntWalk.i64_in _ ⟨by omega, by omega⟩
      refine z.ld 3 (o := 0) (l := .sl) ?_
      refine z.ld 3 (o := 0) (l := .sl) ?_
      rw [e1]
      refine hps.rsl.ix1 (enc := vi) (v := x) (by omega) ?_ fun ad cl => cl.ld0 (l := li) rfl rfl ?_
      · rw [List.getLast?_eq_getElem?] at hx
        rw [← hx]; congr 1; omega
      refine z.ld 3 (o := 0) (l := .sl) ?_
      refine z.ld 3 (o := 0) (l := .sl) ?_
      rw [e1]
      refine z.cutP 13 (cs := st.stk.dropLast.map vi) (v := vi x) (g := g1) (by show some (Own.ps s1 1 T_i64 (st.stk.map vi) g1) = _; conv => lhs; rw [hst]
                                                                                rw [List.map_append]; rfl) fun s1' hs1 z => ?_
      refine z.st 3 fun h1 z => ?_
      refine z.ld 4 (o := 0) (l := .sl) ?_
      refine ixR x1 (by rw [← ok.on]; exact x2) ?_
      refine z.stA 12 (enc := Value.bool) (v := false) x2 fun h2 z => ?_
      refine z.ld 8 (o := 0) (l := .sl) ?_
      refine z.ld 7 (o := 0) (l := .sl) ?_
      refine ixR x1 (by rw [← ok.nn]; exact x3) ?_
      have hsz : s2.len = st.szs.length := (PSl.rsl (z.get 14 rfl)).len1
      rw [hsz]
      refine z.stA 11 (enc := vi) (v := (st.szs.length : Int)) x3 fun h3 z => ?_
      refine z.ld 15 (o := 0) (l := li) (x := a) ?_
      have tz : TZ C m s root h0 h3 { st with stk := st.stk.dropLast, on := st.on.set x.toNat false, nn := st.nn.set x.toNat (st.szs.length : Int) } (.blk b [vi a] T_i64 :: E) :=
        ⟨⟨ok.ix, ok.lo, by simp [ok.nn], by simp [ok.on]⟩, s1', s2, g1, g2, z⟩
      by_cases hxa : x = a
      · rw [if_pos hxa] at hv; cases hv
        rw [if_pos (by simpa using hxa), Wp_pure]
        exact ⟨rfl, tz⟩
      · rw [if_neg hxa] at hv
        rw [if_neg (by simpa using hxa)]
        exact ih n a _ r _ w h3 E (by omega) hv tz
theorem tv_wp {C:TC}{m:Nat}{s:Sl}{root:Int}{N:List NodeV}(G:GrR h0 s N){B:Nat}(hB:Bd N B) :
  ∀ (k:Nat),(∀ (n:Nat) (a:Int) (st r:TS) (h:AHeap) (E:List Own),k≤n→tv k N a st=some r→TZ C m s root h0 h st E →
    Wp (graph_components_1 n a (adr C.c1) (adr C.c2) (adr C.c3) (adr C.c4) (adr C.c5) (adr C.c6) (adr C.c7) (adr C.c8) (adr C.c9)) h fun _ h'=>TZ C m s root h0 h' r E) ∧
   (∀ (n:Nat) (a:Int) (b:Nat) (sl:Sl) (xs:List Int) (i:Nat) (st r:TS) (h:AHeap) (E:List Own),k≤n→tl k N a (xs.drop i) st=some r→IL h0 sl xs→i≤xs.length→xs.length≤B→TZ C m s root h0 h st (.blk b [vi a] T_i64::E) →
    Wp (graph_components_1_L0 n (adr C.c2) (adr C.c3) (adr C.c4) (adr C.c5) (adr C.c7) (adr C.c8) (adr C.c9) (adr b) (fnS C b) sl (sl.len:Int) (i:Int)) h fun _ h'=>TZ C m s root h0 h' r (.blk b [vi a] T_i64::E)) ∧
   (∀ (n:Nat) (a:Int) (b:Nat) (sl:Sl) (xs:List Int) (i:Nat) (st r:TS) (h:AHeap) (E:List Own),k≤n→tl k N a (xs.drop i) st=some r→IL h0 sl xs→i≤xs.length→xs.length≤B→TZ C m s root h0 h st (.blk b [vi a] T_i64::E) →
    Wp (graph_components_1_L1 n (adr C.c2) (adr C.c3) (adr C.c4) (adr C.c5) (adr C.c8) (adr C.c9) (adr b) (fnS C b) sl (sl.len:Int) (i:Int)) h fun _ h'=>TZ C m s root h0 h' r (.blk b [vi a] T_i64::E)) ∧
   (∀ (n:Nat) (a x:Int) (b:Nat) (st r:TS) (h:AHeap) (E:List Own),k≤n→ts k N a x st=some r→TZ C m s root h0 h st (.blk b [vi a] T_i64::E) →
    Wp (graph_components_1_1 n x (adr C.c2) (adr C.c6) (adr C.c3) (adr b) (adr C.c5)) h fun _ h'=>TZ C m s root h0 h' r (.blk b [vi a] T_i64::E)):=by
 intro k
 induction k with
 | zero=>exact⟨fun n a st r h E _ hv=>by simp [tv] at hv,fun n a b sl xs i st r h E _ hv=>by simp [tl] at hv,fun n a b sl xs i st r h E _ hv=>by simp [tl] at hv,fun n a x b st r h E _ hv=>by simp [ts] at hv⟩
 | succ k ih =>
  obtain⟨ih1,ih2,ih3,ih4⟩:=ih
  refine⟨fun n a st r h E hn hv tz=>?_,fun n a b sl xs i st r h E hn hv il hi hxB tz=>?_,fun n a b sl xs i st r h E hn hv il hi hxB tz=>?_,fun n a x b st r h E hn hv tz=>?_⟩
  ·obtain⟨n,rfl⟩:∃ m,n=m+1:=⟨n - 1,by omega⟩
   rw [graph_components_1_succ]
   unfold graph_components_1_B
   rw [tv] at hv
   cases hp:tPush a st with
   | none=>rw [hp] at hv;cases hv
   | some st1 =>
   rw [hp] at hv
   simp only at hv
   unfold tPush at hp
   split at hp
   case isFalse=>cases hp
   rename_i hc
   obtain⟨c1,c2,c3,c4,c5⟩:=hc
   obtain⟨a1,a2,_⟩:=gt_of c3
   obtain⟨_,a3,_⟩:=gt_of c4
   obtain⟨_,a4,_⟩:=gt_of c5
   have hp:=Option.some.inj hp
   obtain⟨ok,s1,s2,g1,g2,z⟩:=tz
   refine z.new fun b h1 z _=>?_
   have z:=z.perm (L':=TL C m s root st s1 s2 g1 g2++(.blk b [vi a] T_i64::E)) List.perm_middle.symm
   refine z.ld 0 (o:=0) (l:=li) (x:=st.next) ?_
   refine z.st 0 fun h2 z=>?_
   refine z.ld 1 (o:=0) (l:=.sl) ?_
   refine z.ld 15 (o:=0) (l:=li) (x:=a) ?_
   refine z.ld 2 (o:=0) (l:=.sl) ?_
   refine z.ld 15 (o:=0) (l:=li) (x:=a) ?_
   refine z.ld 0 (o:=0) (l:=li) (x:=IntKind.i64.wrap (st.next+1)) ?_
   refine ixR a1 (by rw [← ok.ix];exact a2) ?_
   refine z.ld 0 (o:=0) (l:=li) (x:=IntKind.i64.wrap (st.next+1)) ?_
   refine z.stAC 9 (enc:=vi) (v:=IntKind.i64.wrap (st.next+1)) a2 ?_ fun h3 z=>?_
   ·intro a' ha'
    simp only [List.mem_cons,Option.some.injEq,List.not_mem_nil,or_false] at ha'
    rcases ha' with rfl | rfl | rfl
    ·exact z.nbO 9 2 rfl rfl (by decide)
    ·exact z.nbO 9 15 rfl rfl (by decide)
    ·exact z.nbO 9 0 rfl rfl (by decide)
   refine ixR a1 (by rw [← ok.lo];exact a3) ?_
   refine z.stA 10 (enc:=vi) (v:=IntKind.i64.wrap (st.next+1)) a3 fun h4 z=>?_
   refine z.ld 3 (o:=0) (l:=.sl) ?_
   refine z.ld 15 (o:=0) (l:=li) (x:=a) ?_
   have hps:PSl h4 s1 1 T_i64 (st.stk.map vi) g1:=z.get 13 rfl
   have hlen:s1.len=st.stk.length:=hps.rsl.len1
   refine z.appP 13 (new:=[vi a]) rfl (by decide) rfl (by show s1.len+1≤bigN;omega) fun s1' h5 g1' hs1 z _=>?_
   refine z.st 3 fun h6 z=>?_
   refine z.ld 4 (o:=0) (l:=.sl) ?_
   refine z.ld 15 (o:=0) (l:=li) (x:=a) ?_
   refine ixR a1 (by rw [← ok.on];exact a4) ?_
   refine z.stA 12 (enc:=Value.bool) (v:=true) a4 fun h7 z=>?_
   have tz:TZ C m s root h0 h7 st1 (.blk b [vi a] T_i64::E):=by
    subst hp
    refine⟨⟨by simp [ok.ix],by simp [ok.lo],ok.nn,by simp [ok.on]⟩,s1',s2,g1',g2,?_⟩
    have:(st.stk++[a]).map vi=st.stk.map vi++[vi a]:=by simp
    unfold TL
    simp only
    rw [this]
    exact z
   clear z hps hlen
   obtain⟨ok,s1,s2,g1,g2,z⟩:=tz
   cases hx:gt N a with
   | none=>rw [hx] at hv;cases hv
   | some x =>
   rw [hx] at hv
   simp only at hv
   obtain⟨x1,x2⟩:=gt_some hx
   have hb:=hB.2.2 x (List.mem_of_getElem? x2)
   cases hk:tl k N a x.keys st1 with
   | none=>rw [hk] at hv;cases hv
   | some st2 =>
   rw [hk] at hv
   simp only at hv
   cases hi:tl k N a x.items st2 with
   | none=>rw [hi] at hv;cases hv
   | some st3 =>
   rw [hi] at hv
   simp only at hv
   refine z.ld 6 (o:=0) (l:=.sl) ?_
   refine z.ld 15 (o:=0) (l:=li) (x:=a) ?_
   refine G.at z x1 x2 fun ad ks is nd ik ii=>nd.ldks ?_
   rw [Wp_bind]
   refine (ih2 n a b ks x.keys 0 st1 st2 _ E (by omega) hk ik (by omega) hb.1 ⟨ok,s1,s2,g1,g2,z⟩).mono fun _ h8 tz=>?_
   obtain⟨ok,s1,s2,g1,g2,z⟩:=tz
   refine z.ld 6 (o:=0) (l:=.sl) ?_
   refine z.ld 15 (o:=0) (l:=li) (x:=a) ?_
   refine G.at z x1 x2 fun ad2 ks2 is2 nd2 ik2 ii2=>nd2.ldis ?_
   rw [Wp_bind]
   refine (ih3 n a b is2 x.items 0 st2 st3 _ E (by omega) hi ii2 (by omega) hb.2 ⟨ok,s1,s2,g1,g2,z⟩).mono fun _ h9 tz=>?_
   obtain⟨ok,s1,s2,g1,g2,z⟩:=tz
   cases hl:gt st3.lo a with
   | none=>rw [hl] at hv;cases hv
   | some l =>
   cases hj:gt st3.ix a with
   | none=>rw [hl,hj] at hv;cases hv
   | some j =>
   rw [hl,hj] at hv
   simp only at hv
   refine z.ld 2 (o:=0) (l:=.sl) ?_
   refine z.ld 15 (o:=0) (l:=li) (x:=a) ?_
   refine z.rdI 10 hl ok.lo ?_
   refine z.ld 1 (o:=0) (l:=.sl) ?_
   refine z.ld 15 (o:=0) (l:=li) (x:=a) ?_
   refine z.rdI 9 hj ok.ix ?_
   have fin:∀ {h':AHeap} {r:TS},TZ C m s root h0 h' r (.blk b [vi a] T_i64::E)→TZ C m s root h0 h' r E:=fun tz=>by
    obtain⟨ok,s1,s2,g1,g2,z⟩:=tz
    exact⟨ok,s1,s2,g1,g2,(z.perm List.perm_middle).drop⟩
   by_cases hlj:l=j
   ·rw [if_neg (by simpa using hlj)] at hv
    rw [if_neg (by simpa using hlj)]
    cases ht:tp k a st3 0 with
    | none=>rw [ht] at hv;cases hv
    | some q =>
    obtain⟨st4,w⟩:=q
    rw [ht] at hv
    simp only at hv
    split at hv
    case isFalse=>cases hv
    rename_i hcs
    cases hv
    rw [Wp_bind]
    refine (tp_wp k n a st3 st4 0 w h9 E (by omega) ht ⟨ok,s1,s2,g1,g2,z⟩).mono fun y h10 hy=>?_
    obtain⟨rfl,ok,s1,s2,g1,g2,z⟩:=hy
    refine z.ld 7 (o:=0) (l:=.sl) ?_
    have hsz:s2.len=st4.szs.length:=(PSl.rsl (z.get 14 rfl)).len1
    refine z.appP 14 (new:=[vi y]) rfl (by decide) rfl (by show s2.len+1≤bigN;omega) fun s2' h11 g2' hs2 z _=>?_
    refine z.st 7 fun h12 z=>?_
    rw [Wp_pure]
    refine fin ⟨⟨ok.ix,ok.lo,ok.nn,ok.on⟩,s1,s2',g1,g2',?_⟩
    have:(st4.szs++[y]).map vi=st4.szs.map vi++[vi y]:=by simp
    unfold TL
    simp only
    rw [this]
    exact z
   ·rw [if_pos (by simpa using hlj)] at hv
    cases hv
    rw [if_pos (by simpa using hlj),Wp_pure]
    exact fin ⟨ok,s1,s2,g1,g2,z⟩
  ·obtain⟨n,rfl⟩:∃ m,n=m+1:=⟨n - 1,by omega⟩
   rw [graph_components_1_L0_succ]
   unfold graph_components_1_L0_B
   rw [il.len]
   by_cases hi2:i<xs.length
   ·rw [if_pos (by simp;omega)]
    obtain⟨x,hx⟩:=getI hi2
    rw [drop_cons hx,tl] at hv
    cases hs:ts k N a x st with
    | none=>rw [hs] at hv;cases hv
    | some st1 =>
     rw [hs] at hv
     simp only at hv
     have fr:Fr (fun _=>False) h0 h:=by obtain⟨_,_,_,_,_,z⟩:=tz;exact z.fr
     refine (il.fr fr).ix (by omega) (by simpa using hx) fun a1 g c=>c.ld0 (l:=li) rfl rfl ?_
     unfold graph_components_1_D47_B
     rw [Wp_bind,if_pos (by rfl),Wp_bind]
     refine Wp_asFn (c:=(adr C.c2,adr C.c6,adr C.c3,adr b,adr C.c5)) rfl ?_
     refine (ih4 n a x b st st1 h E (by omega) hs tz).mono fun _ h2 tz=>?_
     rw [up1 hi (by have:=hB.2.1;omega)]
     have:=ih2 n a b sl xs (i+1) st1 r h2 E (by omega) hv il (by omega) hxB tz
     rwa [il.len] at this
   ·rw [if_neg (by simp;omega),Wp_pure]
    have:xs.drop i=[]:=List.drop_eq_nil_of_le (by omega)
    rw [this,tl] at hv
    cases hv;exact tz
  ·obtain⟨n,rfl⟩:∃ m,n=m+1:=⟨n - 1,by omega⟩
   rw [graph_components_1_L1_succ]
   unfold graph_components_1_L1_B
   rw [il.len]
   by_cases hi2:i<xs.length
   ·rw [if_pos (by simp;omega)]
    obtain⟨x,hx⟩:=getI hi2
    rw [drop_cons hx,tl] at hv
    cases hs:ts k N a x st with
    | none=>rw [hs] at hv;cases hv
    | some st1 =>
     rw [hs] at hv
     simp only at hv
     have fr:Fr (fun _=>False) h0 h:=by obtain⟨_,_,_,_,_,z⟩:=tz;exact z.fr
     refine (il.fr fr).ix (by omega) (by simpa using hx) fun a1 g c=>c.ld0 (l:=li) rfl rfl ?_
     unfold graph_components_1_D62_B
     rw [Wp_bind,if_pos (by rfl),Wp_bind]
     refine Wp_asFn (c:=(adr C.c2,adr C.c6,adr C.c3,adr b,adr C.c5)) rfl ?_
     refine (ih4 n a x b st st1 h E (by omega) hs tz).mono fun _ h2 tz=>?_
     rw [up1 hi (by have:=hB.2.1;omega)]
     have:=ih3 n a b sl xs (i+1) st1 r h2 E (by omega) hv il (by omega) hxB tz
     rwa [il.len] at this
   ·rw [if_neg (by simp;omega),Wp_pure]
    have:xs.drop i=[]:=List.drop_eq_nil_of_le (by omega)
    rw [this,tl] at hv
    cases hv;exact tz
  ·obtain⟨n,rfl⟩:∃ m,n=m+1:=⟨n - 1,by omega⟩
   rw [graph_components_1_1_succ]
   unfold graph_components_1_1_B
   rw [ts] at hv
   cases hx:gt st.ix x with
   | none=>rw [hx] at hv;cases hv
   | some i =>
   rw [hx] at hv
   simp only at hv
   obtain⟨ok,s1,s2,g1,g2,z⟩:=tz
   refine z.ld 1 (o:=0) (l:=.sl) ?_
   refine z.rdI 9 hx ok.ix ?_
   by_cases hi0:i=0
   ·rw [if_pos hi0] at hv
    rw [if_pos (by simpa using hi0)]
    cases hv1:tv k N x st with
    | none=>rw [hv1] at hv;cases hv
    | some st1 =>
    rw [hv1] at hv
    simp only at hv
    refine z.ld 5 (o:=0) (l:=.raw) (x:=fnC C) ?_
    unfold graph_components_1_1_D12_B
    rw [Wp_bind,if_pos (by rfl),Wp_bind]
    refine Wp_asFn (c:=(adr C.c1,adr C.c2,adr C.c3,adr C.c4,adr C.c5,adr C.c6,adr C.c7,adr C.c8,adr C.c9)) rfl ?_
    refine (ih1 n x st st1 h _ (by omega) hv1 ⟨ok,s1,s2,g1,g2,z⟩).mono fun _ h2 tz=>?_
    obtain⟨ok,s1,s2,g1,g2,z⟩:=tz
    cases hl:gt st1.lo x with
    | none=>rw [hl] at hv;cases hv
    | some l =>
    rw [hl] at hv
    simp only at hv
    unfold tLow at hv
    cases hw:gt st1.lo a with
    | none=>rw [hw] at hv;cases hv
    | some w =>
    rw [hw] at hv
    have hv:=Option.some.inj hv
    refine z.ld 2 (o:=0) (l:=.sl) ?_
    refine z.ld 15 (o:=0) (l:=li) (x:=a) ?_
    refine z.ld 2 (o:=0) (l:=.sl) ?_
    refine z.ld 15 (o:=0) (l:=li) (x:=a) ?_
    refine z.rdI 10 hw ok.lo ?_
    refine z.ld 2 (o:=0) (l:=.sl) ?_
    refine z.rdI 10 hl ok.lo ?_
    obtain⟨w1,w2⟩:=gt_some hw
    refine ixR w1 (by rw [← ok.lo];exact lt_of_get w2) ?_
    refine z.stA 10 (enc:=vi) (v:=mn w l) (lt_of_get w2) fun h3 z=>?_
    rw [Wp_pure,← hv]
    exact⟨⟨ok.ix,by simp [ok.lo],ok.nn,ok.on⟩,s1,s2,g1,g2,z⟩
   ·rw [if_neg hi0] at hv
    rw [if_neg (by simpa using hi0)]
    cases ho:gt st.on x with
    | none=>rw [ho] at hv;cases hv
    | some o =>
    rw [ho] at hv
    refine z.ld 4 (o:=0) (l:=.sl) ?_
    refine z.rdB 12 ho ok.on ?_
    cases o with
    | false =>
     cases hv
     rw [if_neg (by simp),Wp_pure]
     exact⟨ok,s1,s2,g1,g2,z⟩
    | true =>
     simp only at hv
     rw [if_pos rfl]
     unfold tLow at hv
     cases hw:gt st.lo a with
     | none=>rw [hw] at hv;cases hv
     | some w =>
     rw [hw] at hv
     have hv:=Option.some.inj hv
     refine z.ld 2 (o:=0) (l:=.sl) ?_
     refine z.ld 15 (o:=0) (l:=li) (x:=a) ?_
     refine z.ld 2 (o:=0) (l:=.sl) ?_
     refine z.ld 15 (o:=0) (l:=li) (x:=a) ?_
     refine z.rdI 10 hw ok.lo ?_
     refine z.ld 1 (o:=0) (l:=.sl) ?_
     refine z.rdI 9 hx ok.ix ?_
     obtain⟨w1,w2⟩:=gt_some hw
     refine ixR w1 (by rw [← ok.lo];exact lt_of_get w2) ?_
     refine z.stA 10 (enc:=vi) (v:=mn w i) (lt_of_get w2) fun h3 z=>?_
     rw [Wp_pure,← hv]
     exact⟨⟨ok.ix,by simp [ok.lo],ok.nn,ok.on⟩,s1,s2,g1,g2,z⟩
end Go.Sh
set_option linter.all false
namespace Go.Sh
open Go Go.Ago Go.Proofs
variable {α β:Type}{h h' h0:AHeap}{L:List Own}{Q:β→AHeap→Prop}
def tInit (m:Nat):TS:=⟨0,List.replicate m 0,List.replicate m 0,List.replicate m (-1),List.replicate m false,[],[]⟩
def comp (k:Nat)(N:List NodeV)(root:Int):Option (List Int×List Int):=(tv k N root (tInit N.length)).map fun st=>(st.nn,st.szs)
theorem rep_step {m i:Nat}(hi:i<m):(List.replicate i (-1:Int)++List.replicate (m - i) 0).set i (-1)=List.replicate (i+1) (-1)++List.replicate (m - (i+1)) 0:=by
 have e:m - i=(m - (i+1))+1:=by omega
 rw [List.set_append_right _ _ (by simp),e,List.replicate_succ,List.length_replicate,Nat.sub_self,List.set_cons_zero,List.replicate_succ' (n:=i),List.append_assoc]
 rfl
theorem comp_L0 {bn c9 m:Nat}(hm:m<1073741824){o1 o2 o3 o4:Own}(a0:Addr)(a1:Int)(a2 a3:Addr) :
  ∀ (n i:Nat) (h:AHeap),m - i<n→i≤m→Z h0 h (o1::o2::.blk bn ((List.replicate i (-1)++List.replicate (m - i) 0).map vi) T_i64::o3::o4::.blk c9 [vsl (arr bn m)] T_sl_i64::L) →
   Wp (graph_components_L0 n a0 a1 a2 a3 (adr c9) (m:Int) (i:Int)) h fun _ h'=>Z h0 h' (o1::o2::.blk bn ((List.replicate m (-1)).map vi) T_i64::o3::o4::.blk c9 [vsl (arr bn m)] T_sl_i64::L):=by
 intro n
 induction n with
 | zero=>intro i h h1;omega
 | succ n ih =>
  intro i h h1 h2 z
  rw [graph_components_L0_succ]
  unfold graph_components_L0_B
  by_cases hi:i<m
  ·rw [if_pos (by simp;omega)]
   refine z.ld 5 (o:=0) (l:=.sl) (x:=arr bn m) ?_
   refine ixR (b:=bn) (m:=m) (by omega) (by omega) ?_
   rw [Int.toNat_natCast]
   refine z.stA 2 (enc:=vi) (xs:=List.replicate i (-1)++List.replicate (m - i) 0) (v:=-1) (by rw [List.length_append,List.length_replicate,List.length_replicate];omega) fun h3 z=>?_
   rw [up1 h2 (by omega)]
   rw [rep_step hi] at z
   exact ih (i+1) h3 (by omega) (by omega) z
  ·rw [if_neg (by simp;omega),Wp_pure]
   have:i=m:=by omega
   subst this
   simpa using z
theorem components_wp {s:Sl}{root:Int}{N:List NodeV}(z:Z h0 h L)(G:GrR h0 s N){B:Nat}(hB:Bd N B){k n:Nat}(hk:k≤n)(hn:B+2<n){nn szs:List Int}(hv:comp k N root=some (nn,szs)) :
  Wp (graph_components n (s,root)) h fun x h'=>nn.length=N.length∧∃ bn s2 g2,x=(arr bn N.length,s2)∧Z h0 h' (.blk bn (nn.map vi) T_i64::.ps s2 1 T_i64 (szs.map vi) g2::L):=by
 unfold graph_components
 unfold comp at hv
 cases ht:tv k N root (tInit N.length) with
 | none=>rw [ht] at hv;cases hv
 | some st =>
 rw [ht] at hv
 have hv:=Option.some.inj hv
 have e1:st.nn=nn:=congrArg Prod.fst hv
 have e2:st.szs=szs:=congrArg Prod.snd hv
 subst e1 e2
 have hb1:(N.length:Int)≤bigN:=by have:=hB.1;have:=hB.2.1;unfold bigN;omega
 refine z.new fun x0 h1 z _=>?_
 refine z.ld 0 (o:=0) (l:=.sl) ?_
 rw [G.len]
 refine z.reserve [1,3,5,6,7,8] (by decide) (by decide) fun nb h2 z=>?_
 refine z.mkAt 0 (by omega) hb1 fun h3 z=>?_
 refine z.mkAt 1 (by omega) hb1 fun h4 z=>?_
 refine z.mkAt 2 (by omega) hb1 fun h5 z=>?_
 rw [Int.toNat_natCast] at z ⊢
 rw [rep_map (enc:=vi)] at z
 refine z.newAt 3 fun h6 z=>z.newAt 4 fun h7 z=>z.newAt 5 fun h8 z=>?_
 refine z.chkK 3 (by intro k hk;simp at hk;omega) ?_
 refine z.stC 3 (by intro a ha;simp at ha) fun h9 z=>?_
 refine z.chkK 4 (by intro k hk;simp at hk;omega) ?_
 refine z.stC 4 (by intro a ha;simp at ha) fun h10 z=>?_
 refine z.st 5 fun h11 z=>?_
 refine z.ld 5 (o:=0) (l:=.sl) ?_
 rw [Wp_bind]
 refine (comp_L0 (m:=N.length) (by have:=hB.1;have:=hB.2.1;omega) (adr x0) (N.length:Int) (adr (nb+6)) (adr (nb+7)) n 0 h11 (by have:=hB.1;omega) (by omega) z).mono fun _ h12 z=>?_
 refine z.new fun b14 h13 z _=>?_
 refine z.new fun b15 h14 z _=>?_
 refine z.mkA (by omega) hb1 fun bo h15 z _=>?_
 rw [Int.toNat_natCast] at z ⊢
 rw [rep_map (enc:=Value.bool)] at z
 refine z.new fun b17 h16 z _=>z.st 0 fun h17 z=>?_
 refine z.new fun b19 h18 z _=>z.st 0 fun h19 z=>?_
 refine z.new fun b21 h20 z _=>z.st 0 fun h21 z=>?_
 refine z.ld 0 (o:=0) (l:=.raw) ?_
 refine z.ld 12 (o:=1) (l:=li) (x:=root) ?_
 have z:=z.add (Fr.refl z.wf) (o:=.ps ⟨none,0,0⟩ 1 T_i64 [] 0) PSl.nil (.inl rfl)
 have z:=z.add (Fr.refl z.wf) (o:=.ps ⟨none,0,0⟩ 1 T_i64 [] 0) PSl.nil (.inl rfl)
 have z:=Z.permBy (pre:=[_,_,_,_,_,_,_,_,_,_,_,_,_,_,_]) z [3,11,12,6,4,2,14,7,13,8,9,10,5,0,1] (by simp only [List.length_cons,List.length_nil];decide)
 have tz:TZ ⟨b19,nb+6,nb+7,b15,b17,b21,x0,b14,nb+8,nb+1,nb+3,nb+5,bo⟩ N.length s root h0 h21 (tInit N.length) L :=
  ⟨⟨by simp [tInit],by simp [tInit],by simp [tInit],by simp [tInit]⟩,⟨none,0,0⟩,⟨none,0,0⟩,0,0,z⟩
 unfold graph_components_D35
 rw [Wp_bind,if_pos (by rfl),Wp_bind]
 refine Wp_asFn (c:=(adr b19,adr (nb+6),adr (nb+7),adr b15,adr b17,adr b21,adr x0,adr b14,adr (nb+8))) rfl ?_
 refine ((tv_wp G hB k).1 n root _ st h21 L hk ht tz).mono fun _ h22 tz=>?_
 obtain⟨ok,s1,s2,g1,g2,z⟩:=tz
 refine z.ld 8 (o:=0) (l:=.sl) ?_
 refine z.ld 7 (o:=0) (l:=.sl) ?_
 rw [Wp_pure]
 exact⟨ok.nn,nb+5,s2,g2,rfl,z.sub ((List.Sublist.cons _ <| List.Sublist.cons _ <| List.Sublist.cons _ <| List.Sublist.cons _ <| List.Sublist.cons _ <| List.Sublist.cons _ <| List.Sublist.cons _ <| List.Sublist.cons _ <| List.Sublist.cons _ <| List.Sublist.cons _ <| List.Sublist.cons _ <| List.Sublist.cons₂ _ <| List.Sublist.cons _ <| List.Sublist.cons _ <| List.Sublist.cons₂ _ (List.Sublist.refl L)))⟩
end Go.Sh
set_option linter.all false
namespace Go.Sh
open Go Go.Ago Go.Proofs
variable {α β:Type}{h h' h0:AHeap}{L:List Own}{Q:β→AHeap→Prop}
def mx (p q:Int):Int:=if p<q then q else p
def mem:Nat→List Int→List (List Int)→Option (List (List Int))
 | _,[],X=>some X
 | i,c::cs,X=>match gt X c with
  | none=>none
  | some xs=>mem (i+1) cs (X.set c.toNat (xs++[(i:Int)]))
def dR (nn:List Int)(c:Int):List Int→List Int→Bool→Option (List Int×Bool)
 | [],b,a=>some (b,a)
 | x::xs,b,a=>match gt nn x with
  | none=>none
  | some d=>if d=c then dR nn c xs b false else match gt b c,gt b d with
   | some p,some q=>dR nn c xs (b.set c.toNat (mx p q)) a
   | _,_=>none
def dM (N:List NodeV)(nn:List Int)(c:Int):List Int→List Int→Bool→Option (List Int×Bool)
 | [],b,a=>some (b,a)
 | i::is,b,a=>match gt N i with
  | none=>none
  | some x=>match dR nn c x.keys b a with
   | none=>none
   | some (b1,a1)=>match dR nn c x.items b1 a1 with
    | none=>none
    | some (b2,a2)=>dM N nn c is b2 a2
def dC (N:List NodeV)(nn:List Int):Nat→List (List Int×Int)→List Int→Bool→Option (List Int×Bool)
 | _,[],b,a=>some (b,a)
 | c,(xs,sz)::r,b,a=>match dM N nn (c:Int) xs b a with
  | none=>none
  | some (b1,a1)=>match gt b1 (c:Int) with
   | none=>none
   | some p=>dC N nn (c+1) r (b1.set c (IntKind.i64.wrap (p+sz))) a1
def dep (k:Nat)(N:List NodeV)(root:Int):Option (Int×Bool):=match comp k N root with
 | none=>none
 | some (nn,szs)=>if szs.length≤N.length then match mem 0 nn (List.replicate szs.length []) with
  | none=>none
  | some X=>match dC N nn 0 (X.zip szs) (List.replicate szs.length 0) true with
   | none=>none
   | some (b,a)=>match gt nn root with
    | none=>none
    | some c=>match gt b c with
     | none=>none
     | some v=>some (IntKind.i64.wrap (v - 1),a)
  else none
theorem mem_len:∀ {cs:List Int} {i:Nat} {X Y:List (List Int)},mem i cs X=some Y→Y.length=X.length
 | [],i,X,Y,he=>by cases he;rfl
 | c::cs,i,X,Y,he=>by
  rw [mem] at he
  cases hg:gt X c with
  | none=>rw [hg] at he;cases he
  | some xs=>rw [hg] at he;rw [mem_len he,List.length_set]
theorem mem_le:∀ {cs:List Int} {i:Nat} {X Y:List (List Int)},mem i cs X=some Y→(∀ xs ∈ X,xs.length≤i)→∀ xs ∈ Y,xs.length≤i+cs.length
 | [],i,X,Y,he,hX=>by cases he;simpa using hX
 | c::cs,i,X,Y,he,hX=>by
  rw [mem] at he
  cases hg:gt X c with
  | none=>rw [hg] at he;cases he
  | some xs =>
   rw [hg] at he
   intro ys hy
   have:=mem_le he (fun zs hz=>?_) ys hy
   ·simp;omega
   ·rcases List.mem_or_eq_of_mem_set hz with hz | rfl
    ·have:=hX zs hz;omega
    ·have:=hX xs (List.mem_of_getElem? (gt_some hg).2);simp;omega
theorem dR_len {nn:List Int}{c:Int}:∀ {xs b:List Int} {a:Bool} {b':List Int} {a':Bool},dR nn c xs b a=some (b',a')→b'.length=b.length
 | [],b,a,b',a',he=>by cases he;rfl
 | x::xs,b,a,b',a',he=>by
  rw [dR] at he
  split at he
  ·cases he
  ·split at he
   ·exact dR_len he
   ·split at he
    ·rw [dR_len he,List.length_set]
    ·cases he
theorem dM_len {N:List NodeV}{nn:List Int}{c:Int}:∀ {xs b:List Int} {a:Bool} {b':List Int} {a':Bool},dM N nn c xs b a=some (b',a')→b'.length=b.length
 | [],b,a,b',a',he=>by cases he;rfl
 | x::xs,b,a,b',a',he=>by
  rw [dM] at he
  split at he
  ·cases he
  ·split at he
   ·cases he
   ·rename_i h1
    split at he
    ·cases he
    ·rename_i h2
     rw [dM_len he,dR_len h2,dR_len h1]
theorem dC_len {N:List NodeV}{nn:List Int}:∀ {r:List (List Int×Int)} {c:Nat} {b:List Int} {a:Bool} {b':List Int} {a':Bool},dC N nn c r b a=some (b',a')→b'.length=b.length
 | [],c,b,a,b',a',he=>by cases he;rfl
 | (xs,sz)::r,c,b,a,b',a',he=>by
  rw [dC] at he
  split at he
  ·cases he
  ·rename_i h1
   split at he
   ·cases he
   ·rw [dC_len he,List.length_set,dM_len h1]
structure ME where
 s:Sl
 g:Nat
 xs:List Int
def ME.own (e:ME):Own:=.ps e.s 1 T_i64 (e.xs.map vi) e.g
def DL (bb bn x0 bm:Nat)(s2 s:Sl)(g2:Nat)(root:Int)(nn szs b:List Int)(M:List ME):List Own :=
 [.blk bb (b.map vi) T_i64,.blk bn (nn.map vi) T_i64,.ps s2 1 T_i64 (szs.map vi) g2,.blk x0 [vsl s,vi root] T_api_Graph,.blk bm ((M.map ME.s).map vsl) T_sl_i64]
theorem ME_own {M:List ME}{c:Nat}{e:ME}(he:M[c]?=some e){bb bn x0 bm:Nat}{s2 s:Sl}{g2:Nat}{root:Int}{nn szs b:List Int}{M':List ME} :
  (DL bb bn x0 bm s2 s g2 root nn szs b M'++(M.map ME.own++L))[c+5]?=some (.ps e.s 1 T_i64 (e.xs.map vi) e.g):=by
 simp only [DL,List.cons_append,List.nil_append,List.getElem?_cons_succ]
 rw [List.getElem?_append_left (by simpa using lt_of_get he),List.getElem?_map,he];rfl
theorem dep_L0 {bb bn x0 bm:Nat}{s2 s:Sl}{g2:Nat}{root:Int}{nn szs b:List Int}{m:Nat}(hm:nn.length=m)(hb:m<1073741824)(a4:Sl)(a3:Bool)(a2:Sl)(a1:Sl) :
  ∀ (n i:Nat) (h:AHeap) (M:List ME) (X:List (List Int)),m - i<n→i≤m→mem i (nn.drop i) (M.map ME.xs)=some X→(∀ e ∈ M,e.xs.length≤i)→Z h0 h (DL bb bn x0 bm s2 s g2 root nn szs b M++(M.map ME.own++L)) →
   Wp (graph_depth_L0 n (adr x0) a1 a2 a3 a4 (arr bm M.length) (arr bn m) (m:Int) (i:Int)) h fun _ h'=>∃ M',M'.map ME.xs=X∧Z h0 h' (DL bb bn x0 bm s2 s g2 root nn szs b M'++(M'.map ME.own++L)):=by
 intro n
 induction n with
 | zero=>intro i h M X h1;omega
 | succ n ih =>
  intro i h M X h1 h2 hv hle z
  rw [graph_depth_L0_succ]
  unfold graph_depth_L0_B
  by_cases hi:i<m
  ·rw [if_pos (by simp;omega)]
   obtain⟨c,hc⟩:=getI (l:=nn) (i:=i) (by omega)
   rw [drop_cons hc,mem] at hv
   cases hg:gt (M.map ME.xs) c with
   | none=>rw [hg] at hv;cases hv
   | some xs =>
   rw [hg] at hv
   simp only at hv
   obtain⟨g1,gg⟩:=gt_some hg
   rw [List.getElem?_map] at gg
   cases hM:M[c.toNat]? with
   | none=>rw [hM] at gg;cases gg
   | some e =>
   rw [hM] at gg
   have gg:e.xs=xs:=Option.some.inj gg
   have hlt:=lt_of_get hM
   refine z.rdI (c:=nn) 1 (v:=c) (by unfold gt;rw [if_pos (by omega)];simpa using hc) hm ?_
   refine ixR (b:=bm) (m:=M.length) g1 hlt ?_
   refine z.ld 4 (o:=c.toNat) (l:=.sl) (x:=e.s) ?_ rfl (by rw [List.getElem?_map,List.getElem?_map,hM];rfl) rfl
   have hown:=ME_own (L:=L) hM (bb:=bb) (bn:=bn) (x0:=x0) (bm:=bm) (s2:=s2) (s:=s) (g2:=g2) (root:=root) (nn:=nn) (szs:=szs) (b:=b) (M':=M)
   have hlen:e.s.len=e.xs.length:=(PSl.rsl (z.get _ hown)).len1
   have hel:=hle e (List.mem_of_getElem? hM)
   refine z.appP (c.toNat+5) (new:=[vi (i:Int)]) hown (by decide) rfl (by unfold bigN;omega) fun s' h3 g' hs' z _=>?_
   refine ixR (b:=bm) (m:=M.length) g1 hlt ?_
   refine z.stA 4 (xs:=M.map ME.s) (enc:=vsl) (v:=s') (k:=c.toNat) (by simpa using hlt) (fun h4 z=>?_)
   rw [up1 h2 (by omega)]
   have hl':(M.set c.toNat ⟨s',g',e.xs++[(i:Int)]⟩).length=M.length:=by simp
   have z:Z h0 h4 (DL bb bn x0 bm s2 s g2 root nn szs b (M.set c.toNat ⟨s',g',e.xs++[(i:Int)]⟩)++((M.set c.toNat ⟨s',g',e.xs++[(i:Int)]⟩).map ME.own++L)):=by
    refine z.perm (List.Perm.of_eq ?_)
    simp only [DL,List.cons_append,List.nil_append,List.set_cons_succ,List.set_cons_zero]
    rw [List.set_append_left _ _ (by simpa using hlt),List.map_set,List.map_set]
    simp [ME.own]
   have:=ih (i+1) h4 (M.set c.toNat ⟨s',g',e.xs++[(i:Int)]⟩) X (by omega) (by omega) (by rw [List.map_set];simp only;rw [gg];exact hv) (fun x hx=>?_) z
   ·rw [hl'] at this;exact this
   ·rcases List.mem_or_eq_of_mem_set hx with hx | rfl
    ·have:=hle x hx;omega
    ·simp;omega
  ·rw [if_neg (by simp;omega),Wp_pure]
   have:nn.drop i=[]:=List.drop_eq_nil_of_le (by omega)
   rw [this] at hv
   cases hv;exact⟨M,rfl,z⟩
theorem dep_L4 {bb bn:Nat}{nn:List Int}{m p:Nat}(hm:nn.length=m){sl:Sl}{xs:List Int}(il:IL h0 sl xs){B:Nat}(hB:B<1073741824)(hl:xs.length≤B){c:Nat}(a0:Addr)(a2 a5:Sl)(a7 a8:Int)(a9:Sl)(a10 a11:Int)(a12:Sl)(a13 a14:Int) :
  ∀ (n i:Nat) (h:AHeap) (b b':List Int) (a a':Bool) (R:List Own),xs.length - i<n→i≤xs.length→b.length=p→dR nn c (xs.drop i) b a=some (b',a')→Z h0 h (.blk bb (b.map vi) T_i64::.blk bn (nn.map vi) T_i64::R) →
   Wp (graph_depth_L4 n a0 (arr bn m) a2 a (arr bb p) a5 (c:Int) a7 a8 a9 a10 a11 a12 a13 a14 sl (sl.len:Int) (i:Int)) h fun y h'=>y=a'∧Z h0 h' (.blk bb (b'.map vi) T_i64::.blk bn (nn.map vi) T_i64::R):=by
 intro n
 induction n with
 | zero=>intro i h b b' a a' R h1;omega
 | succ n ih =>
  intro i h b b' a a' R h1 h2 hp hv z
  rw [graph_depth_L4_succ]
  unfold graph_depth_L4_B
  rw [il.len]
  by_cases hi:i<xs.length
  ·rw [if_pos (by simp;omega)]
   obtain⟨x,hx⟩:=getI hi
   rw [drop_cons hx,dR] at hv
   refine (il.fr z.fr).ix (by omega) (by simpa using hx) fun a1 g cl=>cl.ld0 (l:=li) rfl rfl ?_
   cases hg:gt nn x with
   | none=>rw [hg] at hv;cases hv
   | some d =>
   rw [hg] at hv
   simp only at hv
   refine z.rdI (c:=nn) 1 hg hm ?_
   rw [up1 h2 (by omega)]
   by_cases hd:d=c
   ·rw [if_pos hd] at hv
    rw [if_pos (by simpa using hd)]
    have:=ih (i+1) h b b' false a' R (by omega) (by omega) hp hv z
    rwa [il.len] at this
   ·rw [if_neg hd] at hv
    rw [if_neg (by simpa using hd)]
    cases hq1:gt b (c:Int) with
    | none=>rw [hq1] at hv;cases hv
    | some v =>
    cases hq2:gt b d with
    | none=>rw [hq1,hq2] at hv;cases hv
    | some w =>
    rw [hq1,hq2] at hv
    simp only at hv
    obtain⟨g1,g2⟩:=gt_some hq1
    obtain⟨g3,g4⟩:=gt_some hg
    have hlt:=lt_of_get g2
    refine ixR (b:=bb) (m:=p) g1 (by omega) ?_
    refine ixR (b:=bn) (m:=m) g3 (by rw [← hm];exact lt_of_get g4) ?_
    refine z.ld 0 (o:=(c:Int).toNat) (l:=li) (x:=v) ?_ rfl (by rw [List.getElem?_map,g2];rfl) rfl
    refine z.ld 1 (o:=x.toNat) (l:=li) (x:=d) ?_ rfl (by rw [List.getElem?_map,g4];rfl) rfl
    refine z.rdI (c:=b) 0 hq2 hp ?_
    refine ixR (b:=bb) (m:=p) g1 (by omega) ?_
    refine z.stA 0 (xs:=b) (enc:=vi) (v:=mx v w) hlt (fun h3 z=>?_)
    have:=ih (i+1) h3 (b.set (c:Int).toNat (mx v w)) b' a a' R (by omega) (by omega) (by simpa using hp) hv z
    rwa [il.len] at this
  ·rw [if_neg (by simp;omega),Wp_pure]
   have:xs.drop i=[]:=List.drop_eq_nil_of_le (by omega)
   rw [this] at hv
   cases hv;exact⟨rfl,z⟩
theorem dep_L3 {bb bn b1:Nat}{nn:List Int}{m p:Nat}(hm:nn.length=m){ks is:Sl}{kl il:List Int}(ik:IL h0 ks kl)(ii:IL h0 is il){B:Nat}(hB:B<1073741824)(hl:kl.length≤B)(hl2:il.length≤B){c:Nat}(a0:Addr)(a2 a5:Sl)(a7 a8:Int)(a9:Sl)(a10 a11:Int)
  (n:Nat) (hn:B+5≤n) (h:AHeap) (b b2 b':List Int) (a a2' a':Bool) (R:List Own) (hp:b.length=p) (hv1:dR nn c kl b a=some (b2,a2')) (hv2:dR nn c il b2 a2'=some (b',a')) (z:Z h0 h (.blk bb (b.map vi) T_i64::.blk bn (nn.map vi) T_i64::.blk b1 [vsl ks,vsl is] T_sl_i64::R)) :
   Wp (graph_depth_L3 n a0 (arr bn m) a2 a (arr bb p) a5 (c:Int) a7 a8 a9 a10 a11 { a:=some (adr b1),len:=2,cap:=3 } (2:Nat) 0) h fun y h'=>y=a'∧Z h0 h' (.blk bb (b'.map vi) T_i64::.blk bn (nn.map vi) T_i64::.blk b1 [vsl ks,vsl is] T_sl_i64::R):=by
 obtain⟨n,rfl⟩:∃ m,n=m+3:=⟨n - 3,by omega⟩
 have rs:∀ {h},Cl h ⟨b1,0,none⟩ [vsl ks,vsl is] (b1+1)→RSl h { a:=some (adr b1),len:=2,cap:=3 } 1 [vsl ks,vsl is] (b1+1):=fun c=>⟨rfl,.inr ⟨_,rfl,c⟩⟩
 rw [graph_depth_L3_succ]
 unfold graph_depth_L3_B
 rw [if_pos (by decide)]
 refine (rs (z.cl 2 rfl)).ix (k:=0) (by decide) (by simp) fun ad cl=>cl.ld0 (l:=.sl) rfl rfl ?_
 rw [Wp_bind]
 refine (dep_L4 hm ik hB hl a0 a2 a5 a7 a8 a9 a10 a11 _ _ _ _ 0 h b b2 a a2' _ (by omega) (by omega) hp (by simpa using hv1) z).mono fun y h1 hy=>?_
 obtain⟨rfl,z⟩:=hy
 rw [show IntKind.i64.wrap (0+1)=1 from by decide,graph_depth_L3_succ]
 unfold graph_depth_L3_B
 rw [if_pos (by decide)]
 refine (rs (z.cl 2 rfl)).ix (k:=1) (by decide) (by simp) fun ad cl=>cl.ld0 (l:=.sl) rfl rfl ?_
 rw [Wp_bind]
 refine (dep_L4 hm ii hB hl2 a0 a2 a5 a7 a8 a9 a10 a11 _ _ _ _ 0 h1 b2 b' y a' _ (by omega) (by omega) (by rw [dR_len hv1];exact hp) (by simpa using hv2) z).mono fun y2 h2 hy=>?_
 obtain⟨rfl,z⟩:=hy
 rw [show IntKind.i64.wrap (1+1)=2 from by decide,graph_depth_L3_succ]
 unfold graph_depth_L3_B
 rw [if_neg (by decide),Wp_pure]
 exact⟨rfl,z⟩
theorem dep_L2 {s:Sl}{N:List NodeV}(G:GrR h0 s N){B:Nat}(hB:Bd N B){bb bn x0:Nat}{root:Int}{nn:List Int}{m p:Nat}(hm:nn.length=m){sl:Sl}{xs:List Int}(hl:xs.length≤B){o2:Own}{c:Nat}(a2 a5:Sl)(a7 a8:Int)
  (hr:∀ h' b,Z h0 h' (.blk bb b T_i64::.blk bn (nn.map vi) T_i64::o2::.blk x0 [vsl s,vi root] T_api_Graph::L)→IL h' sl xs) (hsl:sl.len=xs.length) :
  ∀ (n i:Nat) (h:AHeap) (b b':List Int) (a a':Bool),B+6+(xs.length - i)<n→i≤xs.length→b.length=p→dM N nn c (xs.drop i) b a=some (b',a')→Z h0 h (.blk bb (b.map vi) T_i64::.blk bn (nn.map vi) T_i64::o2::.blk x0 [vsl s,vi root] T_api_Graph::L) →
   Wp (graph_depth_L2 n (adr x0) (arr bn m) a2 a (arr bb p) a5 (c:Int) a7 a8 sl (sl.len:Int) (i:Int)) h fun y h'=>y=a'∧Z h0 h' (.blk bb (b'.map vi) T_i64::.blk bn (nn.map vi) T_i64::o2::.blk x0 [vsl s,vi root] T_api_Graph::L):=by
 intro n
 induction n with
 | zero=>intro i h b b' a a' h1;omega
 | succ n ih =>
  intro i h b b' a a' h1 h2 hp hv z
  rw [graph_depth_L2_succ]
  unfold graph_depth_L2_B
  rw [hsl]
  by_cases hi:i<xs.length
  ·rw [if_pos (by simp;omega)]
   obtain⟨x,hx⟩:=getI hi
   rw [drop_cons hx,dM] at hv
   cases hg:gt N x with
   | none=>rw [hg] at hv;cases hv
   | some nx =>
   rw [hg] at hv
   simp only at hv
   obtain⟨x1,x2⟩:=gt_some hg
   have hb:=hB.2.2 nx (List.mem_of_getElem? x2)
   cases hv1:dR nn c nx.keys b a with
   | none=>rw [hv1] at hv;cases hv
   | some q1 =>
   obtain⟨b1,a1⟩:=q1
   rw [hv1] at hv
   simp only at hv
   cases hv2:dR nn c nx.items b1 a1 with
   | none=>rw [hv2] at hv;cases hv
   | some q2 =>
   obtain⟨b2,a2'⟩:=q2
   rw [hv2] at hv
   simp only at hv
   refine (hr h _ z).ix (by omega) (by simpa using hx) fun ad g cl=>cl.ld0 (l:=li) rfl rfl ?_
   refine z.reserve [12] (by decide) (by decide) fun nb h3 z=>?_
   refine z.ld 4 (o:=0) (l:=.sl) ?_
   refine G.at0 z x1 x2 fun ad1 ks is nd=>(nd.fr z.fr).ldks ?_
   refine z.ld 4 (o:=0) (l:=.sl) ?_
   refine G.at0 z x1 x2 fun ad2 ks2 is2 nd2=>(nd2.fr z.fr).ldis ?_
   refine z.newAt 0 fun h4 z=>?_
   have z:=Z.permBy (pre:=[_,_,_]) z [1,2,0] (by simp only [List.length_cons,List.length_nil];decide)
   rw [Wp_bind]
   refine (dep_L3 hm nd.keys nd2.items hB.2.1 hb.1 hb.2 _ _ _ _ _ _ _ _ n (by omega) h4 b b1 b2 a a1 a2' _ hp hv1 hv2 z).mono fun y h5 hy=>?_
   obtain⟨rfl,z⟩:=hy
   have z:=(Z.permBy (pre:=[_,_,_]) z [2,0,1] (by simp only [List.length_cons,List.length_nil];decide)).drop
   rw [up1 h2 (by have:=hB.2.1;omega)]
   have:=ih (i+1) h5 b2 b' y a' (by omega) (by omega) (by rw [dR_len hv2,dR_len hv1];exact hp) hv z
   rwa [hsl] at this
  ·rw [if_neg (by simp;omega),Wp_pure]
   have:xs.drop i=[]:=List.drop_eq_nil_of_le (by omega)
   rw [this] at hv
   cases hv;exact⟨rfl,z⟩
theorem dep_L1 {s:Sl}{N:List NodeV}(G:GrR h0 s N){B:Nat}(hB:Bd N B){bb bn x0 bm:Nat}{s2:Sl}{g2:Nat}{root:Int}{nn szs:List Int}{m p:Nat}(hm:nn.length=m){M:List ME}(hM:M.length=p)(hs:szs.length=p)(hpB:p≤B)(hle:∀ e ∈ M,e.xs.length≤B) :
  ∀ (n i:Nat) (h:AHeap) (b b':List Int) (a a':Bool),2 * B+8+(p - i)<n→i≤p→b.length=p→dC N nn i (((M.map ME.xs).zip szs).drop i) b a=some (b',a')→Z h0 h (DL bb bn x0 bm s2 s g2 root nn szs b M++(M.map ME.own++L)) →
   Wp (graph_depth_L1 n (adr x0) (arr bn m) s2 a (arr bb p) (arr bm p) (p:Int) (i:Int)) h fun y h'=>y=a'∧Z h0 h' (DL bb bn x0 bm s2 s g2 root nn szs b' M++(M.map ME.own++L)):=by
 intro n
 induction n with
 | zero=>intro i h b b' a a' h1;omega
 | succ n ih =>
  intro i h b b' a a' h1 h2 hp hv z
  rw [graph_depth_L1_succ]
  unfold graph_depth_L1_B
  by_cases hi:i<p
  ·rw [if_pos (by simp;omega)]
   obtain⟨e,he⟩:=getI (l:=M) (i:=i) (by omega)
   obtain⟨sz,hz⟩:=getI (l:=szs) (i:=i) (by omega)
   have hzip:((M.map ME.xs).zip szs)[i]?=some (e.xs,sz):=by
    rw [List.getElem?_zip_eq_some]
    exact⟨by rw [List.getElem?_map,he];rfl,hz⟩
   rw [drop_cons hzip,dC] at hv
   cases hv1:dM N nn (i:Int) e.xs b a with
   | none=>rw [hv1] at hv;cases hv
   | some q1 =>
   obtain⟨b1,a1⟩:=q1
   rw [hv1] at hv
   simp only at hv
   cases hg:gt b1 (i:Int) with
   | none=>rw [hg] at hv;cases hv
   | some v =>
   rw [hg] at hv
   simp only at hv
   obtain⟨g1,gg⟩:=gt_some hg
   refine ixR (b:=bm) (m:=p) (by omega) (by omega) ?_
   refine z.ld 4 (o:=(i:Int).toNat) (l:=.sl) (x:=e.s) ?_ rfl (by rw [Int.toNat_natCast,List.getElem?_map,List.getElem?_map,he];rfl) rfl
   have hown:∀ {b:List Value},(.blk bb b T_i64::.blk bn (nn.map vi) T_i64::.ps s2 1 T_i64 (szs.map vi) g2::.blk x0 [vsl s,vi root] T_api_Graph::.blk bm ((M.map ME.s).map vsl) T_sl_i64::(M.map ME.own++L):List Own)[i+5]?=some (.ps e.s 1 T_i64 (e.xs.map vi) e.g):=by
    intro b
    simp only [List.getElem?_cons_succ]
    rw [List.getElem?_append_left (by simpa using lt_of_get he),List.getElem?_map,he];rfl
   have hlen:e.s.len=e.xs.length:=(PSl.rsl (z.get _ (hown (b:=b.map vi)))).len1
   have hel:=hle e (List.mem_of_getElem? he)
   rw [Wp_bind]
   refine (dep_L2 G hB hm hel s2 (arr bm p) (p:Int) (i:Int) (fun h' b z=>⟨_,PSl.rsl (z.get _ hown)⟩) hlen n 0 h b b1 a a1 (by omega) (by omega) hp (by simpa using hv1) z).mono fun y h3 hy=>?_
   obtain⟨rfl,z⟩:=hy
   have hlb:b1.length=p:=by rw [dM_len hv1];exact hp
   refine ixR (b:=bb) (m:=p) (by omega) (by omega) ?_
   have hps:PSl h3 s2 1 T_i64 (szs.map vi) g2:=z.get 2 rfl
   refine hps.rsl.ix1 (enc:=vi) (v:=sz) (by omega) (by simpa using hz) fun ad cl=>?_
   refine z.ld 0 (o:=(i:Int).toNat) (l:=li) (x:=v) ?_ rfl (by rw [List.getElem?_map,gg];rfl) rfl
   refine cl.ld0 (l:=li) rfl rfl ?_
   refine ixR (b:=bb) (m:=p) (by omega) (by omega) ?_
   refine z.stA 0 (xs:=b1) (enc:=vi) (v:=IntKind.i64.wrap (v+sz)) (lt_of_get gg) (fun h4 z=>?_)
   rw [up1 h2 (by have:=hB.2.1;omega)]
   exact ih (i+1) h4 _ b' y a' (by omega) (by omega) (by simpa using hlb) hv z
  ·rw [if_neg (by simp;omega),Wp_pure]
   have:((M.map ME.xs).zip szs).drop i=[]:=List.drop_eq_nil_of_le (by simp;omega)
   rw [this] at hv
   cases hv;exact⟨rfl,z⟩
theorem depth_wp {s:Sl}{root:Int}{N:List NodeV}(z:Z h0 h L)(G:GrR h0 s N){B:Nat}(hB:Bd N B){k n:Nat}(hk:k≤n)(hn:3 * B+10<n){d:Int}{a:Bool}(hv:dep k N root=some (d,a)) :
  Wp (graph_depth n (s,root)) h fun x h'=>x=(d,a)∧Z h0 h' L:=by
 unfold graph_depth
 unfold dep at hv
 cases hc:comp k N root with
 | none=>rw [hc] at hv;cases hv
 | some q =>
 obtain⟨nn,szs⟩:=q
 rw [hc] at hv
 simp only at hv
 split at hv
 case isFalse=>cases hv
 rename_i hsz
 cases hm:mem 0 nn (List.replicate szs.length []) with
 | none=>rw [hm] at hv;cases hv
 | some X =>
 rw [hm] at hv
 simp only at hv
 cases hd:dC N nn 0 (X.zip szs) (List.replicate szs.length 0) true with
 | none=>rw [hd] at hv;cases hv
 | some q =>
 obtain⟨b,a1⟩:=q
 rw [hd] at hv
 simp only at hv
 cases hg:gt nn root with
 | none=>rw [hg] at hv;cases hv
 | some c =>
 rw [hg] at hv
 simp only at hv
 cases hg2:gt b c with
 | none=>rw [hg2] at hv;cases hv
 | some v =>
 rw [hg2] at hv
 simp only [Option.some.injEq,Prod.mk.injEq] at hv
 obtain⟨rfl,rfl⟩:=hv
 have hNB:=hB.1
 have hBB:=hB.2.1
 refine z.new fun x0 h1 z _=>?_
 refine z.lds 0 (ls:=[.sl,li]) (x:=(s,root)) ?_
 rw [Wp_bind]
 refine (components_wp z G hB hk (by omega) hc).mono fun y h2 hy=>?_
 obtain⟨hnn,bn,s2,g2,rfl,z⟩:=hy
 have hs2:s2.len=szs.length:=(PSl.rsl (z.get 1 rfl)).len1
 simp only
 rw [hs2]
 refine z.mkA (by omega) (by unfold bigN;omega) fun bb h3 z _=>?_
 refine z.mkA (by omega) (by unfold bigN;omega) fun bm h4 z _=>?_
 rw [Int.toNat_natCast] at z ⊢
 rw [rep_map (enc:=vi),show vsl0=vsl sl0 from rfl,rep_map (enc:=vsl)] at z
 have z:=Z.permBy (pre:=[_,_,_,_,_]) z [1,2,3,4,0] (by simp only [List.length_cons,List.length_nil];decide)
 have hown:∀ n,((List.replicate n (⟨⟨none,0,0⟩,0,[]⟩:ME)).map ME.own)=List.replicate n (.ps ⟨none,0,0⟩ 1 T_i64 [] 0):=by
  intro n;rw [List.map_replicate];rfl
 have addn:∀ (n:Nat) {L:List Own},Z h0 h4 L→Z h0 h4 (List.replicate n (.ps ⟨none,0,0⟩ 1 T_i64 [] 0)++L):=by
  intro n
  induction n with
  | zero=>intro L z;exact z
  | succ n ih=>intro L z;exact (ih z).add (Fr.refl z.wf) (o:=.ps ⟨none,0,0⟩ 1 T_i64 [] 0) PSl.nil (.inl rfl)
 have z:=addn szs.length z
 have z:Z h0 h4 (DL bb bn x0 bm s2 s g2 root nn szs (List.replicate szs.length 0) (List.replicate szs.length ⟨⟨none,0,0⟩,0,[]⟩)++((List.replicate szs.length (⟨⟨none,0,0⟩,0,[]⟩:ME)).map ME.own++L)):=by
  refine z.perm ?_
  rw [hown]
  have e:(List.replicate szs.length (⟨⟨none,0,0⟩,0,[]⟩:ME)).map ME.s=List.replicate szs.length sl0:=by rw [List.map_replicate]
  unfold DL
  rw [e]
  simp only [List.cons_append,List.nil_append]
  have:=List.Perm.append_right L (List.perm_append_comm (l₁:=List.replicate szs.length (Own.ps ⟨none,0,0⟩ 1 T_i64 [] 0)) (l₂:=[.blk bb ((List.replicate szs.length 0).map vi) T_i64,.blk bn (nn.map vi) T_i64,.ps s2 1 T_i64 (szs.map vi) g2,.blk x0 [vsl s,vi root] T_api_Graph,.blk bm ((List.replicate szs.length sl0).map vsl) T_sl_i64]))
  rw [List.append_assoc,List.append_assoc] at this
  exact this
 rw [Wp_bind]
 have hl0:=dep_L0 (L:=L) (h0:=h0) hnn (by omega) (arr bb szs.length) true s2 (arr bn N.length) n 0 h4 (List.replicate szs.length ⟨⟨none,0,0⟩,0,[]⟩) X (by omega) (by omega) (by rw [List.map_replicate];exact hm) (fun e he=>by rw [List.eq_of_mem_replicate he];simp) z
 rw [List.length_replicate] at hl0
 refine hl0.mono fun _ h5 hx=>?_
 obtain⟨M,rfl,z⟩:=hx
 have hML:M.length=szs.length:=by have:=mem_len hm;simpa using this
 rw [Wp_bind]
 refine (dep_L1 G hB hnn hML rfl (by omega) (fun e he=>?_) n 0 h5 _ b true a1 (by omega) (by omega) (by simp) (by simpa using hd) z).mono fun y h6 hy=>?_
 ·have:=mem_le hm (fun xs hx=>by rw [List.eq_of_mem_replicate hx];simp) e.xs (List.mem_map.2 ⟨e,he,rfl⟩)
  omega
 obtain⟨rfl,z⟩:=hy
 refine z.ld 3 (o:=1) (l:=li) (x:=root) ?_
 refine z.rdI (c:=nn) 1 hg hnn ?_
 have hbl:b.length=szs.length:=by rw [dC_len hd,List.length_replicate]
 refine z.rdI (c:=b) (m:=szs.length) 0 hg2 hbl ?_
 rw [Wp_pure]
 refine⟨rfl,?_⟩
 have z:=z.drop.drop.drop.drop.drop
 exact z.sub (List.sublist_append_right _ _)
end Go.Sh
set_option linter.all false
namespace Go.Sh
open Go Go.Ago Go.Proofs
variable {α β:Type}{h h' h0:AHeap}{L:List Own}{Q:β→AHeap→Prop}
noncomputable def gA:List Bool→List NodeV→Option Bool
 | m::ms,x::xs=>if m=false then some false else match formP x with
  | none=>none
  | some false=>some false
  | some true=>gA ms xs
 | _,[]=>some true
 | [],_::_=>none
def gB:List Bool→List Int→Bool
 | b::bs,c::cs=>if b=true∧c≠1 then false else gB bs cs
 | _,_=>true
noncomputable def gcheck (k:Nat)(N:List NodeV)(root:Int):Option Int :=
 if 4096<N.length then some 7
 else if N.length=0 then some 3
 else if inds N root=false then some 3
 else match vis k N root (List.replicate N.length false) with
  | none=>none
  | some ms=>match gA ms N with
   | none=>none
   | some false=>some 3
   | some true=>match cnt N root with
    | none=>none
    | some c=>match inK k N N (List.replicate N.length false) with
     | none=>none
     | some ks =>
      if gB ks c=false then some 3
      else match twN k N N with
       | none=>none
       | some true=>some 8
       | some false=>match dep k N root with
        | none=>none
        | some (d,_)=>if 32<d then some 5 else some 0
theorem check_L0 {s:Sl}{N:List NodeV}(G:GrR h0 s N){B:Nat}(hB:Bd N B)(ht:∀ x ∈ N,x.text.size≤65536){bm:Nat}{ms:List Bool}(hm:ms.length=N.length){e:TypeId}(a0:Addr) :
  ∀ (n i:Nat) (r:Bool) (h:AHeap) (L:List Own),(N.length - i)+65540<n→i≤N.length→gA (ms.drop i) (N.drop i)=some r→Z h0 h (.blk bm (ms.map .bool) e::L) →
   Wp (graph_Check_L0 n a0 (arr bm N.length) s (s.len:Int) (i:Int)) h fun y h'=>y=(if r then .inl () else .inr 3)∧Z h0 h' (.blk bm (ms.map .bool) e::L):=by
 intro n
 induction n with
 | zero=>intro i r h L h1;omega
 | succ n ih =>
  intro i r h L h1 h2 hv z
  rw [graph_Check_L0_succ]
  unfold graph_Check_L0_B
  rw [G.len]
  by_cases hi:i<N.length
  ·rw [if_pos (by simp;omega)]
   obtain⟨x,hx⟩:=getI hi
   obtain⟨b,hb⟩:=getI (l:=ms) (i:=i) (by omega)
   rw [drop_cons hx,drop_cons hb,gA] at hv
   refine G.at z (by omega) (by simpa using hx) fun a ks is nd ik ii=>nd.lds ?_
   refine z.node fun x2 h2' z=>?_
   refine z.rdB (c:=ms) 1 (v:=b) (by unfold gt;rw [if_pos (by omega)];simpa using hb) hm ?_
   cases b with
   | false =>
    rw [if_pos rfl] at hv;cases hv
    rw [if_pos (by rfl),Wp_pure];exact⟨rfl,z.drop⟩
   | true =>
    rw [if_neg (by simp)] at hv
    rw [if_neg (by simp)]
    refine z.lds 0 (ls:=[li,.str,.bool,.sl,.sl]) (x:=(x.kind,x.text,x.ord,ks,is)) ?_
    cases hf:formP x with
    | none=>rw [hf] at hv;cases hv
    | some f =>
     rw [hf] at hv
     have htx:=ht x (List.mem_of_getElem? hx)
     rw [Wp_bind]
     refine (form_wp z ik ii htx (by omega) hf).mono fun y h3 hy=>?_
     obtain⟨rfl,z⟩:=hy
     cases y with
     | false =>
      cases hv
      rw [if_pos (by rfl),Wp_pure];exact⟨rfl,z.drop⟩
     | true =>
      simp only at hv
      rw [if_neg (by simp),up1 h2 (by have:=hB.1;have:=hB.2.1;omega)]
      have:=ih (i+1) r h3 L (by omega) (by omega) hv z.drop
      rwa [G.len] at this
  ·rw [if_neg (by simp;omega),Wp_pure]
   have e1:N.drop i=[]:=List.drop_eq_nil_of_le (by omega)
   have e2:ms.drop i=[]:=List.drop_eq_nil_of_le (by omega)
   rw [e1,e2] at hv
   cases hv;exact⟨rfl,z⟩
theorem check_L1 {bk bc m:Nat}{ks:List Bool}{c:List Int}(hk:ks.length=m)(hc:c.length=m)(hb:m<1073741824){e1 e2:TypeId}(a0:Addr)(z:Z h0 h (.blk bk (ks.map .bool) e1::.blk bc (c.map vi) e2::L)) :
  ∀ (n i:Nat),m - i<n→i≤m→Wp (graph_Check_L1 n a0 (arr bc m) (arr bk m) (m:Int) (i:Int)) h fun y h'=>y=(if gB (ks.drop i) (c.drop i) then .inl () else .inr 3)∧h'=h:=by
 intro n
 induction n with
 | zero=>intro i h1;omega
 | succ n ih =>
  intro i h1 h2
  rw [graph_Check_L1_succ]
  unfold graph_Check_L1_B
  by_cases hi:i<m
  ·rw [if_pos (by simp;omega)]
   obtain⟨b,hb⟩:=getI (l:=ks) (i:=i) (by omega)
   obtain⟨v,hv⟩:=getI (l:=c) (i:=i) (by omega)
   have hg:gB (ks.drop i) (c.drop i)=if b=true∧v≠1 then false else gB (ks.drop (i+1)) (c.drop (i+1)):=by rw [drop_cons hb,drop_cons hv,gB]
   rw [hg]
   clear hg
   refine z.rdB (c:=ks) 0 (v:=b) (by unfold gt;rw [if_pos (by omega)];simpa using hb) hk ?_
   have hnx:=ih (i+1) (by omega) (by omega)
   rw [← up1 h2 (by omega)] at hnx
   cases b with
   | false =>
    have e:(if false=true∧v≠1 then false else gB (ks.drop (i+1)) (c.drop (i+1)))=gB (ks.drop (i+1)) (c.drop (i+1)):=if_neg (by simp)
    rw [e,if_neg (by simp)]
    exact hnx
   | true =>
    rw [if_pos rfl]
    refine z.rdI (c:=c) 1 (v:=v) (by unfold gt;rw [if_pos (by omega)];simpa using hv) hc ?_
    by_cases h1:v=1
    ·have e:(if true=true∧v≠1 then false else gB (ks.drop (i+1)) (c.drop (i+1)))=gB (ks.drop (i+1)) (c.drop (i+1)):=if_neg (by simp [h1])
     rw [e,if_neg (by simpa using h1)]
     exact hnx
    ·have e:(if true=true∧v≠1 then false else gB (ks.drop (i+1)) (c.drop (i+1)))=false:=if_pos ⟨rfl,h1⟩
     rw [e,if_pos (by simpa using h1),Wp_pure]
     exact⟨rfl,rfl⟩
  ·rw [if_neg (by simp;omega),Wp_pure]
   have e1:ks.drop i=[]:=List.drop_eq_nil_of_le (by omega)
   rw [e1]
   exact⟨rfl,rfl⟩
theorem Check_wp {s:Sl}{root:Int}{N:List NodeV}(z:Z h0 h L)(G:GrR h0 s N){B:Nat}(hB:Bd N B)(ht:∀ x ∈ N,x.text.size≤65536){k n:Nat}(hn:k+4 * B+65600<n){r:Int}(hv:gcheck k N root=some r) :
  Wp (graph_Check n (s,root)) h fun x h'=>x=r∧Z h0 h' L:=by
 have hNB:=hB.1
 have hBB:=hB.2.1
 unfold graph_Check
 unfold gcheck at hv
 refine z.new fun x0 h1 z _=>?_
 refine z.ld 0 (o:=0) (l:=.sl) ?_
 rw [G.len]
 by_cases c1:4096<N.length
 ·rw [if_pos c1] at hv;cases hv
  rw [if_pos (by simp;omega),Wp_pure];exact⟨rfl,z.drop⟩
 rw [if_neg c1] at hv
 rw [if_neg (by simp;omega)]
 refine z.ld 0 (o:=0) (l:=.sl) ?_
 rw [G.len]
 by_cases c2:N.length=0
 ·rw [if_pos c2] at hv;cases hv
  rw [if_pos (by simp [c2]),Wp_pure];exact⟨rfl,z.drop⟩
 rw [if_neg c2] at hv
 rw [if_neg (by simp;exact fun e=>c2 (by simp [e]))]
 refine z.lds 0 (ls:=[.sl,li]) (x:=(s,root)) ?_
 rw [Wp_bind]
 refine (indices_wp z G hB (by omega)).mono fun y h2 hy=>?_
 obtain⟨rfl,z⟩:=hy
 cases c3:inds N root with
 | false =>
  rw [if_pos c3] at hv;cases hv
  rw [if_pos (by rfl),Wp_pure];exact⟨rfl,z.drop⟩
 | true =>
 rw [if_neg (by simp [c3])] at hv
 rw [if_neg (by simp)]
 unfold graph_Check_J0
 refine z.ld 0 (o:=0) (l:=.sl) ?_
 rw [G.len]
 refine z.mkA (by omega) (by unfold bigN;omega) fun bm h3 z _=>?_
 rw [Int.toNat_natCast] at z ⊢
 rw [rep_map (enc:=Value.bool)] at z
 refine z.lds 1 (ls:=[.sl,li]) (x:=(s,root)) ?_
 refine z.ld 1 (o:=1) (l:=li) (x:=root) ?_
 cases hvis:vis k N root (List.replicate N.length false) with
 | none=>rw [hvis] at hv;cases hv
 | some ms =>
 rw [hvis] at hv
 simp only at hv
 rw [Wp_bind]
 have hms:ms.length=N.length:=by have:=(vis_len k N).1 _ _ _ hvis;simpa using this
 have hw:=reached_wp (cap:=N.length+1) z G hB hvis (n:=n) (root:=root) (by omega)
 rw [List.length_replicate] at hw
 refine hw.mono fun _ h4 z=>?_
 refine z.ld 1 (o:=0) (l:=.sl) ?_
 cases hA:gA ms N with
 | none=>rw [hA] at hv;cases hv
 | some b =>
 rw [hA] at hv
 rw [Wp_bind]
 refine (check_L0 G hB ht hms (adr x0) n 0 b h4 _ (by omega) (by omega) (by simpa using hA) z).mono fun y h5 hy=>?_
 obtain⟨rfl,z⟩:=hy
 cases b with
 | false=>cases hv;exact Wp_pure.2 ⟨rfl,z.drop.drop⟩
 | true =>
 simp only at hv
 show Wp (M.bind _ _) h5 _
 refine z.lds 1 (ls:=[.sl,li]) (x:=(s,root)) ?_
 cases hc:cnt N root with
 | none=>rw [hc] at hv;cases hv
 | some c =>
 rw [hc] at hv
 simp only at hv
 rw [Wp_bind]
 refine (counts_wp z G hB (by omega) hc).mono fun y h6 hy=>?_
 obtain⟨bc,rfl,hcl,z⟩:=hy
 refine z.lds 2 (ls:=[.sl,li]) (x:=(s,root)) ?_
 cases hi:inK k N N (List.replicate N.length false) with
 | none=>rw [hi] at hv;cases hv
 | some ks =>
 rw [hi] at hv
 simp only at hv
 rw [Wp_bind]
 refine (inKeys_wp (k:=k) z G hB (by omega) hi).mono fun y h7 hy=>?_
 obtain⟨bk,rfl,hkl,z⟩:=hy
 rw [Wp_bind]
 refine (check_L1 hkl hcl (by omega) (adr x0) z n 0 (by omega) (by omega)).mono fun y h8 hy=>?_
 obtain⟨rfl,rfl⟩:=hy
 simp only [List.drop_zero]
 cases hgB:gB ks c with
 | false =>
  rw [if_pos hgB] at hv;cases hv
  exact Wp_pure.2 ⟨rfl,z.drop.drop.drop.drop⟩
 | true =>
 rw [if_neg (by simp [hgB])] at hv
 show Wp (M.bind _ _) h8 _
 refine z.lds 3 (ls:=[.sl,li]) (x:=(s,root)) ?_
 cases htw:twN k N N with
 | none=>rw [htw] at hv;cases hv
 | some b =>
 rw [htw] at hv
 rw [Wp_bind]
 refine (twice_wp (k:=k) z G hB (by omega) htw).mono fun y h9 hy=>?_
 obtain⟨rfl,z⟩:=hy
 cases y with
 | true=>cases hv;rw [if_pos rfl,Wp_pure];exact⟨rfl,z.drop.drop.drop.drop⟩
 | false =>
 simp only at hv
 rw [if_neg (by simp)]
 refine z.lds 3 (ls:=[.sl,li]) (x:=(s,root)) ?_
 cases hd:dep k N root with
 | none=>rw [hd] at hv;cases hv
 | some q =>
 obtain⟨d,a⟩:=q
 rw [hd] at hv
 simp only at hv
 rw [Wp_bind]
 refine (depth_wp z G hB (k:=k) (by omega) (by omega) hd).mono fun y h10 hy=>?_
 obtain⟨rfl,z⟩:=hy
 by_cases h32:32<d
 ·rw [if_pos h32] at hv;cases hv
  rw [if_pos (by simpa using h32),Wp_pure];exact⟨rfl,z.drop.drop.drop.drop⟩
 ·rw [if_neg h32] at hv;cases hv
  rw [if_neg (by simpa using h32),Wp_pure];exact⟨rfl,z.drop.drop.drop.drop⟩
end Go.Sh
