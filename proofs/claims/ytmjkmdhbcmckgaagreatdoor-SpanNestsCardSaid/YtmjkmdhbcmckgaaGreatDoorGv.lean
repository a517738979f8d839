
import Derived.Test.YtmjkmdhbcmckgaaGreatDoorGi
set_option linter.all false
namespace Go.Sh
open Go Go.Ago Go.Proofs
variable {α β:Type}{h h' h0:AHeap}{L:List Own}{Q:β→AHeap→Prop}
def gt (l:List α)(i:Int):Option α:=if 0≤i then l[i.toNat]? else none
theorem gt_some {l:List α}{i:Int}{x:α}(hx:gt l i=some x):0≤i∧l[i.toNat]?=some x:=by
 unfold gt at hx;split at hx
 ·exact⟨by assumption,hx⟩
 ·cases hx
mutual
def vis:Nat→List NodeV→Int→List Bool→Option (List Bool)
 | 0,_,_,_=>none
 | k+1,N,at',ms=>match gt ms at' with
  | none=>none
  | some true=>some ms
  | some false=>match gt N at' with
   | none=>none
   | some x=>match visL k N x.keys (ms.set at'.toNat true) with
    | none=>none
    | some m2=>visL k N x.items m2
def visL:Nat→List NodeV→List Int→List Bool→Option (List Bool)
 | 0,_,_,_=>none
 | _+1,_,[],ms=>some ms
 | k+1,N,x::xs,ms=>match vis k N x ms with
  | none=>none
  | some m2=>visL k N xs m2
end
theorem vis_len (k:Nat):∀ N,(∀ a ms r,vis k N a ms=some r→r.length=ms.length)∧∀ xs ms r,visL k N xs ms=some r→r.length=ms.length:=by
 induction k with
 | zero=>intro N;exact⟨fun a ms r e=>by simp [vis] at e,fun xs ms r e=>by simp [visL] at e⟩
 | succ k ih =>
  intro N
  refine⟨fun a ms r e=>?_,fun xs ms r e=>?_⟩
  ·rw [vis] at e
   split at e
   ·cases e
   ·cases e;rfl
   ·split at e
    ·cases e
    ·split at e
     ·cases e
     ·rename_i h1
      rw [(ih N).2 _ _ _ e,(ih N).2 _ _ _ h1];simp
  ·cases xs with
   | nil=>rw [visL] at e;cases e;rfl
   | cons x xs =>
    rw [visL] at e
    split at e
    ·cases e
    ·rename_i h1
     rw [(ih N).2 _ _ _ e,(ih N).1 _ _ _ h1]
def fnV (b1 b0 b2:Nat):Value:=Value.func (Fn.func F_graph_reached_1) #[] #[Value.pointer (some (adr b1)),Value.pointer (some (adr b0)),Value.pointer (some (adr b2))]
def OV (b2 b1 b0 bm:Nat)(s:Sl)(root:Int)(cap:Nat)(ms:List Bool)(e:TypeId):List Own :=
 [.blk b2 [fnV b1 b0 b2] T_fn_i64__,.blk b1 [vsl ⟨some ⟨bm,0,none⟩,ms.length,cap⟩] T_sl_bool,.blk b0 [vsl s,vi root] T_api_Graph,.blk bm (ms.map .bool) e]
theorem vis_wp {s:Sl}{root:Int}{N:List NodeV}(G:GrR h0 s N){B:Nat}(hB:Bd N B){b2 b1 b0 bm cap:Nat}{e:TypeId} :
  ∀ (k:Nat),(∀ (n:Nat) (a:Int) (ms r:List Bool) (h:AHeap) (L:List Own),k≤n→vis k N a ms=some r→Z h0 h (OV b2 b1 b0 bm s root cap ms e++L) →
    Wp (graph_reached_1 n a (adr b1) (adr b0) (adr b2)) h fun _ h'=>Z h0 h' (OV b2 b1 b0 bm s root cap r e++L)) ∧
   (∀ (n:Nat) (a:Int) (sl:Sl) (xs:List Int) (i:Nat) (ms r:List Bool) (h:AHeap) (L:List Own),k≤n→visL k N (xs.drop i) ms=some r→IL h0 sl xs→i≤xs.length→xs.length≤B→Z h0 h (OV b2 b1 b0 bm s root cap ms e++L) →
    Wp (graph_reached_1_L0 n a (adr b0) (adr b2) sl (sl.len:Int) (i:Int)) h fun _ h'=>Z h0 h' (OV b2 b1 b0 bm s root cap r e++L)) ∧
   (∀ (n:Nat) (sl:Sl) (xs:List Int) (i:Nat) (ms r:List Bool) (h:AHeap) (L:List Own),k≤n→visL k N (xs.drop i) ms=some r→IL h0 sl xs→i≤xs.length→xs.length≤B→Z h0 h (OV b2 b1 b0 bm s root cap ms e++L) →
    Wp (graph_reached_1_L1 n (adr b2) sl (sl.len:Int) (i:Int)) h fun _ h'=>Z h0 h' (OV b2 b1 b0 bm s root cap r e++L)):=by
 intro k
 induction k with
 | zero=>exact⟨fun n a ms r h L _ hv=>by simp [vis] at hv,fun n a sl xs i ms r h L _ hv=>by simp [visL] at hv,fun n sl xs i ms r h L _ hv=>by simp [visL] at hv⟩
 | succ k ih =>
  obtain⟨ih1,ih2,ih3⟩:=ih
  refine⟨fun n a ms r h L hn hv z=>?_,fun n a sl xs i ms r h L hn hv il hi hxB z=>?_,fun n sl xs i ms r h L hn hv il hi hxB z=>?_⟩
  ·obtain⟨n,rfl⟩:∃ m,n=m+1:=⟨n - 1,by omega⟩
   rw [graph_reached_1_succ]
   unfold graph_reached_1_B
   rw [vis] at hv
   have ix:∀ {b:Bool} {f:Addr→M Unit} {h:AHeap} {ms:List Bool} {Q:Unit→AHeap→Prop},gt ms a=some b→Z h0 h (OV b2 b1 b0 bm s root cap ms e++L)→Wp (f ⟨bm,a.toNat * 1,none⟩) h Q→Wp (M.bind (idxA ⟨some ⟨bm,0,none⟩,ms.length,cap⟩ a 1) f) h Q:=by
    intro b f h ms Q hg z q
    obtain⟨g1,g2⟩:=gt_some hg
    exact ixB g1 (by have:=(List.getElem?_eq_some_iff.1 g2).1;omega) q
   have mt:∀ {b:Bool} {ms:List Bool},gt ms a=some b→(ms.map Value.bool)[a.toNat * 1]?=some (.bool b):=by
    intro b ms hg
    rw [Nat.mul_one,List.getElem?_map,(gt_some hg).2];rfl
   refine z.ld 1 (o:=0) (l:=.sl) ?_
   cases hg:gt ms a with
   | none=>rw [hg] at hv;cases hv
   | some b =>
    refine ix hg z ?_
    refine z.ld 3 (l:=.bool) (x:=b) ?_ rfl (mt hg) rfl
    rw [hg] at hv
    cases b with
    | true=>cases hv;rw [if_pos rfl,Wp_pure];exact z
    | false =>
     simp only at hv
     rw [if_neg (by simp)]
     refine z.ld 1 (o:=0) (l:=.sl) ?_
     refine ix hg z ?_
     have hlt:a.toNat<ms.length:=(List.getElem?_eq_some_iff.1 (gt_some hg).2).1
     rw [Nat.mul_one]
     refine z.stA 3 (enc:=Value.bool) (v:=true) hlt fun h1 z=>?_
     have z:Z h0 h1 (OV b2 b1 b0 bm s root cap (ms.set a.toNat true) e++L):=by
      have:OV b2 b1 b0 bm s root cap (ms.set a.toNat true) e++L=(OV b2 b1 b0 bm s root cap ms e++L).set 3 (.blk bm ((ms.set a.toNat true).map .bool) e):=by
       simp [OV]
      rw [this];exact z
     cases hx:gt N a with
     | none=>rw [hx] at hv;cases hv
     | some x =>
      rw [hx] at hv
      simp only at hv
      obtain⟨x1,x2⟩:=gt_some hx
      have hb:=hB.2.2 x (List.mem_of_getElem? x2)
      cases hv1:visL k N x.keys (ms.set a.toNat true) with
      | none=>rw [hv1] at hv;cases hv
      | some m2 =>
       rw [hv1] at hv
       simp only at hv
       refine z.ld 2 (o:=0) (l:=.sl) ?_
       refine G.at z x1 x2 fun a1 ks is nd ik ii=>nd.ldks ?_
       rw [Wp_bind]
       refine (ih2 n a ks x.keys 0 _ m2 _ L (by omega) hv1 ik (by omega) hb.1 z).mono fun _ h2 z=>?_
       refine z.ld 2 (o:=0) (l:=.sl) ?_
       refine G.at z x1 x2 fun a2 ks2 is2 nd2 ik2 ii2=>nd2.ldis ?_
       rw [Wp_bind]
       refine (ih3 n is2 x.items 0 _ r _ L (by omega) hv ii2 (by omega) hb.2 z).mono fun _ h3 z=>?_
       rw [Wp_pure];exact z
  ·obtain⟨n,rfl⟩:∃ m,n=m+1:=⟨n - 1,by omega⟩
   rw [graph_reached_1_L0_succ]
   unfold graph_reached_1_L0_B
   rw [il.len]
   by_cases hi2:i<xs.length
   ·rw [if_pos (by simp;omega)]
    obtain⟨x,hx⟩:=getI hi2
    rw [drop_cons hx,visL] at hv
    cases hv1:vis k N x ms with
    | none=>rw [hv1] at hv;cases hv
    | some m2 =>
     rw [hv1] at hv
     simp only at hv
     refine (il.fr z.fr).ix (by omega) (by simpa using hx) fun a1 g c=>c.ld0 (l:=li) rfl rfl ?_
     refine z.ld 0 (o:=0) (l:=.raw) ?_
     unfold graph_reached_1_D27_B
     rw [Wp_bind,if_pos (by rfl),Wp_bind]
     refine Wp_asFn (c:=(adr b1,adr b0,adr b2)) rfl ?_
     refine (ih1 n x ms m2 h L (by omega) hv1 z).mono fun _ h2 z=>?_
     rw [up1 hi (by have:=hB.2.1;omega)]
     have:=ih2 n a sl xs (i+1) m2 r h2 L (by omega) hv il (by omega) hxB z
     rwa [il.len] at this
   ·rw [if_neg (by simp;omega),Wp_pure]
    have:xs.drop i=[]:=List.drop_eq_nil_of_le (by omega)
    rw [this,visL] at hv
    cases hv;exact z
  ·obtain⟨n,rfl⟩:∃ m,n=m+1:=⟨n - 1,by omega⟩
   rw [graph_reached_1_L1_succ]
   unfold graph_reached_1_L1_B
   rw [il.len]
   by_cases hi2:i<xs.length
   ·rw [if_pos (by simp;omega)]
    obtain⟨x,hx⟩:=getI hi2
    rw [drop_cons hx,visL] at hv
    cases hv1:vis k N x ms with
    | none=>rw [hv1] at hv;cases hv
    | some m2 =>
     rw [hv1] at hv
     simp only at hv
     refine (il.fr z.fr).ix (by omega) (by simpa using hx) fun a1 g c=>c.ld0 (l:=li) rfl rfl ?_
     refine z.ld 0 (o:=0) (l:=.raw) ?_
     unfold graph_reached_1_D42_B
     rw [Wp_bind,if_pos (by rfl),Wp_bind]
     refine Wp_asFn (c:=(adr b1,adr b0,adr b2)) rfl ?_
     refine (ih1 n x ms m2 h L (by omega) hv1 z).mono fun _ h2 z=>?_
     rw [up1 hi (by have:=hB.2.1;omega)]
     have:=ih3 n sl xs (i+1) m2 r h2 L (by omega) hv il (by omega) hxB z
     rwa [il.len] at this
   ·rw [if_neg (by simp;omega),Wp_pure]
    have:xs.drop i=[]:=List.drop_eq_nil_of_le (by omega)
    rw [this,visL] at hv
    cases hv;exact z
theorem reached_wp {s:Sl}{root from':Int}{N:List NodeV}{bm cap:Nat}{ms r:List Bool}{e:TypeId}(z:Z h0 h (.blk bm (ms.map .bool) e::L))(G:GrR h0 s N){B:Nat}(hB:Bd N B){k n:Nat}(hv:vis k N from' ms=some r)(hn:k≤n) :
  Wp (graph_reached n (s,root) from' ⟨some ⟨bm,0,none⟩,ms.length,cap⟩) h fun _ h'=>Z h0 h' (.blk bm (r.map .bool) e::L):=by
 unfold graph_reached
 refine z.new fun b0 h1 z _=>z.new (fun b1 h2 z _=>z.new (fun b2 h3 z _=>z.st 0 fun h4 z=>?_))
 refine z.ld 0 (o:=0) (l:=.raw) ?_
 unfold graph_reached_D8
 rw [Wp_bind,if_pos (by rfl),Wp_bind]
 refine Wp_asFn (c:=(adr b1,adr b0,adr b2)) rfl ?_
 have z:Z h0 h4 (OV b2 b1 b0 bm s root cap ms e++L):=z.perm (by
  show List.Perm (_::_::_::_::L) (_::_::_::_::L)
  exact List.Perm.refl _)
 refine ((vis_wp G hB k).1 n from' ms r h4 L hn hv z).mono fun _ h5 z=>?_
 rw [Wp_pure]
 exact z.drop.drop.drop
end Go.Sh
