
import Derived.Test.YtlbigfjnapgioaaGreatDoorGmPa
set_option linter.all false
namespace Go.Ago
open Go
variable {α β : Type} {h h' h0 : AHeap} {L : List Own}
theorem Z.appO (z : Z h0 h L) (i : Nat) {st : Bool} {s : Sl} {sz n : Nat} {e : TypeId} {cs new : List Value} {g : Nat} {f : Sl → M β} {Q : β → AHeap → Prop} (hi : L[i]? = some (.sl s sz e cs g)) (hn : n ≠ 0) (hl : new.length = n * sz) (hb : s.len + n ≤ bigN)
  (q : ∀ s' h' g',s'.len = s.len + n → Z h0 h' (L.set i (.sl s' sz e (cs ++ new) g')) → Fr (· = g) h h' → Wp (f s') h' Q) : Wp (M.bind (Ago.app st s sz e n new) f) h Q:=by
 rw [Wp_bind]
 have o : OSl h s sz e cs g:=z.get i hi
 refine o.app z.wf hn hl hb fun s' h' g' h1 hcap h2 h3 h4=>q s' h' g' h1 ?_ h4
 by_cases hg : g = 0
 ·have h3:=h3.resolve_left (fun x=>x.2 hg)
  have f0 : Fr (fun _=>False) h h':=⟨h4.wf,h4.next,fun j c g2 b e2 hj _=>h4.cells j c g2 b e2 hj fun e3=>by rw [e3,hg],fun g2 h5 _=>h4.tip g2 h5 fun e3=>by rw [e3,hg],h4.used,h4.none,fun j x hj _=>h4.maps j x hj (by omega)⟩
  have z1:=z.add f0 (o:=.sl s' sz e (cs ++ new) g') h2 (.inr (by simp only [Own.grp];omega))
  refine ⟨z1.wf0,z1.fr,fun x hx=>z1.own x ?_,pw_set grp_sym (List.pairwise_cons.1 z1.dist).2 fun j y hj hne e2=>(List.pairwise_cons.1 z1.dist).1 y (List.mem_of_getElem? hj) e2⟩
  rcases List.mem_or_eq_of_mem_set hx with hx | rfl
  ·exact List.mem_cons_of_mem _ hx
  ·exact List.mem_cons_self
 ·refine z.upd (o:=.sl s sz e cs g) hi hg h4 h2 ?_
  rcases h3 with h3 | h3
  ·exact .inl h3.1
  ·exact .inr (.inr (by simp only [Own.grp];omega))
theorem Z.mset (z : Z h0 h L) (i : Nat) {m : Nat} {kt : TypeId} {fn : Value → Option Value} {n : Nat} {k v : Value} {f : Unit → M β} {Q : β → AHeap → Prop} (hi : L[i]? = some (.map m kt fn n))
  (q : ∀ h' n',Z h0 h' (L.set i (.map m kt (mupd fn k v) n')) → Wp (f ()) h' Q) : Wp (M.bind (mpSet kt (some m) k v) f) h Q:=by
 rw [Wp_bind]
 exact MB.sets (z.get i hi) z.wf fun h' l fr=>q h' _ (z.upd (o:=.map m kt fn n) hi (by simp [Own.grp]) fr l (.inl rfl))
end Go.Ago
namespace Go.Sh
open Go Go.Ago Go.Proofs
variable {α β : Type} {h h' h0 : AHeap} {L : List Own} {Q : β → AHeap → Prop}
def SR (h : AHeap) (s : Sl) (S : List SpanV) : Prop:=∃ g,RSl h s 9 (S.flatMap SpanV.enc) g
def Sp1 (h : AHeap) (a : Addr) (x : SpanV) : Prop:=∃ g,Cl h a x.enc g
theorem SR.fr {s : Sl} {S : List SpanV} (r : SR h s S) (f : Fr (fun _=>False) h h') : SR h' s S:=let ⟨g,r⟩:=r;⟨g,r.fr f fun hx=>hx.elim⟩
theorem SR.len {s : Sl} {S : List SpanV} (r : SR h s S) : s.len = S.length:=by
 obtain ⟨g,r⟩:=r
 have:=r.1
 rw [flat_length SpanV.enc_len] at this;omega
theorem SR.at {s : Sl} {S : List SpanV} (r : SR h0 s S) (z : Z h0 h L) {k : Int} {x : SpanV} (hx : gt S k = some x) {f : Addr → M β} (q : ∀ a,Sp1 h a x → Wp (f a) h Q) : Wp (M.bind (idxA s k 9) f) h Q:=by
 have hl:=(r.fr z.fr).len
 obtain ⟨g,r⟩:=r.fr z.fr
 obtain ⟨h1,h2⟩:=gt_some hx
 have hlt:=lt_of_get h2
 exact r.ixN SpanV.enc_len h1 (by omega) h2 fun a c=>q a ⟨g,c⟩
theorem Sp1.ld {a : Addr} {x : SpanV} (c : Sp1 h a x) (o : Nat) {v : Value} {l : Leaf} {y : l.den} {f : l.den → M β} (q : Wp (f y) h Q) (hv : x.enc[o]? = some v:=by rfl) (hx : unL l v = some y:=by rfl) : Wp (M.bind (ldL l (a.plus o)) f) h Q :=
 let ⟨_,c⟩:=c
 c.ld hv hx q
theorem Sp1.lds {a : Addr} {x : SpanV} (c : Sp1 h a x) {f : Int × Int × Int × Int × Int × Int × Int × Bool × Bool → M β} (q : Wp (f (x.node,x.parent,x.entry,x.frm,x.to,x.kf,x.kt,x.alias,x.whole)) h Q) :
  Wp (M.bind (ldLs [li,li,li,li,li,li,li,.bool,.bool] a) f) h Q :=
 let ⟨_,c⟩:=c
 c.lds (ls:=[li,li,li,li,li,li,li,.bool,.bool]) (x:=(x.node,x.parent,x.entry,x.frm,x.to,x.kf,x.kt,x.alias,x.whole)) rfl q
theorem _root_.Go.Ago.Z.span (z : Z h0 h L) {x : SpanV} {f : Nat → M β} (q : ∀ b h',Z h0 h' (.blk b x.enc T_api_Span :: L) → Wp (f b) h' Q) :
  Wp (M.bind (newB none T_api_Span [vi 0,vi 0,vi 0,vi 0,vi 0,vi 0,vi 0,Value.bool false,Value.bool false]) fun b=>M.bind (stN (adr b) [vi x.node,vi x.parent,vi x.entry,vi x.frm,vi x.to,vi x.kf,vi x.kt,Value.bool x.alias,Value.bool x.whole]) fun _=>f b) h Q:=by
 refine z.new fun b h1 z1 _=>z1.st 0 fun h2 z2=>q b h2 z2
structure CE where
 key : Int
 s : Sl
 g : Nat
 xs : List Int
def CE.own (e : CE) : Own:=.sl e.s 1 T_i64 (e.xs.map vi) e.g
theorem veq_vi (k k' : Int) : veq (vi k) (vi k') = decide (k = k'):=by
 show (eqK .i64 .i64 && decide (k = k')) = _
 rw [show eqK .i64 .i64 = true from rfl];simp
def ck : List CE → Int → Option (Nat × CE)
 | [],_=>none
 | e :: r,k=>if k = e.key then some (0,e) else (ck r k).map fun p=>(p.1 + 1,p.2)
theorem ck_some : ∀ {E : List CE} {k : Int} {i : Nat} {e : CE},ck E k = some (i,e) → E[i]? = some e∧k = e.key
 | [],k,i,e,hl=>by cases hl
 | x :: r,k,i,e,hl=>by
  rw [ck] at hl
  split at hl
  ·rename_i hc;cases hl;exact ⟨rfl,hc⟩
  ·cases hr : ck r k with
   | none=>rw [hr] at hl;cases hl
   | some p =>
    rw [hr] at hl;cases hl
    have:=ck_some (i:=p.1) (e:=p.2) hr
    exact ⟨by simpa using this.1,this.2⟩
theorem ck_set : ∀ {E : List CE} {k : Int} {i : Nat} {e e' : CE},ck E k = some (i,e) → e'.key = k → ∀ k',ck (E.set i e') k' = if k' = k then some (i,e') else ck E k'
 | [],k,i,e,e',hl,_=>by cases hl
 | x :: r,k,i,e,e',hl,h1=>by
  intro k'
  rw [ck] at hl
  split at hl
  ·rename_i hc
   cases hl
   rw [List.set_cons_zero,ck,h1]
   split
   ·rfl
   ·rename_i hn;rw [ck,if_neg (by rw [← hc];exact hn)]
  ·rename_i hc
   cases hr : ck r k with
   | none=>rw [hr] at hl;cases hl
   | some p =>
    rw [hr] at hl;cases hl
    rw [List.set_cons_succ,ck,ck_set (i:=p.1) (e:=p.2) hr h1 k',ck]
    by_cases hx : k' = x.key
    ·rw [if_pos hx,if_pos hx,if_neg]
     intro hy;exact hc (by rw [← hy,hx])
    ·rw [if_neg hx,if_neg hx]
     split <;> rfl
structure MmI (E : List CE) (c : Int → List Int) (f : Value → Option Value) : Prop where
 f : ∀ k,f (vi k) = (ck E k).map fun p=>vsl p.2.s
 nn : ∀ k,ck E k = none → c k = []
 ss : ∀ k i e,ck E k = some (i,e) → e.xs = c k
theorem MmI.nil : MmI [] (fun _=>[]) fun _=>none:=⟨fun _=>rfl,fun _ _=>rfl,fun _ _ _ hl=>by cases hl⟩
theorem MmI.congr {E : List CE} {c c' : Int → List Int} {f : Value → Option Value} (I : MmI E c f) (hc : ∀ k,c' k = c k) : MmI E c' f:=⟨I.f,fun k h=>by rw [hc];exact I.nn k h,fun k i e h=>by rw [hc];exact I.ss k i e h⟩
theorem MmI.upd {E : List CE} {c : Int → List Int} {f : Value → Option Value} (I : MmI E c f) {p x : Int} {i : Nat} {e : CE} (hl : ck E p = some (i,e)) (s : Sl) (g : Nat) :
  MmI (E.set i ⟨p,s,g,e.xs ++ [x]⟩) (fun k=>if k = p then c k ++ [x] else c k) (mupd f (vi p) (vsl s)):=by
 have hs:=ck_set (e':=⟨p,s,g,e.xs ++ [x]⟩) hl rfl
 refine ⟨fun k=>?_,fun k h1=>?_,fun k j e2 h1=>?_⟩
 ·rw [hs,mupd,veq_vi]
  by_cases hk : k = p
  ·rw [if_pos hk,if_pos (by simpa using hk)];rfl
  ·rw [if_neg hk,if_neg (by simpa using hk)];exact I.f k
 ·rw [hs] at h1
  split at h1
  ·cases h1
  ·rename_i hc;simp only [if_neg hc];exact I.nn k h1
 ·rw [hs] at h1
  split at h1
  ·rename_i hc;cases h1
   simp only [if_pos hc]
   rw [hc,← I.ss _ _ _ hl]
  ·rename_i hc;simp only [if_neg hc];exact I.ss k j e2 h1
theorem MmI.add {E : List CE} {c : Int → List Int} {f : Value → Option Value} (I : MmI E c f) {p x : Int} (hl : ck E p = none) (s : Sl) (g : Nat) :
  MmI (⟨p,s,g,[x]⟩ :: E) (fun k=>if k = p then c k ++ [x] else c k) (mupd f (vi p) (vsl s)):=by
 refine ⟨fun k=>?_,fun k h1=>?_,fun k j e2 h1=>?_⟩
 ·rw [mupd,veq_vi,ck]
  by_cases hk : k = p
  ·rw [if_pos hk,if_pos (by simpa using hk)];rfl
  ·rw [if_neg hk,if_neg (by simpa using hk),I.f,Option.map_map];rfl
 ·rw [ck] at h1
  split at h1
  ·cases h1
  ·rename_i hc
   simp only [Option.map_eq_none_iff] at h1
   simp only [if_neg hc];exact I.nn k h1
 ·rw [ck] at h1
  split at h1
  ·rename_i hc;cases h1
   simp only at hc
   simp only [if_pos hc]
   rw [hc,I.nn _ hl];rfl
  ·rename_i hc
   cases hr : ck E k with
   | none=>rw [hr] at h1;cases h1
   | some q =>
    rw [hr] at h1;cases h1
    simp only [if_neg hc]
    exact I.ss k q.1 q.2 hr
def MmO (M : List Own) (m : Nat) (c : Int → List Int) : Prop:=∃ f n,Own.map m T_i64 f n ∈ M∧∀ p,(f (vi p) = none∧c p = []) ∨ ∃ s g,f (vi p) = some (vsl s)∧Own.sl s 1 T_i64 ((c p).map vi) g ∈ M
theorem MmI.o {E : List CE} {c : Int → List Int} {f : Value → Option Value} (I : MmI E c f) {m n : Nat} : MmO (.map m T_i64 f n :: E.map CE.own) m c:=by
 refine ⟨f,n,by simp,fun p=>?_⟩
 cases hk : ck E p with
 | none=>exact .inl ⟨by rw [I.f,hk];rfl,I.nn p hk⟩
 | some q =>
  obtain ⟨i,e⟩:=q
  refine .inr ⟨e.s,e.g,by rw [I.f,hk];rfl,List.mem_cons_of_mem _ (List.mem_map.2 ⟨e,List.mem_of_getElem? (ck_some hk).1,?_⟩)⟩
  unfold CE.own
  rw [I.ss p i e hk]
theorem _root_.Go.Ago.Z.mmget {P' MM : List Own} (z : Z h0 h (P' ++ MM)) {m : Nat} {c : Int → List Int} (hM : MmO MM m c) {p : Int} {f : Bool × Sl → M β} (q : ∀ b s,(∀ {h' : AHeap} {P2 : List Own},Z h0 h' (P2 ++ MM) → IL h' s (c p)) → Wp (f (b,s)) h Q) :
  Wp (M.bind (mpGet T_i64 (Ty.one .sl) sl0 (some m) (vi p)) f) h Q:=by
 obtain ⟨fn,n,h1,h2⟩:=hM
 have l : MB h m T_i64 fn n:=(z.own _ (List.mem_append_right _ h1)).1
 rw [Wp_bind]
 refine MB.gets l (fun v hv=>?_) fun hn=>?_
 ·rcases h2 p with ⟨e,_⟩ | ⟨s,g,e,hm⟩
  ·rw [e] at hv;cases hv
  ·rw [e] at hv;cases hv
   exact ⟨s,rfl,q true s fun z'=>⟨g,OSl.rsl (z'.own _ (List.mem_append_right _ hm)).1⟩⟩
 ·rcases h2 p with ⟨_,e⟩ | ⟨s,g,e,hm⟩
  ·exact q false sl0 fun _=>⟨0,by rw [e];exact RSl.nil rfl⟩
  ·rw [e] at hn;cases hn
def chl : Nat → List SpanV → Int → List Int
 | _,[],_=>[]
 | i,x :: xs,p=>if x.parent = p then (i : Int) :: chl (i + 1) xs p else chl (i + 1) xs p
theorem chl_append (p : Int) : ∀ (A B : List SpanV) (i : Nat),chl i (A ++ B) p = chl i A p ++ chl (i + A.length) B p
 | [],B,i=>by simp [chl]
 | x :: A,B,i=>by
  rw [List.cons_append,chl,chl,chl_append p A B (i + 1),List.length_cons,show i + 1 + A.length = i + (A.length + 1) by omega]
  split <;> simp
theorem chl_take {S : List SpanV} {i : Nat} {x : SpanV} (hx : S[i]? = some x) (p : Int) : chl 0 (S.take (i + 1)) p = if p = x.parent then chl 0 (S.take i) p ++ [(i : Int)] else chl 0 (S.take i) p:=by
 have hlt:=lt_of_get hx
 rw [List.take_add_one,hx,chl_append,Nat.zero_add,List.length_take,Nat.min_eq_left (by omega)]
 show _ ++ chl i [x] p = _
 simp only [chl]
 by_cases hp : x.parent = p
 ·rw [if_pos hp,if_pos hp.symm]
 ·rw [if_neg hp,if_neg (fun e=>hp e.symm),List.append_nil]
theorem chl_len (p : Int) : ∀ (S : List SpanV) (i : Nat),(chl i S p).length ≤ S.length
 | [],i=>Nat.le_refl _
 | x :: S,i=>by
  have:=chl_len p S (i + 1)
  rw [chl];split
  ·simp only [List.length_cons];omega
  ·simp only [List.length_cons];omega
theorem children_L0 {s : Sl} {S : List SpanV} (R : SR h0 s S) {B : Nat} (hB : S.length ≤ B) (hB2 : B < 1073741824) {m : Nat} :
  ∀ (n i : Nat) (h : AHeap) (E : List CE) (f : Value → Option Value) (c : Nat) (L : List Own),S.length - i < n → i ≤ S.length → MmI E (chl 0 (S.take i)) f → Z h0 h (.map m T_i64 f c :: (E.map CE.own ++ L)) →
   Wp (span_children_L0 n (some m) s (s.len : Int) (i : Int)) h fun _ h'=>∃ f c E,MmI E (chl 0 S) f∧Z h0 h' (.map m T_i64 f c :: (E.map CE.own ++ L)):=by
 intro n
 induction n with
 | zero=>intro i h E f c L h1;omega
 | succ n ih =>
  intro i h E f c L h1 h2 I z
  rw [span_children_L0_succ]
  unfold span_children_L0_B
  rw [R.len]
  by_cases hi : i < S.length
  ·rw [if_pos (by simp;omega)]
   obtain ⟨x,hx⟩:=getI hi
   refine R.at z (k:=(i : Int)) (by unfold gt;rw [if_pos (by omega)];simpa using hx) fun a c1=>c1.lds ?_
   refine z.span fun b h2' z=>?_
   refine z.ld 0 (o:=1) (l:=li) ?_
   refine z.ld 0 (o:=1) (l:=li) ?_
   have z:=z.drop
   have hfk:=I.f x.parent
   have nxt : ∀ {E' : List CE} {f' : Value → Option Value} {c' : Nat} {h' : AHeap},MmI E' (chl 0 (S.take (i + 1))) f' → Z h0 h' (.map m T_i64 f' c' :: (E'.map CE.own ++ L)) →
     Wp (span_children_L0 n (some m) s (S.length : Int) (IntKind.i64.wrap ((i : Int) + 1))) h' fun _ h'=>∃ f c E,MmI E (chl 0 S) f∧Z h0 h' (.map m T_i64 f c :: (E.map CE.own ++ L)):=by
    intro E' f' c' h' I z
    rw [up1 h2 (by omega)]
    have:=ih (i + 1) h' E' f' c' L (by omega) (by omega) I z
    rwa [R.len] at this
   have hcg : ∀ k,chl 0 (S.take (i + 1)) k = if k = x.parent then chl 0 (S.take i) k ++ [(i : Int)] else chl 0 (S.take i) k:=fun k=>chl_take hx k
   cases hk : ck E x.parent with
   | none =>
    rw [hk] at hfk
    refine z.mget 0 (k:=vi x.parent) rfl (fun v hv=>by rw [hfk] at hv;cases hv) fun _=>?_
    have z:=z.add (Fr.refl z.wf) (o:=.sl ⟨none,0,0⟩ 1 T_i64 [] 0) OSl.nil (.inl rfl)
    refine z.appO 0 (new:=[vi (i : Int)]) rfl (by decide) rfl (by show 0 + 1 ≤ bigN;decide) fun s' h8 g' hs' z fr=>?_
    refine z.mset 1 rfl fun h9 n9 z=>?_
    have I':=(I.add hk s' g' (x:=(i : Int))).congr hcg
    refine nxt I' (c':=n9) (z.perm ?_)
    exact List.Perm.swap _ _ _
   | some q =>
    obtain ⟨j,e⟩:=q
    rw [hk] at hfk
    obtain ⟨e1,e2⟩:=ck_some hk
    have hjlt:=lt_of_get e1
    have hown : (.map m T_i64 f c :: (E.map CE.own ++ L) : List Own)[j + 1]? = some (.sl e.s 1 T_i64 (e.xs.map vi) e.g):=by
     simp only [List.getElem?_cons_succ]
     rw [List.getElem?_append_left (by simpa using hjlt),List.getElem?_map,e1];rfl
    have hlen : e.s.len = e.xs.length:=(OSl.rsl (z.get (j + 1) hown)).len1
    have hxl : e.xs.length ≤ i:=by
     rw [I.ss _ _ _ hk]
     have:=chl_len x.parent (S.take i) 0
     rw [List.length_take] at this;omega
    refine z.mget 0 (k:=vi x.parent) rfl (fun v hv=>?_) fun hv=>by rw [hfk] at hv;cases hv
    rw [hfk] at hv;cases hv
    refine ⟨e.s,rfl,?_⟩
    refine z.appO (j + 1) (new:=[vi (i : Int)]) hown (by decide) rfl (by show e.s.len + 1 ≤ bigN;unfold bigN;omega) fun s' h8 g' hs' z fr=>?_
    refine z.mset 0 (m:=m) (kt:=T_i64) (fn:=f) (n:=c) rfl fun h9 n9 z=>?_
    have I':=(I.upd hk s' g' (x:=(i : Int))).congr hcg
    refine nxt I' (c':=n9) (z.perm (List.Perm.of_eq ?_))
    show Own.map m _ _ _ :: ((E.map CE.own ++ L).set j _) = _
    rw [List.set_append_left _ _ (by simpa using hjlt),List.map_set]
    congr 3
    simp [CE.own]
  ·rw [if_neg (by simp;omega),Wp_pure]
   have : S.take i = S:=List.take_of_length_le (by omega)
   rw [this] at I
   exact ⟨f,c,E,I,z⟩
theorem children_wp {d1 : Int} {src : ByteArray} {nsl ssl tsl : Sl} {root : Int} {S : List SpanV} (z : Z h0 h L) (R : SR h0 ssl S) {B : Nat} (hB : S.length ≤ B) (hB2 : B < 1073741824) {n : Nat} (hn : B + 1 < n) :
  Wp (span_children n (d1,src,nsl,root,ssl,tsl)) h fun r h'=>∃ m M,r = some m∧MmO M m (chl 0 S)∧Z h0 h' (M ++ L):=by
 unfold span_children
 refine z.new fun x0 h1 z _=>z.mnew fun m h2 z=>?_
 refine z.ld 1 (o:=4) (l:=.sl) (x:=ssl) ?_
 rw [Wp_bind]
 refine (children_L0 R hB hB2 (m:=m) n 0 h2 [] _ 0 (.blk x0 [vi d1,.string src,vsl nsl,vi root,vsl ssl,vsl tsl] T_api_Doc :: L) (by omega) (by omega) MmI.nil z).mono fun _ h3 hx=>?_
 obtain ⟨f,c,E,I,z⟩:=hx
 rw [Wp_pure]
 refine ⟨m,_,rfl,I.o (n:=c),z.sub ?_⟩
 exact List.Sublist.cons₂ _ ((List.Sublist.refl _).append (List.sublist_cons_self _ _))
end Go.Sh
