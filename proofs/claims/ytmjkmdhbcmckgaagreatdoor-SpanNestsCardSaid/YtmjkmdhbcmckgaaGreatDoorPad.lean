
import Derived.Test.YtmjkmdhbcmckgaaGreatDoorPac
set_option linter.all false
namespace Go.Ago
open Go
variable {α β:Type}{h h' h0:AHeap}{L:List Own}
theorem Z.appO (z:Z h0 h L)(i:Nat){st:Bool}{s:Sl}{sz n:Nat}{e:TypeId}{cs new:List Value}{g:Nat}{f:Sl→M β}{Q:β→AHeap→Prop}(hi:L[i]?=some (.sl s sz e cs g))(hn:n≠0)(hl:new.length=n * sz)(hb:s.len+n≤bigN)
  (q:∀ s' h' g',s'.len=s.len+n→Z h0 h' (L.set i (.sl s' sz e (cs++new) g'))→Fr (·=g) h h'→Wp (f s') h' Q):Wp (M.bind (Ago.app st s sz e n new) f) h Q:=by
 rw [Wp_bind]
 have o:OSl h s sz e cs g:=z.get i hi
 refine o.app z.wf hn hl hb fun s' h' g' h1 hcap h2 h3 h4=>q s' h' g' h1 ?_ h4
 by_cases hg:g=0
 ·have h3:=h3.resolve_left (fun x=>x.2 hg)
  have f0:Fr (fun _=>False) h h':=⟨h4.wf,h4.next,fun j c g2 b e2 hj _=>h4.cells j c g2 b e2 hj fun e3=>by rw [e3,hg],fun g2 h5 _=>h4.tip g2 h5 fun e3=>by rw [e3,hg],h4.used,h4.none,fun j x hj _=>h4.maps j x hj (by omega)⟩
  have z1:=z.add f0 (o:=.sl s' sz e (cs++new) g') h2 (.inr (by simp only [Own.grp];omega))
  refine⟨z1.wf0,z1.fr,fun x hx=>z1.own x ?_,pw_set grp_sym (List.pairwise_cons.1 z1.dist).2 fun j y hj hne e2=>(List.pairwise_cons.1 z1.dist).1 y (List.mem_of_getElem? hj) e2⟩
  rcases List.mem_or_eq_of_mem_set hx with hx | rfl
  ·exact List.mem_cons_of_mem _ hx
  ·exact List.mem_cons_self
 ·refine z.upd (o:=.sl s sz e cs g) hi hg h4 h2 ?_
  rcases h3 with h3 | h3
  ·exact .inl h3.1
  ·exact .inr (.inr (by simp only [Own.grp];omega))
theorem Z.mset (z:Z h0 h L)(i:Nat){m:Nat}{kt:TypeId}{fn:Value→Option Value}{n:Nat}{k v:Value}{f:Unit→M β}{Q:β→AHeap→Prop}(hi:L[i]?=some (.map m kt fn n))
  (q:∀ h' n',Z h0 h' (L.set i (.map m kt (mupd fn k v) n'))→Wp (f ()) h' Q):Wp (M.bind (mpSet kt (some m) k v) f) h Q:=by
 rw [Wp_bind]
 exact MB.sets (z.get i hi) z.wf fun h' l fr=>q h' _ (z.upd (o:=.map m kt fn n) hi (by simp [Own.grp]) fr l (.inl rfl))
end Go.Ago
namespace Go.Sh
open Go Go.Ago Go.Proofs
variable {α β:Type}{h h' h0:AHeap}{L:List Own}{Q:β→AHeap→Prop}
def SR (h:AHeap)(s:Sl)(S:List SpanV):Prop:=∃ g,RSl h s 9 (S.flatMap SpanV.enc) g
def Sp1 (h:AHeap)(a:Addr)(x:SpanV):Prop:=∃ g,Cl h a x.enc g
theorem SR.fr {s:Sl}{S:List SpanV}(r:SR h s S)(f:Fr (fun _=>False) h h'):SR h' s S:=let ⟨g,r⟩:=r;⟨g,r.fr f fun hx=>hx.elim⟩
theorem SR.len {s:Sl}{S:List SpanV}(r:SR h s S):s.len=S.length:=by
 obtain⟨g,r⟩:=r
 have:=r.1
 rw [flat_length SpanV.enc_len] at this;omega
theorem SR.at {s:Sl}{S:List SpanV}(r:SR h0 s S)(z:Z h0 h L){k:Int}{x:SpanV}(hx:gt S k=some x){f:Addr→M β}(q:∀ a,Sp1 h a x→Wp (f a) h Q):Wp (M.bind (idxA s k 9) f) h Q:=by
 have hl:=(r.fr z.fr).len
 obtain⟨g,r⟩:=r.fr z.fr
 obtain⟨h1,h2⟩:=gt_some hx
 have hlt:=lt_of_get h2
 exact r.ixN SpanV.enc_len h1 (by omega) h2 fun a c=>q a ⟨g,c⟩
theorem Sp1.ld {a:Addr}{x:SpanV}(c:Sp1 h a x)(o:Nat){v:Value}{l:Leaf}{y:l.den}{f:l.den→M β}(q:Wp (f y) h Q)(hv:x.enc[o]?=some v:=by rfl)(hx:unL l v=some y:=by rfl):Wp (M.bind (ldL l (a.plus o)) f) h Q :=
 let ⟨_,c⟩:=c
 c.ld hv hx q
theorem Sp1.lds {a:Addr}{x:SpanV}(c:Sp1 h a x){f:Int×Int×Int×Int×Int×Int×Int×Bool×Bool→M β}(q:Wp (f (x.node,x.parent,x.entry,x.frm,x.to,x.kf,x.kt,x.alias,x.whole)) h Q) :
  Wp (M.bind (ldLs [li,li,li,li,li,li,li,.bool,.bool] a) f) h Q :=
 let ⟨_,c⟩:=c
 c.lds (ls:=[li,li,li,li,li,li,li,.bool,.bool]) (x:=(x.node,x.parent,x.entry,x.frm,x.to,x.kf,x.kt,x.alias,x.whole)) rfl q
theorem _root_.Go.Ago.Z.span (z:Z h0 h L){x:SpanV}{f:Nat→M β}(q:∀ b h',Z h0 h' (.blk b x.enc T_api_Span::L)→Wp (f b) h' Q) :
  Wp (M.bind (newB none T_api_Span [vi 0,vi 0,vi 0,vi 0,vi 0,vi 0,vi 0,Value.bool false,Value.bool false]) fun b=>M.bind (stN (adr b) [vi x.node,vi x.parent,vi x.entry,vi x.frm,vi x.to,vi x.kf,vi x.kt,Value.bool x.alias,Value.bool x.whole]) fun _=>f b) h Q:=by
 refine z.new fun b h1 z1 _=>z1.st 0 fun h2 z2=>q b h2 z2
structure CE where
 key:Int
 s:Sl
 g:Nat
 xs:List Int
def CE.own (e:CE):Own:=.sl e.s 1 T_i64 (e.xs.map vi) e.g
theorem veq_vi (k k':Int):veq (vi k) (vi k')=decide (k=k'):=by
 show (eqK .i64 .i64 && decide (k=k'))=_
 rw [show eqK .i64 .i64=true from rfl];simp
def ck:List CE→Int→Option (Nat×CE)
 | [],_=>none
 | e::r,k=>if k=e.key then some (0,e) else (ck r k).map fun p=>(p.1+1,p.2)
theorem ck_some:∀ {E:List CE} {k:Int} {i:Nat} {e:CE},ck E k=some (i,e)→E[i]?=some e∧k=e.key
 | [],k,i,e,hl=>by cases hl
 | x::r,k,i,e,hl=>by
  rw [ck] at hl
  split at hl
  ·rename_i hc;cases hl;exact⟨rfl,hc⟩
  ·cases hr:ck r k with
   | none=>rw [hr] at hl;cases hl
   | some p =>
    rw [hr] at hl;cases hl
    have:=ck_some (i:=p.1) (e:=p.2) hr
    exact⟨by simpa using this.1,this.2⟩
theorem ck_set:∀ {E:List CE} {k:Int} {i:Nat} {e e':CE},ck E k=some (i,e)→e'.key=k→∀ k',ck (E.set i e') k'=if k'=k then some (i,e') else ck E k'
 | [],k,i,e,e',hl,_=>by cases hl
 | x::r,k,i,e,e',hl,h1=>by
  intro k'
  rw [ck] at hl
  split at hl
  ·rename_i hc
   cases hl
   rw [List.set_cons_zero,ck,h1]
   split
   ·rfl
   ·rename_i hn;rw [ck,if_neg (by rw [← hc];exact hn)]
  ·rename_i hc
   cases hr:ck r k with
   | none=>rw [hr] at hl;cases hl
   | some p =>
    rw [hr] at hl;cases hl
    rw [List.set_cons_succ,ck,ck_set (i:=p.1) (e:=p.2) hr h1 k',ck]
    by_cases hx:k'=x.key
    ·rw [if_pos hx,if_pos hx,if_neg]
     intro hy;exact hc (by rw [← hy,hx])
    ·rw [if_neg hx,if_neg hx]
     split <;> rfl
structure MmI (E:List CE) (c:Int→List Int) (f:Value→Option Value):Prop where
 f:∀ k,f (vi k)=(ck E k).map fun p=>vsl p.2.s
 nn:∀ k,ck E k=none→c k=[]
 ss:∀ k i e,ck E k=some (i,e)→e.xs=c k
theorem MmI.nil:MmI [] (fun _=>[]) fun _=>none:=⟨fun _=>rfl,fun _ _=>rfl,fun _ _ _ hl=>by cases hl⟩
theorem MmI.congr {E:List CE}{c c':Int→List Int}{f:Value→Option Value}(I:MmI E c f)(hc:∀ k,c' k=c k):MmI E c' f:=⟨I.f,fun k h=>by rw [hc];exact I.nn k h,fun k i e h=>by rw [hc];exact I.ss k i e h⟩
theorem MmI.upd {E:List CE}{c:Int→List Int}{f:Value→Option Value}(I:MmI E c f){p x:Int}{i:Nat}{e:CE}(hl:ck E p=some (i,e))(s:Sl)(g:Nat) :
  MmI (E.set i ⟨p,s,g,e.xs++[x]⟩) (fun k=>if k=p then c k++[x] else c k) (mupd f (vi p) (vsl s)):=by
 have hs:=ck_set (e':=⟨p,s,g,e.xs++[x]⟩) hl rfl
 refine⟨fun k=>?_,fun k h1=>?_,fun k j e2 h1=>?_⟩
 ·rw [hs,mupd,veq_vi]
  by_cases hk:k=p
  ·rw [if_pos hk,if_pos (by simpa using hk)];rfl
  ·rw [if_neg hk,if_neg (by simpa using hk)];exact I.f k
 ·rw [hs] at h1
  split at h1
  ·cases h1
  ·rename_i hc;simp only [if_neg hc];exact I.nn k h1
 ·rw [hs] at h1
  split at h1
  ·rename_i hc;cases h1
   simp only [if_pos hc]
   rw [hc,← I.ss _ _ _ hl]
  ·rename_i hc;simp only [if_neg hc];exact I.ss k j e2 h1
theorem MmI.add {E:List CE}{c:Int→List Int}{f:Value→Option Value}(I:MmI E c f){p x:Int}(hl:ck E p=none)(s:Sl)(g:Nat) :
  MmI (⟨p,s,g,[x]⟩::E) (fun k=>if k=p then c k++[x] else c k) (mupd f (vi p) (vsl s)):=by
 refine⟨fun k=>?_,fun k h1=>?_,fun k j e2 h1=>?_⟩
 ·rw [mupd,veq_vi,ck]
  by_cases hk:k=p
  ·rw [if_pos hk,if_pos (by simpa using hk)];rfl
  ·rw [if_neg hk,if_neg (by simpa using hk),I.f,Option.map_map];rfl
 ·rw [ck] at h1
  split at h1
  ·cases h1
  ·rename_i hc
   simp only [Option.map_eq_none_iff] at h1
   simp only [if_neg hc];exact I.nn k h1
 ·rw [ck] at h1
  split at h1
  ·rename_i hc;cases h1
   simp only at hc
   simp only [if_pos hc]
   rw [hc,I.nn _ hl];rfl
  ·rename_i hc
   cases hr:ck E k with
   | none=>rw [hr] at h1;cases h1
   | some q =>
    rw [hr] at h1;cases h1
    simp only [if_neg hc]
    exact I.ss k q.1 q.2 hr
def MmO (M:List Own)(m:Nat)(c:Int→List Int):Prop:=∃ f n,Own.map m T_i64 f n ∈ M∧∀ p,(f (vi p)=none∧c p=[])∨∃ s g,f (vi p)=some (vsl s)∧Own.sl s 1 T_i64 ((c p).map vi) g ∈ M
theorem MmI.o {E:List CE}{c:Int→List Int}{f:Value→Option Value}(I:MmI E c f){m n:Nat}:MmO (.map m T_i64 f n::E.map CE.own) m c:=by
 refine⟨f,n,by simp,fun p=>?_⟩
 cases hk:ck E p with
 | none=>exact .inl ⟨by rw [I.f,hk];rfl,I.nn p hk⟩
 | some q =>
  obtain⟨i,e⟩:=q
  refine .inr ⟨e.s,e.g,by rw [I.f,hk];rfl,List.mem_cons_of_mem _ (List.mem_map.2 ⟨e,List.mem_of_getElem? (ck_some hk).1,?_⟩)⟩
  unfold CE.own
  rw [I.ss p i e hk]
theorem _root_.Go.Ago.Z.mmget {P' MM:List Own}(z:Z h0 h (P'++MM)){m:Nat}{c:Int→List Int}(hM:MmO MM m c){p:Int}{f:Bool×Sl→M β}(q:∀ b s,(∀ {h':AHeap} {P2:List Own},Z h0 h' (P2++MM)→IL h' s (c p))→Wp (f (b,s)) h Q) :
  Wp (M.bind (mpGet T_i64 (Ty.one .sl) sl0 (some m) (vi p)) f) h Q:=by
 obtain⟨fn,n,h1,h2⟩:=hM
 have l:MB h m T_i64 fn n:=(z.own _ (List.mem_append_right _ h1)).1
 rw [Wp_bind]
 refine MB.gets l (fun v hv=>?_) fun hn=>?_
 ·rcases h2 p with ⟨e,_⟩ | ⟨s,g,e,hm⟩
  ·rw [e] at hv;cases hv
  ·rw [e] at hv;cases hv
   exact⟨s,rfl,q true s fun z'=>⟨g,OSl.rsl (z'.own _ (List.mem_append_right _ hm)).1⟩⟩
 ·rcases h2 p with ⟨_,e⟩ | ⟨s,g,e,hm⟩
  ·exact q false sl0 fun _=>⟨0,by rw [e];exact RSl.nil rfl⟩
  ·rw [e] at hn;cases hn
def chl:Nat→List SpanV→Int→List Int
 | _,[],_=>[]
 | i,x::xs,p=>if x.parent=p then (i:Int)::chl (i+1) xs p else chl (i+1) xs p
theorem chl_append (p:Int):∀ (A B:List SpanV) (i:Nat),chl i (A++B) p=chl i A p++chl (i+A.length) B p
 | [],B,i=>by simp [chl]
 | x::A,B,i=>by
  rw [List.cons_append,chl,chl,chl_append p A B (i+1),List.length_cons,show i+1+A.length=i+(A.length+1) by omega]
  split <;> simp
theorem chl_take {S:List SpanV}{i:Nat}{x:SpanV}(hx:S[i]?=some x)(p:Int):chl 0 (S.take (i+1)) p=if p=x.parent then chl 0 (S.take i) p++[(i:Int)] else chl 0 (S.take i) p:=by
 have hlt:=lt_of_get hx
 rw [List.take_add_one,hx,chl_append,Nat.zero_add,List.length_take,Nat.min_eq_left (by omega)]
 show _++chl i [x] p=_
 simp only [chl]
 by_cases hp:x.parent=p
 ·rw [if_pos hp,if_pos hp.symm]
 ·rw [if_neg hp,if_neg (fun e=>hp e.symm),List.append_nil]
theorem chl_len (p:Int):∀ (S:List SpanV) (i:Nat),(chl i S p).length≤S.length
 | [],i=>Nat.le_refl _
 | x::S,i=>by
  have:=chl_len p S (i+1)
  rw [chl];split
  ·simp only [List.length_cons];omega
  ·simp only [List.length_cons];omega
theorem children_L0 {s:Sl}{S:List SpanV}(R:SR h0 s S){B:Nat}(hB:S.length≤B)(hB2:B<1073741824){m:Nat} :
  ∀ (n i:Nat) (h:AHeap) (E:List CE) (f:Value→Option Value) (c:Nat) (L:List Own),S.length - i<n→i≤S.length→MmI E (chl 0 (S.take i)) f→Z h0 h (.map m T_i64 f c::(E.map CE.own++L)) →
   Wp (span_children_L0 n (some m) s (s.len:Int) (i:Int)) h fun _ h'=>∃ f c E,MmI E (chl 0 S) f∧Z h0 h' (.map m T_i64 f c::(E.map CE.own++L)):=by
 intro n
 induction n with
 | zero=>intro i h E f c L h1;omega
 | succ n ih =>
  intro i h E f c L h1 h2 I z
  rw [span_children_L0_succ]
  unfold span_children_L0_B
  rw [R.len]
  by_cases hi:i<S.length
  ·rw [if_pos (by simp;omega)]
   obtain⟨x,hx⟩:=getI hi
   refine R.at z (k:=(i:Int)) (by unfold gt;rw [if_pos (by omega)];simpa using hx) fun a c1=>c1.lds ?_
   refine z.span fun b h2' z=>?_
   refine z.ld 0 (o:=1) (l:=li) ?_
   refine z.ld 0 (o:=1) (l:=li) ?_
   have z:=z.drop
   have hfk:=I.f x.parent
   have nxt:∀ {E':List CE} {f':Value→Option Value} {c':Nat} {h':AHeap},MmI E' (chl 0 (S.take (i+1))) f'→Z h0 h' (.map m T_i64 f' c'::(E'.map CE.own++L)) →
     Wp (span_children_L0 n (some m) s (S.length:Int) (IntKind.i64.wrap ((i:Int)+1))) h' fun _ h'=>∃ f c E,MmI E (chl 0 S) f∧Z h0 h' (.map m T_i64 f c::(E.map CE.own++L)):=by
    intro E' f' c' h' I z
    rw [up1 h2 (by omega)]
    have:=ih (i+1) h' E' f' c' L (by omega) (by omega) I z
    rwa [R.len] at this
   have hcg:∀ k,chl 0 (S.take (i+1)) k=if k=x.parent then chl 0 (S.take i) k++[(i:Int)] else chl 0 (S.take i) k:=fun k=>chl_take hx k
   cases hk:ck E x.parent with
   | none =>
    rw [hk] at hfk
    refine z.mget 0 (k:=vi x.parent) rfl (fun v hv=>by rw [hfk] at hv;cases hv) fun _=>?_
    have z:=z.add (Fr.refl z.wf) (o:=.sl ⟨none,0,0⟩ 1 T_i64 [] 0) OSl.nil (.inl rfl)
    refine z.appO 0 (new:=[vi (i:Int)]) rfl (by decide) rfl (by show 0+1≤bigN;decide) fun s' h8 g' hs' z fr=>?_
    refine z.mset 1 rfl fun h9 n9 z=>?_
    have I':=(I.add hk s' g' (x:=(i:Int))).congr hcg
    refine nxt I' (c':=n9) (z.perm ?_)
    exact List.Perm.swap _ _ _
   | some q =>
    obtain⟨j,e⟩:=q
    rw [hk] at hfk
    obtain⟨e1,e2⟩:=ck_some hk
    have hjlt:=lt_of_get e1
    have hown:(.map m T_i64 f c::(E.map CE.own++L):List Own)[j+1]?=some (.sl e.s 1 T_i64 (e.xs.map vi) e.g):=by
     simp only [List.getElem?_cons_succ]
     rw [List.getElem?_append_left (by simpa using hjlt),List.getElem?_map,e1];rfl
    have hlen:e.s.len=e.xs.length:=(OSl.rsl (z.get (j+1) hown)).len1
    have hxl:e.xs.length≤i:=by
     rw [I.ss _ _ _ hk]
     have:=chl_len x.parent (S.take i) 0
     rw [List.length_take] at this;omega
    refine z.mget 0 (k:=vi x.parent) rfl (fun v hv=>?_) fun hv=>by rw [hfk] at hv;cases hv
    rw [hfk] at hv;cases hv
    refine⟨e.s,rfl,?_⟩
    refine z.appO (j+1) (new:=[vi (i:Int)]) hown (by decide) rfl (by show e.s.len+1≤bigN;unfold bigN;omega) fun s' h8 g' hs' z fr=>?_
    refine z.mset 0 (m:=m) (kt:=T_i64) (fn:=f) (n:=c) rfl fun h9 n9 z=>?_
    have I':=(I.upd hk s' g' (x:=(i:Int))).congr hcg
    refine nxt I' (c':=n9) (z.perm (List.Perm.of_eq ?_))
    show Own.map m _ _ _::((E.map CE.own++L).set j _)=_
    rw [List.set_append_left _ _ (by simpa using hjlt),List.map_set]
    congr 3
    simp [CE.own]
  ·rw [if_neg (by simp;omega),Wp_pure]
   have:S.take i=S:=List.take_of_length_le (by omega)
   rw [this] at I
   exact⟨f,c,E,I,z⟩
theorem children_wp {d1:Int}{src:ByteArray}{nsl ssl tsl:Sl}{root:Int}{S:List SpanV}(z:Z h0 h L)(R:SR h0 ssl S){B:Nat}(hB:S.length≤B)(hB2:B<1073741824){n:Nat}(hn:B+1<n) :
  Wp (span_children n (d1,src,nsl,root,ssl,tsl)) h fun r h'=>∃ m M,r=some m∧MmO M m (chl 0 S)∧Z h0 h' (M++L):=by
 unfold span_children
 refine z.new fun x0 h1 z _=>z.mnew fun m h2 z=>?_
 refine z.ld 1 (o:=4) (l:=.sl) (x:=ssl) ?_
 rw [Wp_bind]
 refine (children_L0 R hB hB2 (m:=m) n 0 h2 [] _ 0 (.blk x0 [vi d1,.string src,vsl nsl,vi root,vsl ssl,vsl tsl] T_api_Doc::L) (by omega) (by omega) MmI.nil z).mono fun _ h3 hx=>?_
 obtain⟨f,c,E,I,z⟩:=hx
 rw [Wp_pure]
 refine⟨m,_,rfl,I.o (n:=c),z.sub ?_⟩
 exact List.Sublist.cons₂ _ ((List.Sublist.refl _).append (List.sublist_cons_self _ _))
end Go.Sh
set_option linter.all false
namespace Go.Sh
open Go Go.Ago Go.Proofs
variable {α β:Type}{h h' h0:AHeap}{L:List Own}{Q:β→AHeap→Prop}
abbrev DB (b:Nat)(d1:Int)(src:ByteArray)(nsl:Sl)(root:Int)(ssl tsl:Sl):Own:=.blk b [vi d1,.string src,vsl nsl,vi root,vsl ssl,vsl tsl] T_api_Doc
structure NoteV where
 frm:Int
 «to»:Int
 text:ByteArray
def NoteV.enc (x:NoteV):List Value:=[vi x.frm,vi x.to,.string x.text]
theorem NoteV.enc_len (x:NoteV):x.enc.length=3:=rfl
def NtR (h:AHeap)(s:Sl)(T:List NoteV):Prop:=∃ g,RSl h s 3 (T.flatMap NoteV.enc) g
theorem NtR.fr {s:Sl}{S:List NoteV}(r:NtR h s S)(f:Fr (fun _=>False) h h'):NtR h' s S:=let ⟨g,r⟩:=r;⟨g,r.fr f fun hx=>hx.elim⟩
theorem NtR.len {s:Sl}{S:List NoteV}(r:NtR h s S):s.len=S.length:=by
 obtain⟨g,r⟩:=r
 have:=r.1
 rw [flat_length NoteV.enc_len] at this;omega
theorem gtN {l:List α}{i:Nat}{x:α}(hx:l[i]?=some x):gt l (i:Int)=some x:=by unfold gt;rw [if_pos (by omega)];simpa using hx
def entOf (N:List NodeV)(S:List SpanV)(x:SpanV):Option Bool :=
 if 0≤x.parent then (match gt S x.parent with
  | none=>none
  | some p=>match gt N p.node with
   | none=>none
   | some nd=>some (decide (nd.kind=10)))
 else some false
def rng0 (sz:Int)(N:List NodeV)(S:List SpanV):List SpanV→Option Bool
 | []=>some true
 | x::xs=>if x.frm<0 then some false else if x.to<x.frm then some false else if sz<x.to then some false else if x.kf<0 then some false else if x.kt<x.kf then some false else if sz<x.kt then some false
  else match entOf N S x with
   | none=>none
   | some e=>if e=false∧(x.kf≠0∨x.kt≠0) then some false else rng0 sz N S xs
def rngN (src:ByteArray):Int→List NoteV→Option Bool
 | _,[]=>some true
 | last,x::xs=>if x.frm<last then some false else if x.to≤x.frm then some false else if (src.size:Int)<x.to then some false
  else if 0≤x.frm then (if eqS x.text (src.extract x.frm.toNat x.to.toNat)=true then rngN src x.to xs else some false) else none
def rngs (src:ByteArray)(N:List NodeV)(S:List SpanV)(T:List NoteV):Option Bool:=match rng0 src.size N S S with
 | none=>none
 | some false=>some false
 | some true=>rngN src 0 T
section
variable {d1:Int}{src:ByteArray}{nsl ssl tsl:Sl}{root:Int}{N:List NodeV}{S:List SpanV}{T:List NoteV}{B x0:Nat}
theorem rng_L0 (G:GrR h0 nsl N)(R:SR h0 ssl S)(hB:S.length≤B)(hB2:B<1073741824) :
  ∀ (n i:Nat) (h:AHeap) (r:Bool),S.length - i<n→i≤S.length→rng0 src.size N S (S.drop i)=some r→Z h0 h (DB x0 d1 src nsl root ssl tsl::L) →
   Wp (span_ranges_L0 n (adr x0) (src.size:Int) ssl (ssl.len:Int) (i:Int)) h fun y h'=>y=(if r then .inl () else .inr false)∧Z h0 h' (DB x0 d1 src nsl root ssl tsl::L):=by
 intro n
 induction n with
 | zero=>intro i h r h1;omega
 | succ n ih =>
  intro i h r h1 h2 hv z
  rw [span_ranges_L0_succ]
  unfold span_ranges_L0_B
  rw [R.len]
  by_cases hi:i<S.length
  ·rw [if_pos (by simp;omega)]
   obtain⟨x,hx⟩:=getI hi
   rw [drop_cons hx,rng0] at hv
   refine R.at z (gtN hx) fun a c1=>c1.lds ?_
   refine z.span (x:=x) fun b h2' z=>?_
   have fin:some false=some r→Wp (M.pure (Sum.inr false:Unit ⊕ Bool)) h2' fun y h'=>y=(if r then .inl () else .inr false)∧Z h0 h' (DB x0 d1 src nsl root ssl tsl::L):=fun e=>by
    cases e;rw [Wp_pure];exact⟨rfl,z.drop⟩
   refine z.ld 0 (o:=3) (l:=li) (x:=x.frm) ?_
   by_cases c1:x.frm<0
   ·rw [if_pos c1] at hv;rw [if_pos (by simpa using c1)];exact fin hv
   rw [if_neg c1] at hv;rw [if_neg (by simpa using c1)]
   refine z.ld 0 (o:=3) (l:=li) (x:=x.frm) (z.ld 0 (o:=4) (l:=li) (x:=x.to) ?_)
   by_cases c2:x.to<x.frm
   ·rw [if_pos c2] at hv;rw [if_pos (by simpa using c2)];exact fin hv
   rw [if_neg c2] at hv;rw [if_neg (by simpa using c2)]
   refine z.ld 0 (o:=4) (l:=li) (x:=x.to) ?_
   by_cases c3:(src.size:Int)<x.to
   ·rw [if_pos c3] at hv;rw [if_pos (by simpa using c3)];exact fin hv
   rw [if_neg c3] at hv;rw [if_neg (by simpa using c3)]
   refine z.ld 0 (o:=5) (l:=li) (x:=x.kf) ?_
   by_cases c4:x.kf<0
   ·rw [if_pos c4] at hv;rw [if_pos (by simpa using c4)];exact fin hv
   rw [if_neg c4] at hv;rw [if_neg (by simpa using c4)]
   refine z.ld 0 (o:=5) (l:=li) (x:=x.kf) (z.ld 0 (o:=6) (l:=li) (x:=x.kt) ?_)
   by_cases c5:x.kt<x.kf
   ·rw [if_pos c5] at hv;rw [if_pos (by simpa using c5)];exact fin hv
   rw [if_neg c5] at hv;rw [if_neg (by simpa using c5)]
   refine z.ld 0 (o:=6) (l:=li) (x:=x.kt) ?_
   by_cases c6:(src.size:Int)<x.kt
   ·rw [if_pos c6] at hv;rw [if_pos (by simpa using c6)];exact fin hv
   rw [if_neg c6] at hv;rw [if_neg (by simpa using c6)]
   have J1:∀ e:Bool,(if e=false∧(x.kf≠0∨x.kt≠0) then some false else rng0 src.size N S (S.drop (i+1)))=some r →
     Wp (span_ranges_L0_J1_B (span_ranges_L0 n) n (adr x0) (src.size:Int) (adr b) e ssl (S.length:Int) (i:Int)) h2' fun y h'=>y=(if r then .inl () else .inr false)∧Z h0 h' (DB x0 d1 src nsl root ssl tsl::L):=by
    intro e hv
    have nxt:rng0 src.size N S (S.drop (i+1))=some r→Wp (span_ranges_L0 n (adr x0) (src.size:Int) ssl (S.length:Int) (IntKind.i64.wrap ((i:Int)+1))) h2' fun y h'=>y=(if r then .inl () else .inr false)∧Z h0 h' (DB x0 d1 src nsl root ssl tsl::L):=fun hv=>by
     rw [up1 h2 (by omega)]
     have:=ih (i+1) h2' r (by omega) (by omega) hv z.drop
     rwa [R.len] at this
    unfold span_ranges_L0_J1_B
    cases e with
    | true =>
     rw [if_neg (by simp)] at hv
     rw [if_neg (by simp)];exact nxt hv
    | false =>
     rw [if_pos (by rfl)]
     refine z.ld 0 (o:=5) (l:=li) (x:=x.kf) ?_
     by_cases k1:x.kf=0
     ·rw [if_neg (by simpa using k1)]
      refine z.ld 0 (o:=6) (l:=li) (x:=x.kt) ?_
      by_cases k2:x.kt=0
      ·rw [if_neg (by simp [k1,k2])] at hv
       rw [if_neg (by simpa using k2)];exact nxt hv
      ·rw [if_pos (by simp [k2])] at hv
       rw [if_pos (by simpa using k2)];exact fin hv
     ·rw [if_pos (by simp [k1])] at hv
      rw [if_pos (by simpa using k1)];exact fin hv
   unfold span_ranges_L0_J0_B
   refine z.ld 0 (o:=1) (l:=li) (x:=x.parent) ?_
   unfold entOf at hv
   by_cases c7:0≤x.parent
   ·rw [if_pos c7] at hv;rw [if_pos (by simpa using c7)]
    cases hp:gt S x.parent with
    | none=>rw [hp] at hv;cases hv
    | some p =>
    rw [hp] at hv
    simp only at hv
    cases hn:gt N p.node with
    | none=>rw [hn] at hv;cases hv
    | some nd =>
    rw [hn] at hv
    simp only at hv
    refine z.ld 1 (o:=2) (l:=.sl) (x:=nsl) ?_
    refine z.ld 1 (o:=4) (l:=.sl) (x:=ssl) ?_
    refine z.ld 0 (o:=1) (l:=li) (x:=x.parent) ?_
    refine R.at z hp fun a2 c2'=>c2'.ld 0 (l:=li) (y:=p.node) ?_
    obtain⟨g1,g2⟩:=gt_some hn
    refine G.at z g1 g2 fun a3 ks is nd' _ _=>nd'.ldK ?_
    exact J1 _ hv
   ·rw [if_neg c7] at hv;rw [if_neg (by simpa using c7)]
    exact J1 false hv
  ·rw [if_neg (by simp;omega),Wp_pure]
   have:S.drop i=[]:=List.drop_eq_nil_of_le (by omega)
   rw [this] at hv
   cases hv;exact⟨rfl,z⟩
theorem rng_L1 (R:NtR h0 tsl T)(hB:T.length≤B)(hB2:B<1073741824) :
  ∀ (n i:Nat) (last:Int) (h:AHeap) (r:Bool),T.length - i<n→i≤T.length→rngN src last (T.drop i)=some r→Z h0 h (DB x0 d1 src nsl root ssl tsl::L) →
   Wp (span_ranges_L1 n (adr x0) (src.size:Int) last tsl (tsl.len:Int) (i:Int)) h fun y h'=>y=(if r then .inl () else .inr false)∧Z h0 h' (DB x0 d1 src nsl root ssl tsl::L):=by
 intro n
 induction n with
 | zero=>intro i last h r h1;omega
 | succ n ih =>
  intro i last h r h1 h2 hv z
  rw [span_ranges_L1_succ]
  unfold span_ranges_L1_B
  have hl:=R.len
  rw [hl]
  by_cases hi:i<T.length
  ·rw [if_pos (by simp;omega)]
   obtain⟨x,hx⟩:=getI hi
   rw [drop_cons hx,rngN] at hv
   obtain⟨g,rs⟩:=R.fr z.fr
   refine rs.ixN NoteV.enc_len (by omega) (by omega) (by simpa using hx) fun a c1=>c1.lds (ls:=[li,li,.str]) (x:=(x.frm,x.to,x.text)) rfl ?_
   refine z.new fun b hn z _=>z.st 0 (cs':=x.enc) fun h2' z=>?_
   have fin:some false=some r→Wp (M.pure (Sum.inr false:Unit ⊕ Bool)) h2' fun y h'=>y=(if r then .inl () else .inr false)∧Z h0 h' (DB x0 d1 src nsl root ssl tsl::L):=fun e=>by
    cases e;rw [Wp_pure];exact⟨rfl,z.drop⟩
   refine z.ld 0 (o:=0) (l:=li) (x:=x.frm) ?_
   by_cases c1:x.frm<last
   ·rw [if_pos c1] at hv;rw [if_pos (by simpa using c1)];exact fin hv
   rw [if_neg c1] at hv;rw [if_neg (by simpa using c1)]
   refine z.ld 0 (o:=0) (l:=li) (x:=x.frm) (z.ld 0 (o:=1) (l:=li) (x:=x.to) ?_)
   by_cases c2:x.to≤x.frm
   ·rw [if_pos c2] at hv;rw [if_pos (by simpa using c2)];exact fin hv
   rw [if_neg c2] at hv;rw [if_neg (by simpa using c2)]
   refine z.ld 0 (o:=1) (l:=li) (x:=x.to) ?_
   by_cases c3:(src.size:Int)<x.to
   ·rw [if_pos c3] at hv;rw [if_pos (by simpa using c3)];exact fin hv
   rw [if_neg c3] at hv;rw [if_neg (by simpa using c3)]
   by_cases c4:0≤x.frm
   ·rw [if_pos c4] at hv
    refine z.ld 0 (o:=2) (l:=.str) (x:=x.text) (z.ld 1 (o:=1) (l:=.str) (x:=src) (z.ld 0 (o:=0) (l:=li) (x:=x.frm) (z.ld 0 (o:=1) (l:=li) (x:=x.to) ?_)))
    rw [Wp_bind,Wp_sliceS]
    refine⟨c4,by omega,by omega,?_⟩
    by_cases c5:eqS x.text (src.extract x.frm.toNat x.to.toNat)=true
    ·rw [if_pos c5] at hv
     rw [if_neg (by simp [c5])]
     refine z.ld 0 (o:=1) (l:=li) (x:=x.to) ?_
     rw [up1 h2 (by omega)]
     have:=ih (i+1) x.to h2' r (by omega) (by omega) hv z.drop
     rwa [hl] at this
    ·rw [if_neg c5] at hv
     rw [if_pos (by simpa using c5)];exact fin hv
   ·rw [if_neg c4] at hv;cases hv
  ·rw [if_neg (by simp;omega),Wp_pure]
   have:T.drop i=[]:=List.drop_eq_nil_of_le (by omega)
   rw [this] at hv
   cases hv;exact⟨rfl,z⟩
theorem ranges_wp (z:Z h0 h L)(G:GrR h0 nsl N)(R:SR h0 ssl S)(RT:NtR h0 tsl T)(hB:S.length≤B)(hBT:T.length≤B)(hB2:B<1073741824){n:Nat}(hn:B+1<n){r:Bool}(hv:rngs src N S T=some r) :
  Wp (span_ranges n (d1,src,nsl,root,ssl,tsl)) h fun y h'=>y=r∧Z h0 h' L:=by
 unfold span_ranges
 unfold rngs at hv
 refine z.new fun x0 h1 z _=>?_
 refine z.ld 0 (o:=1) (l:=.str) (x:=src) (z.ld 0 (o:=4) (l:=.sl) (x:=ssl) ?_)
 cases h1:rng0 src.size N S S with
 | none=>rw [h1] at hv;cases hv
 | some b =>
 rw [h1] at hv
 rw [Wp_bind]
 refine (rng_L0 G R hB hB2 n 0 _ b (by omega) (by omega) (by simpa using h1) z).mono fun y h2 hy=>?_
 obtain⟨rfl,z⟩:=hy
 cases b with
 | false=>cases hv;exact Wp_pure.2 ⟨rfl,z.drop⟩
 | true =>
  simp only at hv
  show Wp (M.bind _ _) h2 _
  refine z.ld 0 (o:=5) (l:=.sl) (x:=tsl) ?_
  rw [Wp_bind]
  refine (rng_L1 RT hBT hB2 n 0 0 h2 r (by omega) (by omega) (by simpa using hv) z).mono fun y h3 hy=>?_
  obtain⟨rfl,z⟩:=hy
  cases r with
  | false=>exact Wp_pure.2 ⟨rfl,z.drop⟩
  | true=>exact Wp_pure.2 ⟨rfl,z.drop⟩
end
end Go.Sh
set_option linter.all false
namespace Go.Sh
open Go Go.Ago Go.Proofs
variable {α β:Type}{h h' h0:AHeap}{L:List Own}{Q:β→AHeap→Prop}
def ordP (S:List SpanV):List Int→List Int→Option (List Int)
 | out,[]=>some out
 | out,i::l=>match gt S i with
  | none=>none
  | some x=>if 0≤x.entry∧x.entry<(out.length:Int) then ordP S (out.set x.entry.toNat i) l else none
theorem ordP_len {S:List SpanV}:∀ {l out r:List Int},ordP S out l=some r→r.length=out.length
 | [],out,r,he=>by cases he;rfl
 | i::l,out,r,he=>by
  rw [ordP] at he
  cases hg:gt S i with
  | none=>rw [hg] at he;cases he
  | some x =>
   rw [hg] at he
   simp only at he
   split at he
   ·rw [ordP_len he];simp
   ·cases he
def nstL (S:List SpanV)(e:Bool):Int→List Int→Option (Option Int)
 | a,[]=>some (some a)
 | a,k::ks=>match gt S k with
  | none=>none
  | some c=>if e then (if c.kf<a then some none else if c.frm<c.kt then some none else nstL S e c.to ks)
   else if c.frm<a then some none else nstL S e c.to ks
def oRes:Option Int→Int ⊕ Bool
 | some a=>.inl a
 | none=>.inr false
def nst0 (N:List NodeV)(S:List SpanV):Nat→List SpanV→Option Bool
 | _,[]=>some true
 | i,x::xs=>if x.whole=false∨x.alias=true then nst0 N S (i+1) xs else match gt N x.node with
  | none=>none
  | some nd=>match ordP S (List.replicate (chl 0 S (i:Int)).length 0) (chl 0 S (i:Int)) with
   | none=>none
   | some l=>match nstL S (decide (nd.kind=10)) x.frm l with
    | none=>none
    | some none=>some false
    | some (some a)=>if x.to<a then some false else nst0 N S (i+1) xs
section
variable {d1:Int}{src:ByteArray}{nsl ssl tsl:Sl}{root:Int}{N:List NodeV}{S:List SpanV}{B x0:Nat}
theorem ord_L0 (R:SR h0 ssl S){b:Nat}{sl:Sl}{xs:List Int}(hxB:xs.length<1073741824)(hr:∀ {h':AHeap} {P':List Own},Z h0 h' (P'++L)→IL h' sl xs)(hsl:sl.len=xs.length) :
  ∀ (n i:Nat) (h:AHeap) (out r:List Int),xs.length - i<n→i≤xs.length→out.length=xs.length→ordP S out (xs.drop i)=some r→Z h0 h (.blk b (out.map vi) T_i64::DB x0 d1 src nsl root ssl tsl::L) →
   Wp (span_ordered_L0 n (adr x0) (arr b xs.length) sl (sl.len:Int) (i:Int)) h fun _ h'=>Z h0 h' (.blk b (r.map vi) T_i64::DB x0 d1 src nsl root ssl tsl::L):=by
 intro n
 induction n with
 | zero=>intro i h out r h1;omega
 | succ n ih =>
  intro i h out r h1 h2 ho hv z
  rw [span_ordered_L0_succ]
  unfold span_ordered_L0_B
  rw [hsl]
  by_cases hi:i<xs.length
  ·rw [if_pos (by simp;omega)]
   obtain⟨x,hx⟩:=getI hi
   rw [drop_cons hx,ordP] at hv
   refine (hr (P':=[_,_]) z).ix (by omega) (by simpa using hx) fun a g cl=>cl.ld0 (l:=li) rfl rfl ?_
   cases hg:gt S x with
   | none=>rw [hg] at hv;cases hv
   | some y =>
   rw [hg] at hv
   simp only at hv
   split at hv
   case isFalse=>cases hv
   rename_i hc
   refine z.ld 1 (o:=4) (l:=.sl) (x:=ssl) ?_
   refine R.at z hg fun a2 c2=>c2.ld 2 (l:=li) (y:=y.entry) ?_
   refine ixR (b:=b) (m:=xs.length) hc.1 (by have:=hc.2;omega) ?_
   refine z.stA 0 (xs:=out) (enc:=vi) (v:=x) (by have:=hc.2;have:=hc.1;omega) (fun h3 z=>?_)
   rw [up1 h2 (by omega)]
   have:=ih (i+1) h3 _ r (by omega) (by omega) (by simpa using ho) hv z
   rwa [hsl] at this
  ·rw [if_neg (by simp;omega),Wp_pure]
   have:xs.drop i=[]:=List.drop_eq_nil_of_le (by omega)
   rw [this] at hv
   cases hv;exact z
theorem ordered_wp (z:Z h0 h L)(R:SR h0 ssl S){sl:Sl}{xs r:List Int}(hxB:xs.length<1073741824)(hr:∀ {h':AHeap} {P':List Own},Z h0 h' (P'++L)→IL h' sl xs){n:Nat}(hn:xs.length<n)
  (hv:ordP S (List.replicate xs.length 0) xs=some r) :
  Wp (span_ordered n (d1,src,nsl,root,ssl,tsl) sl) h fun y h'=>∃ b,y=arr b xs.length∧r.length=xs.length∧Z h0 h' (.blk b (r.map vi) T_i64::L):=by
 have hsl:sl.len=xs.length:=(hr (P':=[]) z).len
 unfold span_ordered
 refine z.new fun x0 h1 z _=>?_
 rw [hsl]
 refine z.mkA (by omega) (by unfold bigN;omega) fun b h2 z _=>?_
 rw [Int.toNat_natCast] at z ⊢
 rw [rep_map (enc:=vi)] at z
 rw [Wp_bind]
 have hl:=ord_L0 (L:=L) (d1:=d1) (src:=src) (nsl:=nsl) (root:=root) (tsl:=tsl) (x0:=x0) R (b:=b) hxB hr hsl n 0 h2 _ r (by omega) (by omega) (by simp) (by simpa using hv) z
 rw [hsl] at hl
 refine hl.mono fun _ h3 z=>?_
 rw [Wp_pure]
 exact⟨b,rfl,by rw [ordP_len hv];simp,(z.perm (List.Perm.swap _ _ _)).drop⟩
theorem nst_L1 (R:SR h0 ssl S){b m:Nat}{xs:List Int}(hm:xs.length=m)(hB2:m<1073741824)(e:Bool)(a1:Option Nat)(a2:Addr)(a5:Sl)(a6 a7:Int) :
  ∀ (n i:Nat) (h:AHeap) (at':Int) (r:Option Int),m - i<n→i≤m→nstL S e at' (xs.drop i)=some r→Z h0 h (.blk b (xs.map vi) T_i64::DB x0 d1 src nsl root ssl tsl::L) →
   Wp (span_nested_L1 n (adr x0) a1 a2 at' e a5 a6 a7 (arr b m) (m:Int) (i:Int)) h fun y h'=>y=oRes r∧Z h0 h' (.blk b (xs.map vi) T_i64::DB x0 d1 src nsl root ssl tsl::L):=by
 intro n
 induction n with
 | zero=>intro i h at' r h1;omega
 | succ n ih =>
  intro i h at' r h1 h2 hv z
  rw [span_nested_L1_succ]
  unfold span_nested_L1_B
  by_cases hi:i<m
  ·rw [if_pos (by simp;omega)]
   obtain⟨x,hx⟩:=getI (l:=xs) (i:=i) (by omega)
   rw [drop_cons hx,nstL] at hv
   refine z.rdI (c:=xs) 0 (gtN hx) hm ?_
   cases hg:gt S x with
   | none=>rw [hg] at hv;cases hv
   | some c =>
   rw [hg] at hv
   simp only at hv
   refine z.ld 1 (o:=4) (l:=.sl) (x:=ssl) ?_
   refine R.at z hg fun a c1=>c1.lds ?_
   refine z.span (x:=c) fun b2 h2' z=>?_
   have fin:some none=some r→Wp (M.pure (Sum.inr false:Int ⊕ Bool)) h2' fun y h'=>y=oRes r∧Z h0 h' (.blk b (xs.map vi) T_i64::DB x0 d1 src nsl root ssl tsl::L):=fun e=>by
    cases e;rw [Wp_pure];exact⟨rfl,z.drop⟩
   have nxt:nstL S e c.to (xs.drop (i+1))=some r→Wp (M.bind (ldL li ((adr b2).plus 4)) fun (x10:Int)=>span_nested_L1 n (adr x0) a1 a2 x10 e a5 a6 a7 (arr b m) (m:Int) (IntKind.i64.wrap ((i:Int)+1))) h2' fun y h'=>y=oRes r∧Z h0 h' (.blk b (xs.map vi) T_i64::DB x0 d1 src nsl root ssl tsl::L):=fun hv=>by
    refine z.ld 0 (o:=4) (l:=li) (x:=c.to) ?_
    rw [up1 h2 (by omega)]
    exact ih (i+1) h2' c.to r (by omega) (by omega) hv z.drop
   cases e with
   | true =>
    rw [if_pos rfl] at hv
    rw [if_pos rfl]
    refine z.ld 0 (o:=5) (l:=li) (x:=c.kf) ?_
    by_cases k1:c.kf<at'
    ·rw [if_pos k1] at hv;rw [if_pos (by simpa using k1)];exact fin hv
    rw [if_neg k1] at hv;rw [if_neg (by simpa using k1)]
    refine z.ld 0 (o:=6) (l:=li) (x:=c.kt) (z.ld 0 (o:=3) (l:=li) (x:=c.frm) ?_)
    by_cases k2:c.frm<c.kt
    ·rw [if_pos k2] at hv;rw [if_pos (by simpa using k2)];exact fin hv
    rw [if_neg k2] at hv;rw [if_neg (by simpa using k2)]
    exact nxt hv
   | false =>
    rw [if_neg (by simp)] at hv
    rw [if_neg (by simp)]
    refine z.ld 0 (o:=3) (l:=li) (x:=c.frm) ?_
    by_cases k1:c.frm<at'
    ·rw [if_pos k1] at hv;rw [if_pos (by simpa using k1)];exact fin hv
    rw [if_neg k1] at hv;rw [if_neg (by simpa using k1)]
    exact nxt hv
  ·rw [if_neg (by simp;omega),Wp_pure]
   have:xs.drop i=[]:=List.drop_eq_nil_of_le (by omega)
   rw [this] at hv
   cases hv;exact⟨rfl,z⟩
theorem nst_L0 (G:GrR h0 nsl N)(R:SR h0 ssl S)(hB:S.length≤B)(hB2:B<1073741824){m:Nat}{MM:List Own}(hM:MmO MM m (chl 0 S)) :
  ∀ (n i:Nat) (h:AHeap) (r:Bool),S.length - i+B+2<n→i≤S.length→nst0 N S i (S.drop i)=some r→Z h0 h (DB x0 d1 src nsl root ssl tsl::MM) →
   Wp (span_nested_L0 n (adr x0) (some m) ssl (ssl.len:Int) (i:Int)) h fun y h'=>y=(if r then .inl () else .inr false)∧Z h0 h' (DB x0 d1 src nsl root ssl tsl::MM):=by
 intro n
 induction n with
 | zero=>intro i h r h1;omega
 | succ n ih =>
  intro i h r h1 h2 hv z
  rw [span_nested_L0_succ]
  unfold span_nested_L0_B
  rw [R.len]
  by_cases hi:i<S.length
  ·rw [if_pos (by simp;omega)]
   obtain⟨x,hx⟩:=getI hi
   rw [drop_cons hx,nst0] at hv
   refine R.at z (gtN hx) fun a c1=>c1.lds ?_
   refine z.span (x:=x) fun b h2' z=>?_
   have nxt:∀ {h2'},nst0 N S (i+1) (S.drop (i+1))=some r→Z h0 h2' (DB x0 d1 src nsl root ssl tsl::MM)→Wp (span_nested_L0 n (adr x0) (some m) ssl (S.length:Int) (IntKind.i64.wrap ((i:Int)+1))) h2' fun y h'=>y=(if r then .inl () else .inr false)∧Z h0 h' (DB x0 d1 src nsl root ssl tsl::MM):=fun hv z=>by
    rw [up1 h2 (by omega)]
    have:=ih (i+1) _ r (by omega) (by omega) hv z
    rwa [R.len] at this
   refine z.ld 0 (o:=8) (l:=.bool) (x:=x.whole) ?_
   cases hw:x.whole with
   | false =>
    rw [if_pos (.inl hw)] at hv
    rw [if_pos (by rfl)];exact nxt hv z.drop
   | true =>
   rw [if_neg (by simp)]
   refine z.ld 0 (o:=7) (l:=.bool) (x:=x.alias) ?_
   cases ha:x.alias with
   | true =>
    rw [if_pos (.inr ha)] at hv
    rw [if_pos rfl];exact nxt hv z.drop
   | false =>
   rw [if_neg (by simp [hw,ha])] at hv
   rw [if_neg (by simp)]
   unfold span_nested_L0_J0_B
   cases hn:gt N x.node with
   | none=>rw [hn] at hv;cases hv
   | some nd =>
   rw [hn] at hv
   simp only at hv
   cases ho:ordP S (List.replicate (chl 0 S (i:Int)).length 0) (chl 0 S (i:Int)) with
   | none=>rw [ho] at hv;cases hv
   | some l =>
   rw [ho] at hv
   simp only at hv
   cases hl:nstL S (decide (nd.kind=10)) x.frm l with
   | none=>rw [hl] at hv;cases hv
   | some q =>
   rw [hl] at hv
   have hcl:=chl_len (i:Int) S 0
   refine z.ld 0 (o:=3) (l:=li) (x:=x.frm) ?_
   refine z.ld 1 (o:=2) (l:=.sl) (x:=nsl) ?_
   refine z.ld 0 (o:=0) (l:=li) (x:=x.node) ?_
   obtain⟨g1,g2⟩:=gt_some hn
   refine G.at z g1 g2 fun a3 ks is nd' _ _=>nd'.ldK ?_
   refine z.lds 1 (ls:=[li,.str,.sl,li,.sl,.sl]) (x:=(d1,src,nsl,root,ssl,tsl)) ?_
   refine Z.mmget (P':=[_,_]) z hM fun bb sl hr=>?_
   rw [Wp_bind]
   refine (ordered_wp (L:=.blk b x.enc T_api_Span::DB x0 d1 src nsl root ssl tsl::MM) z R (by omega) (fun {h'} {P'} z'=>hr (P2:=P'++[_,_]) (by rw [List.append_assoc];exact z')) (by omega) ho).mono fun y h3 hy=>?_
   obtain⟨b3,rfl,hll,z⟩:=hy
   have z:=z.perm (L':=.blk b3 (l.map vi) T_i64::DB x0 d1 src nsl root ssl tsl::.blk b x.enc T_api_Span::MM) (List.Perm.cons _ (List.Perm.swap _ _ _))
   rw [Wp_bind]
   refine (nst_L1 (L:=.blk b x.enc T_api_Span::MM) R (m:=(chl 0 S (i:Int)).length) hll (by omega) (decide (nd.kind=10)) (some m) (adr b) ssl (S.length:Int) (i:Int) n 0 h3 x.frm q (by omega) (by omega) (by simpa using hl) z).mono fun y h4 hy=>?_
   obtain⟨rfl,z⟩:=hy
   have z:=z.perm (L':=.blk b x.enc T_api_Span::DB x0 d1 src nsl root ssl tsl::.blk b3 (l.map vi) T_i64::MM) ((List.Perm.cons _ (List.Perm.swap _ _ _)).trans ((List.Perm.swap _ _ _).trans (List.Perm.cons _ (List.Perm.swap _ _ _))))
   cases q with
   | none=>cases hv;exact Wp_pure.2 ⟨rfl,(z.drop.perm (List.Perm.swap _ _ _)).drop⟩
   | some a' =>
    simp only at hv
    show Wp (M.bind _ _) h4 _
    refine z.ld 0 (o:=4) (l:=li) (x:=x.to) ?_
    have z:=(z.drop.perm (List.Perm.swap _ _ _)).drop
    by_cases k1:x.to<a'
    ·rw [if_pos k1] at hv;cases hv
     rw [if_pos (by simpa using k1),Wp_pure];exact⟨rfl,z⟩
    ·rw [if_neg k1] at hv
     rw [if_neg (by simpa using k1)]
     exact nxt hv z
  ·rw [if_neg (by simp;omega),Wp_pure]
   have:S.drop i=[]:=List.drop_eq_nil_of_le (by omega)
   rw [this] at hv
   cases hv;exact⟨rfl,z⟩
theorem nested_wp (z:Z h0 h L)(G:GrR h0 nsl N)(R:SR h0 ssl S)(hB:S.length≤B)(hB2:B<1073741824){n:Nat}(hn:2 * B+3<n){r:Bool}(hv:nst0 N S 0 S=some r) :
  Wp (span_nested n (d1,src,nsl,root,ssl,tsl)) h fun y h'=>y=r∧Z h0 h' L:=by
 unfold span_nested
 refine z.new fun x0 h1 z _=>?_
 refine z.lds 0 (ls:=[li,.str,.sl,li,.sl,.sl]) (x:=(d1,src,nsl,root,ssl,tsl)) ?_
 rw [Wp_bind]
 refine (children_wp z R hB hB2 (by omega)).mono fun y h2 hy=>?_
 obtain⟨m,MM,rfl,hM,z⟩:=hy
 have hM':MmO (MM++L) m (chl 0 S):=by
  obtain⟨f,c,h1,h2⟩:=hM
  refine⟨f,c,List.mem_append_left _ h1,fun p=>(h2 p).imp id fun ⟨s,g,e,hm⟩=>⟨s,g,e,List.mem_append_left _ hm⟩⟩
 have z:=z.perm (L':=DB x0 d1 src nsl root ssl tsl::(MM++L)) List.perm_middle
 refine z.ld 0 (o:=4) (l:=.sl) (x:=ssl) ?_
 rw [Wp_bind]
 refine (nst_L0 G R hB hB2 hM' n 0 h2 r (by omega) (by omega) (by simpa using hv) z).mono fun y h3 hy=>?_
 obtain⟨rfl,z⟩:=hy
 have z:=z.drop.sub (List.sublist_append_right _ _)
 cases r with
 | false=>exact Wp_pure.2 ⟨rfl,z⟩
 | true=>exact Wp_pure.2 ⟨rfl,z⟩
end
end Go.Sh
set_option linter.all false
namespace Go.Sh
open Go Go.Ago Go.Proofs
variable {α β:Type}{h h' h0:AHeap}{L:List Own}{Q:β→AHeap→Prop}
def fnSp (b1 b0 b2:Nat):Value:=Value.func (Fn.func F_span_inKeys_1) #[] #[Value.pointer (some (adr b1)),Value.pointer (some (adr b0)),Value.pointer (some (adr b2))]
def OSp (b2 b1 b0 bm:Nat)(s:Sl)(root:Int)(cap:Nat)(ms:List Bool)(e:TypeId):List Own :=
 [.blk b2 [fnSp b1 b0 b2] T_fn_i64__,.blk b1 [vsl ⟨some ⟨bm,0,none⟩,ms.length,cap⟩] T_sl_bool,.blk b0 [vsl s,vi root] T_api_Graph,.blk bm (ms.map .bool) e]
theorem visS_wp {s:Sl}{root:Int}{N:List NodeV}(G:GrR h0 s N){B:Nat}(hB:Bd N B){b2 b1 b0 bm cap:Nat}{e:TypeId} :
  ∀ (k:Nat),(∀ (n:Nat) (a:Int) (ms r:List Bool) (h:AHeap) (L:List Own),k≤n→vis k N a ms=some r→Z h0 h (OSp b2 b1 b0 bm s root cap ms e++L) →
    Wp (span_inKeys_1 n a (adr b1) (adr b0) (adr b2)) h fun _ h'=>Z h0 h' (OSp b2 b1 b0 bm s root cap r e++L)) ∧
   (∀ (n:Nat) (a:Int) (sl:Sl) (xs:List Int) (i:Nat) (ms r:List Bool) (h:AHeap) (L:List Own),k≤n→visL k N (xs.drop i) ms=some r→IL h0 sl xs→i≤xs.length→xs.length≤B→Z h0 h (OSp b2 b1 b0 bm s root cap ms e++L) →
    Wp (span_inKeys_1_L0 n a (adr b0) (adr b2) sl (sl.len:Int) (i:Int)) h fun _ h'=>Z h0 h' (OSp b2 b1 b0 bm s root cap r e++L)) ∧
   (∀ (n:Nat) (sl:Sl) (xs:List Int) (i:Nat) (ms r:List Bool) (h:AHeap) (L:List Own),k≤n→visL k N (xs.drop i) ms=some r→IL h0 sl xs→i≤xs.length→xs.length≤B→Z h0 h (OSp b2 b1 b0 bm s root cap ms e++L) →
    Wp (span_inKeys_1_L1 n (adr b2) sl (sl.len:Int) (i:Int)) h fun _ h'=>Z h0 h' (OSp b2 b1 b0 bm s root cap r e++L)):=by
 intro k
 induction k with
 | zero=>exact⟨fun n a ms r h L _ hv=>by simp [vis] at hv,fun n a sl xs i ms r h L _ hv=>by simp [visL] at hv,fun n sl xs i ms r h L _ hv=>by simp [visL] at hv⟩
 | succ k ih =>
  obtain⟨ih1,ih2,ih3⟩:=ih
  refine⟨fun n a ms r h L hn hv z=>?_,fun n a sl xs i ms r h L hn hv il hi hxB z=>?_,fun n sl xs i ms r h L hn hv il hi hxB z=>?_⟩
  ·obtain⟨n,rfl⟩:∃ m,n=m+1:=⟨n - 1,by omega⟩
   rw [span_inKeys_1_succ]
   unfold span_inKeys_1_B
   rw [vis] at hv
   have ix:∀ {b:Bool} {f:Addr→M Unit} {h:AHeap} {ms:List Bool} {Q:Unit→AHeap→Prop},gt ms a=some b→Z h0 h (OSp b2 b1 b0 bm s root cap ms e++L)→Wp (f ⟨bm,a.toNat * 1,none⟩) h Q→Wp (M.bind (idxA ⟨some ⟨bm,0,none⟩,ms.length,cap⟩ a 1) f) h Q:=by
    intro b f h ms Q hg z q
    obtain⟨g1,g2⟩:=gt_some hg
    exact ixB g1 (by have:=(List.getElem?_eq_some_iff.1 g2).1;omega) q
   have mt:∀ {b:Bool} {ms:List Bool},gt ms a=some b→(ms.map Value.bool)[a.toNat * 1]?=some (.bool b):=by
    intro b ms hg
    rw [Nat.mul_one,List.getElem?_map,(gt_some hg).2];rfl
   refine z.ld 1 (o:=0) (l:=.sl) ?_
   cases hg:gt ms a with
   | none=>rw [hg] at hv;cases hv
   | some b =>
    refine ix hg z ?_
    refine z.ld 3 (l:=.bool) (x:=b) ?_ rfl (mt hg) rfl
    rw [hg] at hv
    cases b with
    | true=>cases hv;rw [if_pos rfl,Wp_pure];exact z
    | false =>
     simp only at hv
     rw [if_neg (by simp)]
     refine z.ld 1 (o:=0) (l:=.sl) ?_
     refine ix hg z ?_
     have hlt:a.toNat<ms.length:=(List.getElem?_eq_some_iff.1 (gt_some hg).2).1
     rw [Nat.mul_one]
     refine z.stA 3 (enc:=Value.bool) (v:=true) hlt fun h1 z=>?_
     have z:Z h0 h1 (OSp b2 b1 b0 bm s root cap (ms.set a.toNat true) e++L):=by
      have:OSp b2 b1 b0 bm s root cap (ms.set a.toNat true) e++L=(OSp b2 b1 b0 bm s root cap ms e++L).set 3 (.blk bm ((ms.set a.toNat true).map .bool) e):=by
       simp [OSp]
      rw [this];exact z
     cases hx:gt N a with
     | none=>rw [hx] at hv;cases hv
     | some x =>
      rw [hx] at hv
      simp only at hv
      obtain⟨x1,x2⟩:=gt_some hx
      have hb:=hB.2.2 x (List.mem_of_getElem? x2)
      cases hv1:visL k N x.keys (ms.set a.toNat true) with
      | none=>rw [hv1] at hv;cases hv
      | some m2 =>
       rw [hv1] at hv
       simp only at hv
       refine z.ld 2 (o:=0) (l:=.sl) ?_
       refine G.at z x1 x2 fun a1 ks is nd ik ii=>nd.ldks ?_
       rw [Wp_bind]
       refine (ih2 n a ks x.keys 0 _ m2 _ L (by omega) hv1 ik (by omega) hb.1 z).mono fun _ h2 z=>?_
       refine z.ld 2 (o:=0) (l:=.sl) ?_
       refine G.at z x1 x2 fun a2 ks2 is2 nd2 ik2 ii2=>nd2.ldis ?_
       rw [Wp_bind]
       refine (ih3 n is2 x.items 0 _ r _ L (by omega) hv ii2 (by omega) hb.2 z).mono fun _ h3 z=>?_
       rw [Wp_pure];exact z
  ·obtain⟨n,rfl⟩:∃ m,n=m+1:=⟨n - 1,by omega⟩
   rw [span_inKeys_1_L0_succ]
   unfold span_inKeys_1_L0_B
   rw [il.len]
   by_cases hi2:i<xs.length
   ·rw [if_pos (by simp;omega)]
    obtain⟨x,hx⟩:=getI hi2
    rw [drop_cons hx,visL] at hv
    cases hv1:vis k N x ms with
    | none=>rw [hv1] at hv;cases hv
    | some m2 =>
     rw [hv1] at hv
     simp only at hv
     refine (il.fr z.fr).ix (by omega) (by simpa using hx) fun a1 g c=>c.ld0 (l:=li) rfl rfl ?_
     refine z.ld 0 (o:=0) (l:=.raw) ?_
     unfold span_inKeys_1_D27_B
     rw [Wp_bind,if_pos (by rfl),Wp_bind]
     refine Wp_asFn (c:=(adr b1,adr b0,adr b2)) rfl ?_
     refine (ih1 n x ms m2 h L (by omega) hv1 z).mono fun _ h2 z=>?_
     rw [up1 hi (by have:=hB.2.1;omega)]
     have:=ih2 n a sl xs (i+1) m2 r h2 L (by omega) hv il (by omega) hxB z
     rwa [il.len] at this
   ·rw [if_neg (by simp;omega),Wp_pure]
    have:xs.drop i=[]:=List.drop_eq_nil_of_le (by omega)
    rw [this,visL] at hv
    cases hv;exact z
  ·obtain⟨n,rfl⟩:∃ m,n=m+1:=⟨n - 1,by omega⟩
   rw [span_inKeys_1_L1_succ]
   unfold span_inKeys_1_L1_B
   rw [il.len]
   by_cases hi2:i<xs.length
   ·rw [if_pos (by simp;omega)]
    obtain⟨x,hx⟩:=getI hi2
    rw [drop_cons hx,visL] at hv
    cases hv1:vis k N x ms with
    | none=>rw [hv1] at hv;cases hv
    | some m2 =>
     rw [hv1] at hv
     simp only at hv
     refine (il.fr z.fr).ix (by omega) (by simpa using hx) fun a1 g c=>c.ld0 (l:=li) rfl rfl ?_
     refine z.ld 0 (o:=0) (l:=.raw) ?_
     unfold span_inKeys_1_D42_B
     rw [Wp_bind,if_pos (by rfl),Wp_bind]
     refine Wp_asFn (c:=(adr b1,adr b0,adr b2)) rfl ?_
     refine (ih1 n x ms m2 h L (by omega) hv1 z).mono fun _ h2 z=>?_
     rw [up1 hi (by have:=hB.2.1;omega)]
     have:=ih3 n sl xs (i+1) m2 r h2 L (by omega) hv il (by omega) hxB z
     rwa [il.len] at this
   ·rw [if_neg (by simp;omega),Wp_pure]
    have:xs.drop i=[]:=List.drop_eq_nil_of_le (by omega)
    rw [this,visL] at hv
    cases hv;exact z
theorem inkS_L1 {s:Sl}{root:Int}{N:List NodeV}(G:GrR h0 s N){B:Nat}(hB:Bd N B){b2 b1 b0 bm cap k:Nat}{e:TypeId}{sl:Sl}{xs:List Int}(il:IL h0 sl xs)(hl:xs.length≤B)(a2:Sl)(a3 a4:Int) :
  ∀ (n i:Nat) (c r:List Bool) (h:AHeap) (L:List Own),k+(xs.length - i)<n→i≤xs.length→visA k N (xs.drop i) c=some r→Z h0 h (OSp b2 b1 b0 bm s root cap c e++L) →
   Wp (span_inKeys_L1 n (adr b1) (adr b2) a2 a3 a4 sl (sl.len:Int) (i:Int)) h fun _ h'=>Z h0 h' (OSp b2 b1 b0 bm s root cap r e++L):=by
 intro n
 induction n with
 | zero=>intro i c r h L h1;omega
 | succ n ih =>
  intro i c r h L h1 h2 hb z
  rw [span_inKeys_L1_succ]
  unfold span_inKeys_L1_B
  rw [il.len]
  by_cases hi:i<xs.length
  ·rw [if_pos (by simp;omega)]
   obtain⟨x,hx⟩:=getI hi
   rw [drop_cons hx,visA] at hb
   cases hb1:vis k N x c with
   | none=>rw [hb1] at hb;cases hb
   | some c1 =>
    rw [hb1] at hb
    refine (il.fr z.fr).ix (by omega) (by simpa using hx) fun a g cl=>cl.ld0 (l:=li) rfl rfl ?_
    refine z.ld 0 (o:=0) (l:=.raw) ?_
    unfold span_inKeys_D28
    rw [Wp_bind,if_pos (by rfl),Wp_bind]
    refine Wp_asFn (c:=(adr b1,adr b0,adr b2)) rfl ?_
    refine ((visS_wp G hB k).1 n x c c1 h L (by omega) hb1 z).mono fun _ h2' z=>?_
    rw [up1 h2 (by have:=hB.2.1;omega)]
    have:=ih (i+1) c1 r h2' L (by omega) (by omega) hb z
    rwa [il.len] at this
  ·rw [if_neg (by simp;omega),Wp_pure]
   have:xs.drop i=[]:=List.drop_eq_nil_of_le (by omega)
   rw [this] at hb
   cases hb;exact z
theorem inkS_L0 {s:Sl}{root:Int}{N:List NodeV}(G:GrR h0 s N){B:Nat}(hB:Bd N B){b2 b1 b0 bm cap k:Nat}{e:TypeId} :
  ∀ (n i:Nat) (c r:List Bool) (h:AHeap) (L:List Own),k+(N.length - i)+B+5<n→i≤N.length→inK k N (N.drop i) c=some r→Z h0 h (OSp b2 b1 b0 bm s root cap c e++L) →
   Wp (span_inKeys_L0 n (adr b1) (adr b2) s (s.len:Int) (i:Int)) h fun _ h'=>Z h0 h' (OSp b2 b1 b0 bm s root cap r e++L):=by
 intro n
 induction n with
 | zero=>intro i c r h L h1;omega
 | succ n ih =>
  intro i c r h L h1 h2 hb z
  rw [span_inKeys_L0_succ]
  unfold span_inKeys_L0_B
  rw [G.len]
  by_cases hi:i<N.length
  ·rw [if_pos (by simp;omega)]
   obtain⟨x,hx⟩:=getI hi
   rw [drop_cons hx,inK] at hb
   have hbd:=hB.2.2 x (List.mem_of_getElem? hx)
   cases hb1:visA k N x.keys c with
   | none=>rw [hb1] at hb;cases hb
   | some c1 =>
    rw [hb1] at hb
    simp only [Option.bind_some] at hb
    refine G.at z (by omega) (by simpa using hx) fun a ks is nd ik ii=>nd.lds ?_
    refine z.node fun x2 h2' z=>?_
    refine z.ld 0 (o:=3) (l:=.sl) (x:=ks) ?_
    have z:=z.drop
    rw [Wp_bind]
    refine (inkS_L1 (k:=k) G hB ik hbd.1 _ _ _ n 0 c c1 _ L (by omega) (by omega) (by simpa using hb1) z).mono fun _ h3 z=>?_
    have:=ih (i+1) c1 r h3 L (by omega) (by omega) hb z
    rw [up1 (Nat.le_of_lt hi) (by have:=hB.1;have:=hB.2.1;omega)]
    rwa [G.len] at this
  ·rw [if_neg (by simp;omega),Wp_pure]
   have:N.drop i=[]:=List.drop_eq_nil_of_le (by omega)
   rw [this] at hb
   cases hb;exact z
theorem inKeysS_wp {s:Sl}{root:Int}{N:List NodeV}(z:Z h0 h L)(G:GrR h0 s N){B:Nat}(hB:Bd N B){k n:Nat}(hn:k+2 * B+6<n){r:List Bool}(hr:inK k N N (List.replicate N.length false)=some r) :
  Wp (span_inKeys n (s,root)) h fun x h'=>∃ b,x=arr b N.length∧r.length=N.length∧Z h0 h' (.blk b (r.map .bool) T_bool::L):=by
 have hrl:r.length=N.length:=by have:=inK_len hr;simpa using this
 unfold span_inKeys
 refine z.new fun x0 h1' z f1=>?_
 refine z.ld 0 (o:=0) (l:=.sl) (x:=s) ?_
 rw [G.len]
 refine z.mkA (by omega) (by have:=hB.1;have:=hB.2.1;unfold bigN;omega) fun bm h2 z f2=>?_
 rw [Int.toNat_natCast] at z ⊢
 rw [rep_map (enc:=Value.bool)] at z
 refine z.new fun b1 h3 z _=>z.st 0 fun h4 z=>z.new fun b2 h5 z _=>z.st 0 fun h6 z=>?_
 refine z.ld 3 (o:=0) (l:=.sl) (x:=s) ?_
 have z:=Z.permBy (pre:=[_,_,_,_]) z [0,1,3,2] (by simp only [List.length_cons,List.length_nil];decide)
 have z:Z h0 h6 (OSp b2 b1 x0 bm s root (N.length+1) (List.replicate N.length false) T_bool++L):=by
  unfold OSp
  rw [List.length_replicate]
  exact z
 rw [Wp_bind]
 refine (inkS_L0 (k:=k) G hB n 0 _ r h6 L (by have:=hB.1;omega) (by omega) (by simpa using hr) z).mono fun _ h7 z=>?_
 refine z.ld 1 (o:=0) (l:=.sl) (x:=⟨some ⟨bm,0,none⟩,r.length,N.length+1⟩) ?_
 rw [Wp_pure]
 refine⟨bm,by rw [hrl];rfl,hrl,z.drop.drop.drop⟩
end Go.Sh
set_option linter.all false
namespace Go.Sh
open Go Go.Ago Go.Proofs
variable {α β:Type}{h h' h0:AHeap}{L:List Own}{Q:β→AHeap→Prop}
def oB (r:Bool):Unit ⊕ Bool:=if r then .inl () else .inr false
def occ0 (N:List NodeV)(S:List SpanV):Nat→List SpanV→Option Bool
 | _,[]=>some true
 | i,x::xs=>if x.parent<0 then some false else if (i:Int)<x.parent then some false else match gt S x.parent with
  | none=>none
  | some p=>if p.alias then some false else match gt N p.node with
   | none=>none
   | some nd=>if x.entry<0 then some false else if (nd.items.length:Int)≤x.entry then some false else match gt nd.items x.entry with
    | none=>none
    | some v=>if x.node=v then occ0 N S (i+1) xs else some false
def met2 (S:List SpanV):List Bool→List Int→Option (Option (List Bool))
 | m,[]=>some (some m)
 | m,k::ks=>match gt S k with
  | none=>none
  | some c=>match gt m c.entry with
   | none=>none
   | some true=>some none
   | some false=>met2 S (m.set c.entry.toNat true) ks
def occ1 (N:List NodeV)(S:List SpanV):Nat→List SpanV→List Int→Option (Option (List Int))
 | _,[],d=>some (some d)
 | i,x::xs,d=>if x.alias then occ1 N S (i+1) xs d else match bump d x.node with
  | none=>none
  | some d1=>match gt N x.node with
   | none=>none
   | some nd=>match met2 S (List.replicate nd.items.length false) (chl 0 S (i:Int)) with
    | none=>none
    | some none=>some none
    | some (some _)=>if (chl 0 S (i:Int)).length=nd.items.length then occ1 N S (i+1) xs d1 else some none
def occ3:List Bool→List Int→Bool
 | b::bs,d::ds=>if b=false∧d≠1∨b=true∧d≠0 then false else occ3 bs ds
 | _,_=>true
noncomputable def occs (k:Nat)(N:List NodeV)(root:Int)(S:List SpanV):Option Bool:=match gcheck k N root with
 | none=>none
 | some e=>if e≠0 then some false else match S with
  | []=>some false
  | f::fs=>if f.node≠root then some false else if f.parent≠-1 then some false else if f.entry≠0 then some false else if f.alias then some false else match occ0 N (f::fs) 0 fs with
   | none=>none
   | some false=>some false
   | some true=>match occ1 N (f::fs) 0 (f::fs) (List.replicate N.length 0) with
    | none=>none
    | some none=>some false
    | some (some d)=>match inK k N N (List.replicate N.length false) with
     | none=>none
     | some ms=>some (occ3 ms d)
theorem occ1_len {N:List NodeV}{S:List SpanV}:∀ {xs:List SpanV} {i:Nat} {d r:List Int},occ1 N S i xs d=some (some r)→r.length=d.length
 | [],i,d,r,he=>by cases he;rfl
 | x::xs,i,d,r,he=>by
  rw [occ1] at he
  split at he
  ·exact occ1_len he
  ·split at he
   ·cases he
   ·rename_i d1 hd
    split at he
    ·cases he
    ·split at he
     ·cases he
     ·cases he
     ·split at he
      ·rw [occ1_len he,bump_len hd]
      ·cases he
section
variable {d1:Int}{src:ByteArray}{nsl ssl tsl:Sl}{root:Int}{N:List NodeV}{S:List SpanV}{B x0 x2:Nat}
abbrev GB (b:Nat)(nsl:Sl)(root:Int):Own:=.blk b [vsl nsl,vi root] T_api_Graph
theorem occ_L0 (G:GrR h0 nsl N)(hN:Bd N B)(R:SR h0 ssl S){sl1:Sl}{X:List SpanV}(R1:SR h0 sl1 X)(hB:X.length≤B) :
  ∀ (n i:Nat) (h:AHeap) (r:Bool),X.length - i<n→i≤X.length→occ0 N S i (X.drop i)=some r→Z h0 h (GB x2 nsl root::DB x0 d1 src nsl root ssl tsl::L) →
   Wp (span_occurrences_L0 n (adr x0) (adr x2) sl1 (sl1.len:Int) (i:Int)) h fun y h'=>y=oB r∧Z h0 h' (GB x2 nsl root::DB x0 d1 src nsl root ssl tsl::L):=by
 have hB2:=hN.2.1
 intro n
 induction n with
 | zero=>intro i h r h1;omega
 | succ n ih =>
  intro i h r h1 h2 hv z
  rw [span_occurrences_L0_succ]
  unfold span_occurrences_L0_B
  rw [R1.len]
  by_cases hi:i<X.length
  ·rw [if_pos (by simp;omega)]
   obtain⟨x,hx⟩:=getI hi
   rw [drop_cons hx,occ0] at hv
   refine R1.at z (gtN hx) fun a c1=>c1.lds ?_
   refine z.span (x:=x) fun b h2' z=>?_
   have fin:some false=some r→Wp (M.pure (Sum.inr false:Unit ⊕ Bool)) h2' fun y h'=>y=oB r∧Z h0 h' (GB x2 nsl root::DB x0 d1 src nsl root ssl tsl::L):=fun e=>by
    cases e;rw [Wp_pure];exact⟨rfl,z.drop⟩
   refine z.ld 0 (o:=1) (l:=li) (x:=x.parent) ?_
   by_cases k1:x.parent<0
   ·rw [if_pos k1] at hv;rw [if_pos (by simpa using k1)];exact fin hv
   rw [if_neg k1] at hv;rw [if_neg (by simpa using k1)]
   refine z.ld 0 (o:=1) (l:=li) (x:=x.parent) ?_
   by_cases k2:(i:Int)<x.parent
   ·rw [if_pos k2] at hv;rw [if_pos (by simpa using k2)];exact fin hv
   rw [if_neg k2] at hv;rw [if_neg (by simpa using k2)]
   cases hp:gt S x.parent with
   | none=>rw [hp] at hv;cases hv
   | some p =>
   rw [hp] at hv
   simp only at hv
   refine z.ld 2 (o:=4) (l:=.sl) (x:=ssl) (z.ld 0 (o:=1) (l:=li) (x:=x.parent) ?_)
   refine R.at z hp fun a2 c2=>c2.ld 7 (l:=.bool) (y:=p.alias) ?_
   cases ha:p.alias with
   | true=>rw [ha,if_pos rfl] at hv;rw [if_pos rfl];exact fin hv
   | false =>
   rw [ha,if_neg (by simp)] at hv
   rw [if_neg (by simp)]
   unfold span_occurrences_L0_J0_B
   cases hn:gt N p.node with
   | none=>rw [hn] at hv;cases hv
   | some nd =>
   rw [hn] at hv
   simp only at hv
   refine z.ld 1 (o:=0) (l:=.sl) (x:=nsl) (z.ld 2 (o:=4) (l:=.sl) (x:=ssl) (z.ld 0 (o:=1) (l:=li) (x:=x.parent) ?_))
   refine R.at z hp fun a2 c2=>c2.ld 0 (l:=li) (y:=p.node) ?_
   obtain⟨g1,g2⟩:=gt_some hn
   refine G.at z g1 g2 fun a3 ks is nd' ik ii=>nd'.ldis ?_
   refine z.ld 0 (o:=2) (l:=li) (x:=x.entry) ?_
   by_cases k3:x.entry<0
   ·rw [if_pos k3] at hv;rw [if_pos (by simpa using k3)];exact fin hv
   rw [if_neg k3] at hv;rw [if_neg (by simpa using k3)]
   refine z.ld 0 (o:=2) (l:=li) (x:=x.entry) ?_
   rw [ii.len]
   by_cases k4:(nd.items.length:Int)≤x.entry
   ·rw [if_pos k4] at hv;rw [if_pos (by simpa using k4)];exact fin hv
   rw [if_neg k4] at hv;rw [if_neg (by simpa using k4)]
   cases hit:gt nd.items x.entry with
   | none=>rw [hit] at hv;cases hv
   | some v =>
   rw [hit] at hv
   simp only at hv
   obtain⟨q1,q2⟩:=gt_some hit
   refine z.ld 0 (o:=0) (l:=li) (x:=x.node) (z.ld 0 (o:=2) (l:=li) (x:=x.entry) ?_)
   refine (ii.fr z.fr).ix q1 q2 fun a4 g4 c4=>c4.ld0 (l:=li) rfl rfl ?_
   by_cases k5:x.node=v
   ·rw [if_pos k5] at hv;rw [if_neg (by simpa using k5)]
    rw [up1 h2 (by omega)]
    have:=ih (i+1) h2' r (by omega) (by omega) hv z.drop
    rwa [R1.len] at this
   ·rw [if_neg k5] at hv;rw [if_pos (by simpa using k5)];exact fin hv
  ·rw [if_neg (by simp;omega),Wp_pure]
   have:X.drop i=[]:=List.drop_eq_nil_of_le (by omega)
   rw [this] at hv
   cases hv;exact⟨rfl,z⟩
theorem occ_L2 (R:SR h0 ssl S){bm m:Nat}{sl:Sl}{xs:List Int}(hxB:xs.length<1073741824){MM:List Own}(hr:∀ {h':AHeap} {P':List Own},Z h0 h' (P'++MM)→IL h' sl xs)(hsl:sl.len=xs.length)(a1:Addr)(a2:Sl)(a3:Option Nat)(a4:Int)(a6:Sl)(a7 a8:Int){P1:List Own} :
  ∀ (n i:Nat) (h:AHeap) (ms:List Bool) (r:Option (List Bool)),xs.length - i<n→i≤xs.length→ms.length=m→met2 S ms (xs.drop i)=some r→Z h0 h (.blk bm (ms.map .bool) T_bool::DB x0 d1 src nsl root ssl tsl::(P1++MM)) →
   Wp (span_occurrences_L2 n (adr x0) a1 a2 a3 a4 (arr bm m) a6 a7 a8 sl (sl.len:Int) (i:Int)) h fun y h'=>y=oB r.isSome∧∃ ms:List Bool,Z h0 h' (.blk bm (ms.map .bool) T_bool::DB x0 d1 src nsl root ssl tsl::(P1++MM)):=by
 intro n
 induction n with
 | zero=>intro i h ms r h1;omega
 | succ n ih =>
  intro i h ms r h1 h2 hm hv z
  rw [span_occurrences_L2_succ]
  unfold span_occurrences_L2_B
  rw [hsl]
  by_cases hi:i<xs.length
  ·rw [if_pos (by simp;omega)]
   obtain⟨x,hx⟩:=getI hi
   rw [drop_cons hx,met2] at hv
   refine (hr (P':=_::_::P1) z).ix (by omega) (by simpa using hx) fun a g cl=>cl.ld0 (l:=li) rfl rfl ?_
   cases hg:gt S x with
   | none=>rw [hg] at hv;cases hv
   | some c =>
   rw [hg] at hv
   simp only at hv
   refine z.ld 1 (o:=4) (l:=.sl) (x:=ssl) ?_
   refine R.at z hg fun a2 c2=>c2.ld 2 (l:=li) (y:=c.entry) ?_
   cases he:gt ms c.entry with
   | none=>rw [he] at hv;cases hv
   | some b =>
   rw [he] at hv
   refine z.rdB (c:=ms) 0 (v:=b) he hm ?_
   cases b with
   | true =>
    cases hv
    rw [if_pos rfl,Wp_pure];exact⟨rfl,ms,z⟩
   | false =>
    simp only at hv
    rw [if_neg (by simp)]
    refine z.ld 1 (o:=4) (l:=.sl) (x:=ssl) ?_
    refine R.at z hg fun a2 c2=>c2.ld 2 (l:=li) (y:=c.entry) ?_
    obtain⟨q1,q2⟩:=gt_some he
    have hlt:=lt_of_get q2
    refine ixR (b:=bm) (m:=m) q1 (by omega) ?_
    refine z.stA 0 (xs:=ms) (enc:=Value.bool) (v:=true) hlt (fun h3 z=>?_)
    rw [up1 h2 (by omega)]
    have:=ih (i+1) h3 _ r (by omega) (by omega) (by simpa using hm) hv z
    rwa [hsl] at this
  ·rw [if_neg (by simp;omega),Wp_pure]
   have:xs.drop i=[]:=List.drop_eq_nil_of_le (by omega)
   rw [this] at hv
   cases hv;exact⟨rfl,ms,z⟩
theorem occ_L1 (G:GrR h0 nsl N)(hN:Bd N B)(R:SR h0 ssl S)(hB:S.length≤B){bd m:Nat}{MM:List Own}(hM:MmO MM m (chl 0 S)) :
  ∀ (n i:Nat) (h:AHeap) (d:List Int) (r:Option (List Int)),S.length - i+B+2<n→i≤S.length→d.length=N.length→occ1 N S i (S.drop i) d=some r→Z h0 h (.blk bd (d.map vi) T_i64::GB x2 nsl root::DB x0 d1 src nsl root ssl tsl::MM) →
   Wp (span_occurrences_L1 n (adr x0) (adr x2) (arr bd N.length) (some m) ssl (ssl.len:Int) (i:Int)) h fun y h'=>y=oB r.isSome∧∃ d',(∀ d2,r=some d2→d'=d2)∧Z h0 h' (.blk bd (d'.map vi) T_i64::GB x2 nsl root::DB x0 d1 src nsl root ssl tsl::MM):=by
 have hB2:=hN.2.1
 have hNB:=hN.1
 intro n
 induction n with
 | zero=>intro i h d r h1;omega
 | succ n ih =>
  intro i h d r h1 h2 hd hv z
  rw [span_occurrences_L1_succ]
  unfold span_occurrences_L1_B
  rw [R.len]
  by_cases hi:i<S.length
  ·rw [if_pos (by simp;omega)]
   obtain⟨x,hx⟩:=getI hi
   rw [drop_cons hx,occ1] at hv
   refine R.at z (gtN hx) fun a c1=>c1.lds ?_
   refine z.span (x:=x) fun b h2' z=>?_
   refine z.ld 0 (o:=7) (l:=.bool) (x:=x.alias) ?_
   have nxt:∀ {h2':AHeap} {d:List Int},d.length=N.length→occ1 N S (i+1) (S.drop (i+1)) d=some r→Z h0 h2' (.blk bd (d.map vi) T_i64::GB x2 nsl root::DB x0 d1 src nsl root ssl tsl::MM) →
     Wp (span_occurrences_L1 n (adr x0) (adr x2) (arr bd N.length) (some m) ssl (S.length:Int) (IntKind.i64.wrap ((i:Int)+1))) h2' fun y h'=>y=oB r.isSome∧∃ d',(∀ d2,r=some d2→d'=d2)∧Z h0 h' (.blk bd (d'.map vi) T_i64::GB x2 nsl root::DB x0 d1 src nsl root ssl tsl::MM):=fun hd hv z=>by
    rw [up1 h2 (by omega)]
    have:=ih (i+1) _ _ r (by omega) (by omega) hd hv z
    rwa [R.len] at this
   cases ha:x.alias with
   | true =>
    rw [ha,if_pos rfl] at hv
    rw [if_pos rfl];exact nxt hd hv z.drop
   | false =>
   rw [ha,if_neg (by simp)] at hv
   rw [if_neg (by simp)]
   cases hb:bump d x.node with
   | none=>rw [hb] at hv;cases hv
   | some dd =>
   rw [hb] at hv
   simp only at hv
   cases hn:gt N x.node with
   | none=>rw [hn] at hv;cases hv
   | some nd =>
   rw [hn] at hv
   simp only at hv
   have hbd:=hN.2.2 nd (List.mem_of_getElem? (gt_some hn).2)
   cases h2m:met2 S (List.replicate nd.items.length false) (chl 0 S (i:Int)) with
   | none=>rw [h2m] at hv;cases hv
   | some q =>
   rw [h2m] at hv
   refine z.ld 0 (o:=0) (l:=li) (x:=x.node) ?_
   refine bump_wp (i:=1) z rfl hb hd.symm fun h3 z=>?_
   have z:Z h0 h3 (.blk b x.enc T_api_Span::.blk bd (dd.map vi) T_i64::GB x2 nsl root::DB x0 d1 src nsl root ssl tsl::MM):=z
   have hdd:dd.length=N.length:=by rw [bump_len hb];exact hd
   refine z.ld 2 (o:=0) (l:=.sl) (x:=nsl) (z.ld 0 (o:=0) (l:=li) (x:=x.node) ?_)
   obtain⟨g1,g2⟩:=gt_some hn
   refine G.at z g1 g2 fun a3 ks is nd' ik ii=>nd'.ldis ?_
   rw [ii.len]
   refine z.mkA (by omega) (by unfold bigN;omega) fun bm h4 z _=>?_
   rw [Int.toNat_natCast] at z ⊢
   rw [rep_map (enc:=Value.bool)] at z
   have hcl:=chl_len (i:Int) S 0
   refine Z.mmget (P':=[_,_,_,_,_]) z hM fun bb sl hr=>?_
   have hsl:sl.len=(chl 0 S (i:Int)).length:=(hr (P2:=[_,_,_,_,_]) z).len
   have z:=Z.permBy (pre:=[_,_,_,_,_]) z [0,4,1,2,3] (by simp only [List.length_cons,List.length_nil];decide)
   rw [Wp_bind]
   refine (occ_L2 R (m:=nd.items.length) (xs:=chl 0 S (i:Int)) (by omega) hr hsl (adr x2) (arr bd N.length) (some m) (i:Int) ssl (S.length:Int) (i:Int) (P1:=[_,_,_]) n 0 h4 _ q (by omega) (by omega) (by simp) (by simpa using h2m) z).mono fun y h5 hy=>?_
   obtain⟨rfl,ms,z⟩:=hy
   have z:=Z.permBy (pre:=[_,_,_,_,_]) z [0,2,3,4,1] (by simp only [List.length_cons,List.length_nil];decide)
   cases q with
   | none =>
    cases hv
    exact Wp_pure.2 ⟨rfl,dd,by simp,z.drop.drop⟩
   | some q =>
    simp only at hv
    show Wp (M.bind _ _) h5 _
    refine Z.mmget (P':=[_,_,_,_,_]) z hM fun bb sl hr2=>?_
    have hsl:sl.len=(chl 0 S (i:Int)).length:=(hr2 (P2:=[_,_,_,_,_]) z).len
    simp only [hsl]
    by_cases k1:(chl 0 S (i:Int)).length=nd.items.length
    ·rw [if_pos k1] at hv
     rw [if_neg (by simp [arr,k1])]
     exact nxt hdd hv z.drop.drop
    ·rw [if_neg k1] at hv;cases hv
     rw [if_pos (by simp;omega),Wp_pure]
     exact⟨rfl,dd,by simp,z.drop.drop⟩
  ·rw [if_neg (by simp;omega),Wp_pure]
   have:S.drop i=[]:=List.drop_eq_nil_of_le (by omega)
   rw [this] at hv
   cases hv;exact⟨rfl,d,fun d2 e=>Option.some.inj e,z⟩
theorem occ_L3 {bk bd m:Nat}{ks:List Bool}{d:List Int}(hk:ks.length=m)(hc:d.length=m)(hb:m<1073741824)(z:Z h0 h (.blk bk (ks.map .bool) T_bool::.blk bd (d.map vi) T_i64::L)) :
  ∀ (n i:Nat),m - i<n→i≤m→Wp (span_occurrences_L3 n (arr bd m) (arr bk m) (m:Int) (i:Int)) h fun y h'=>y=oB (occ3 (ks.drop i) (d.drop i))∧h'=h:=by
 intro n
 induction n with
 | zero=>intro i h1;omega
 | succ n ih =>
  intro i h1 h2
  rw [span_occurrences_L3_succ]
  unfold span_occurrences_L3_B
  by_cases hi:i<m
  ·rw [if_pos (by simp;omega)]
   obtain⟨b,hb⟩:=getI (l:=ks) (i:=i) (by omega)
   obtain⟨v,hv⟩:=getI (l:=d) (i:=i) (by omega)
   have hg:occ3 (ks.drop i) (d.drop i)=if b=false∧v≠1∨b=true∧v≠0 then false else occ3 (ks.drop (i+1)) (d.drop (i+1)):=by rw [drop_cons hb,drop_cons hv,occ3]
   rw [hg]
   clear hg
   refine z.rdB (c:=ks) 0 (v:=b) (gtN hb) hk ?_
   have hnx:=ih (i+1) (by omega) (by omega)
   rw [← up1 h2 (by omega)] at hnx
   cases b with
   | false =>
    rw [if_pos (by rfl)]
    refine z.rdI (c:=d) 1 (v:=v) (gtN hv) hc ?_
    by_cases h1:v=1
    ·have e:(if false=false∧v≠1∨false=true∧v≠0 then false else occ3 (ks.drop (i+1)) (d.drop (i+1)))=occ3 (ks.drop (i+1)) (d.drop (i+1)):=if_neg (by simp [h1])
     rw [e,if_neg (by simpa using h1),if_neg (by simp)]
     exact hnx
    ·have e:(if false=false∧v≠1∨false=true∧v≠0 then false else occ3 (ks.drop (i+1)) (d.drop (i+1)))=false:=if_pos (by simp [h1])
     rw [e,if_pos (by simpa using h1),Wp_pure]
     exact⟨rfl,rfl⟩
   | true =>
    rw [if_neg (by simp),if_pos rfl]
    refine z.rdI (c:=d) 1 (v:=v) (gtN hv) hc ?_
    by_cases h1:v=0
    ·have e:(if true=false∧v≠1∨true=true∧v≠0 then false else occ3 (ks.drop (i+1)) (d.drop (i+1)))=occ3 (ks.drop (i+1)) (d.drop (i+1)):=if_neg (by simp [h1])
     rw [e,if_neg (by simpa using h1)]
     exact hnx
    ·have e:(if true=false∧v≠1∨true=true∧v≠0 then false else occ3 (ks.drop (i+1)) (d.drop (i+1)))=false:=if_pos (by simp [h1])
     rw [e,if_pos (by simpa using h1),Wp_pure]
     exact⟨rfl,rfl⟩
  ·rw [if_neg (by simp;omega),Wp_pure]
   have e1:ks.drop i=[]:=List.drop_eq_nil_of_le (by omega)
   rw [e1]
   exact⟨rfl,rfl⟩
end
end Go.Sh
set_option linter.all false
namespace Go.Sh
open Go Go.Ago Go.Proofs
variable {α β:Type}{h h' h0:AHeap}{L:List Own}{Q:β→AHeap→Prop}
theorem Cl.sub {a:Addr}{vs:List Value}{g o n:Nat}(c:Cl h a vs g)(ho:o+n≤vs.length):Cl h (a.plus o) ((vs.drop o).take n) g:=by
 obtain⟨h1,c,base,e,h2,h3,h4⟩:=c
 have hl:((vs.drop o).take n).length=n:=by simp;omega
 refine⟨rfl,c,base,e,h2,?_,?_⟩
 ·show a.off+o+_≤_
  rw [hl];omega
 ·show (c.drop (a.off+o)).take _=_
  rw [hl]
  conv=>rhs;rw [← h4]
  rw [List.drop_take,List.take_take,List.drop_drop]
  congr 1;omega
theorem SR.tail {s:Sl}{x:SpanV}{X:List SpanV}{c:Nat}(r:SR h s (x::X)):SR h ⟨s.a.map (·.plus 9),s.len - 1,c⟩ X:=by
 have hl:=r.len
 obtain⟨g,h1,h2⟩:=r
 have hlen:(X.flatMap SpanV.enc).length=X.length * 9:=by rw [flat_length SpanV.enc_len]
 refine⟨g,by simp only;rw [hlen,hl,List.length_cons];simp,?_⟩
 rcases h2 with h2 | ⟨a,h2,h3⟩
 ·rw [hl] at h2;simp at h2
 ·refine .inr ⟨a.plus 9,by simp [h2],?_⟩
  have hd:((x::X).flatMap SpanV.enc).length=9+X.length * 9:=by rw [flat_length SpanV.enc_len,List.length_cons];omega
  have:=Cl.sub (o:=9) (n:=X.length * 9) h3 (by rw [hd];exact Nat.le_refl _)
  have e:(((x::X).flatMap SpanV.enc).drop 9).take (X.length * 9)=X.flatMap SpanV.enc:=by
   rw [List.flatMap_cons,List.drop_append_of_le_length (by simp [SpanV.enc_len]),show x.enc.drop 9=[] from rfl,List.nil_append,List.take_of_length_le (by omega)]
  rw [e] at this;exact this
section
variable {d1:Int}{src:ByteArray}{nsl ssl tsl:Sl}{root:Int}{N:List NodeV}{S:List SpanV}{T:List NoteV}{B:Nat}
theorem occurrences_wp (z:Z h0 h L)(G:GrR h0 nsl N)(hN:Bd N B)(ht:∀ x ∈ N,x.text.size≤65536)(R:SR h0 ssl S)(hE:∀ h',Fr (fun _=>False) h0 h'→ssl.len≠0→elemOk h' ssl T_api_Span=true)(hB:S.length≤B){k n:Nat}(hn:k+4 * B+65600<n){r:Bool}(hv:occs k N root S=some r) :
  Wp (span_occurrences n (d1,src,nsl,root,ssl,tsl)) h fun y h'=>y=r∧Z h0 h' L:=by
 have hB2:=hN.2.1
 have hNB:=hN.1
 unfold span_occurrences
 unfold occs at hv
 refine z.new fun x0 h1 z _=>?_
 have cd:Cl h1 ⟨x0,0,none⟩ [vi d1,.string src,vsl nsl,vi root,vsl ssl,vsl tsl] (x0+1):=z.cl 0 rfl
 have cd2:Cl h1 ((adr x0).plus 2) [vsl nsl,vi root] (x0+1):=Cl.sub (n:=2) cd (by simp)
 refine cd2.lds (ls:=[.sl,li]) (x:=(nsl,root)) rfl ?_
 refine z.new fun x2 h2 z _=>z.st 0 fun h3 z=>?_
 refine z.lds 0 (ls:=[.sl,li]) (x:=(nsl,root)) ?_
 cases hc:gcheck k N root with
 | none=>rw [hc] at hv;cases hv
 | some e =>
 rw [hc] at hv
 simp only at hv
 rw [Wp_bind]
 refine (Check_wp z G hN ht hn hc).mono fun y h4 hy=>?_
 obtain⟨rfl,z⟩:=hy
 have fin:∀ {h4:AHeap},Z h0 h4 (GB x2 nsl root::DB x0 d1 src nsl root ssl tsl::L)→some false=some r→Wp (M.pure false) h4 fun y h'=>y=r∧Z h0 h' L:=fun z e=>by
  cases e;rw [Wp_pure];exact⟨rfl,z.drop.drop⟩
 by_cases k0:y=0
 ·rw [if_neg (by simpa using k0)] at hv
  rw [if_neg (by simpa using k0)]
  refine z.ld 1 (o:=4) (l:=.sl) (x:=ssl) ?_
  rw [R.len]
  cases S with
  | nil =>
   rw [if_pos (by simp)];exact fin z hv
  | cons f fs =>
   simp only at hv
   rw [if_neg (by simp;omega)]
   unfold span_occurrences_J0
   refine z.ld 1 (o:=4) (l:=.sl) (x:=ssl) ?_
   refine R.at z (k:=0) (x:=f) rfl fun a c1=>c1.lds ?_
   refine z.span (x:=f) fun b h5 z=>?_
   have z0:=z
   refine z.ld 0 (o:=0) (l:=li) (x:=f.node) (z.ld 1 (o:=1) (l:=li) (x:=root) ?_)
   by_cases k1:f.node=root
   ·rw [if_neg (by simpa using k1)] at hv
    rw [if_neg (by simpa using k1)]
    refine z.ld 0 (o:=1) (l:=li) (x:=f.parent) ?_
    by_cases k2:f.parent=-1
    ·rw [if_neg (by simpa using k2)] at hv
     rw [if_neg (by simpa using k2)]
     refine z.ld 0 (o:=2) (l:=li) (x:=f.entry) ?_
     by_cases k3:f.entry=0
     ·rw [if_neg (by simpa using k3)] at hv
      rw [if_neg (by simpa using k3)]
      refine z.ld 0 (o:=7) (l:=.bool) (x:=f.alias) ?_
      cases ha:f.alias with
      | true=>rw [ha,if_pos rfl] at hv;rw [if_pos rfl];exact fin z.drop hv
      | false =>
      rw [ha,if_neg (by simp)] at hv
      rw [if_neg (by simp)]
      have z:=z.drop
      unfold span_occurrences_J1
      refine z.ld 1 (o:=4) (l:=.sl) (x:=ssl) ?_
      have hlen:=R.len
      rw [List.length_cons] at hlen
      rw [Wp_bind]
      refine Wp_sliceL (by decide) (by omega) (by omega) (hE _ z.fr (by omega)) ?_
      have R1:SR h0 ⟨ssl.a.map (·.plus ((1:Int).toNat * 9)),((ssl.len:Nat):Int).toNat - (1:Int).toNat,ssl.cap - (if ssl.cap=0 then 0 else (1:Int).toNat)⟩ fs:=SR.tail (c:=ssl.cap - (if ssl.cap=0 then 0 else (1:Int).toNat)) R
      cases h0c:occ0 N (f::fs) 0 fs with
      | none=>rw [h0c] at hv;cases hv
      | some b0 =>
      rw [h0c] at hv
      rw [Wp_bind]
      refine (occ_L0 G hN R R1 (B:=B) (by simp at hB;omega) n 0 h5 b0 (by simp at hB;omega) (by omega) (by simpa using h0c) z).mono fun y h6 hy=>?_
      obtain⟨rfl,z⟩:=hy
      cases b0 with
      | false=>exact fin z hv
      | true =>
      simp only at hv
      show Wp (M.bind _ _) h6 _
      refine z.ld 0 (o:=0) (l:=.sl) (x:=nsl) ?_
      rw [G.len]
      refine z.mkA (by omega) (by unfold bigN;omega) fun bd h7 z _=>?_
      rw [Int.toNat_natCast] at z ⊢
      rw [rep_map (enc:=vi)] at z
      refine z.lds 2 (ls:=[li,.str,.sl,li,.sl,.sl]) (x:=(d1,src,nsl,root,ssl,tsl)) ?_
      rw [Wp_bind]
      refine (children_wp z R hB hB2 (by omega)).mono fun y h8 hy=>?_
      obtain⟨m,MM,rfl,hM,z⟩:=hy
      have hM':MmO (MM++L) m (chl 0 (f::fs)):=by
       obtain⟨f,c,h1,h2⟩:=hM
       exact⟨f,c,List.mem_append_left _ h1,fun p=>(h2 p).imp id fun ⟨s,g,e,hm⟩=>⟨s,g,e,List.mem_append_left _ hm⟩⟩
      have z:=z.perm (L':=.blk bd ((List.replicate N.length 0).map vi) T_i64::GB x2 nsl root::DB x0 d1 src nsl root ssl tsl::(MM++L)) (by
       refine List.perm_middle.trans (List.Perm.cons _ (List.perm_middle.trans (List.Perm.cons _ (List.perm_middle.trans (List.Perm.refl _)))))  )
      refine z.ld 2 (o:=4) (l:=.sl) (x:=ssl) ?_
      cases h1c:occ1 N (f::fs) 0 (f::fs) (List.replicate N.length 0) with
      | none=>rw [h1c] at hv;cases hv
      | some q =>
      rw [h1c] at hv
      rw [Wp_bind]
      refine (occ_L1 G hN R hB hM' n 0 h8 _ q (by omega) (by omega) (by simp) (by simpa using h1c) z).mono fun y h9 hy=>?_
      obtain⟨rfl,d',hd',z⟩:=hy
      have sub:List.Sublist L (MM++L):=List.sublist_append_right _ _
      cases q with
      | none=>cases hv;exact Wp_pure.2 ⟨rfl,(z.drop.drop.drop).sub sub⟩
      | some d2 =>
      obtain rfl:=hd' d2 rfl
      simp only at hv
      show Wp (M.bind _ _) h9 _
      refine z.lds 1 (ls:=[.sl,li]) (x:=(nsl,root)) ?_
      cases hik:inK k N N (List.replicate N.length false) with
      | none=>rw [hik] at hv;cases hv
      | some ms =>
      rw [hik] at hv
      rw [Wp_bind]
      refine (inKeysS_wp (k:=k) z G hN (by omega) hik).mono fun y h10 hy=>?_
      obtain⟨bk,rfl,hml,z⟩:=hy
      rw [Wp_bind]
      have hdl:d'.length=N.length:=by rw [occ1_len h1c];simp
      refine (occ_L3 hml hdl (by omega) z n 0 (by omega) (by omega)).mono fun y h11 hy=>?_
      obtain⟨rfl,rfl⟩:=hy
      simp only [List.drop_zero]
      cases hv
      have zz:=(z.drop.drop.drop.drop).sub sub
      cases occ3 ms d' with
      | true=>exact Wp_pure.2 ⟨rfl,zz⟩
      | false=>exact Wp_pure.2 ⟨rfl,zz⟩
     ·rw [if_pos k3] at hv
      rw [if_pos (by simpa using k3)];exact fin z.drop hv
    ·rw [if_pos k2] at hv
     rw [if_pos (by simpa using k2)];exact fin z.drop hv
   ·rw [if_pos k1] at hv
    rw [if_pos (by simpa using k1)];exact fin z.drop hv
 ·rw [if_pos k0] at hv
  rw [if_pos (by simpa using k0)];exact fin z hv
noncomputable def spCheck (k:Nat)(d1:Int)(src:ByteArray)(N:List NodeV)(root:Int)(S:List SpanV)(T:List NoteV):Option Int :=
 if ¬ (0≤d1∧d1<9) then some 1 else if ¬ src.size≤65536 then some 6 else match occs k N root S with
  | none=>none
  | some false=>some 3
  | some true=>match rngs src N S T with
   | none=>none
   | some false=>some 2
   | some true=>match nst0 N S 0 S with
    | none=>none
    | some false=>some 17
    | some true=>some 0
theorem spanCheck_wp (z:Z h0 h L)(G:GrR h0 nsl N)(hN:Bd N B)(ht:∀ x ∈ N,x.text.size≤65536)(R:SR h0 ssl S)(RT:NtR h0 tsl T)(hE:∀ h',Fr (fun _=>False) h0 h'→ssl.len≠0→elemOk h' ssl T_api_Span=true)(hB:S.length≤B)(hBT:T.length≤B){k n:Nat}(hn:k+4 * B+65610<n){r:Int}(hv:spCheck k d1 src N root S T=some r) :
  Wp (span_Check n (d1,src,nsl,root,ssl,tsl)) h fun y h'=>y=r∧Z h0 h' L:=by
 have hB2:=hN.2.1
 unfold span_Check
 unfold spCheck at hv
 refine z.new fun x0 h1 z _=>z.new fun x1 h2 z _=>z.st 0 fun h3 z=>?_
 let F (f:FuncId):Value:=Value.func (Fn.func f) #[] #[Value.pointer (some (adr x0))]
 refine z.lds 0 (ls:=[.raw,.raw,.raw,.raw,.raw]) (x:=(F F_span_Check_1,F F_span_Check_2,F F_span_Check_3,F F_span_Check_4,F F_span_Check_5)) ?_
 have z:=z.drop
 obtain⟨n',rfl⟩:∃ n',n=n'+6:=⟨n - 6,by omega⟩
 have fin:∀ (r':Int) {h':AHeap},some r'=some r→Z h0 h' (DB x0 d1 src nsl root ssl tsl::L)→Wp (M.pure (Sum.inr r':Unit ⊕ Int)) h' fun a h'=>Wp (sumElim (fun _=>M.pure 0) (fun x4=>M.pure x4) a) h' fun y h'=>y=r∧Z h0 h' L:=fun r' h' e z=>by
  cases e;rw [Wp_pure];exact Wp_pure.2 ⟨rfl,z.drop⟩
 have round:∀ (i:Nat) (f:FuncId) (m:Nat→Addr→M (Bool×Int)) (b:Bool) (e:Int) (k:Nat) {h3:AHeap},i<5→[F F_span_Check_1,F F_span_Check_2,F F_span_Check_3,F F_span_Check_4,F F_span_Check_5][i]?=some (F f) →
   (∀ n,span_Check_D19 n (F f)=M.bind (asFn [.one (.adr)] (F f)) fun (c:Addr)=>m n c)→Wp (m k (adr x0)) h3 (fun y h'=>y=(b,e)∧Z h0 h' (DB x0 d1 src nsl root ssl tsl::L)) →
   (∀ h',Z h0 h' (DB x0 d1 src nsl root ssl tsl::L)→Wp (if b=true then span_Check_L0 k (F F_span_Check_1,F F_span_Check_2,F F_span_Check_3,F F_span_Check_4,F F_span_Check_5) ((i:Int)+1) else M.pure (Sum.inr e)) h' fun a h'=>Wp (sumElim (fun _=>M.pure 0) (fun x4=>M.pure x4) a) h' fun y h'=>y=r∧Z h0 h' L) →
   Wp (span_Check_L0 (k+1) (F F_span_Check_1,F F_span_Check_2,F F_span_Check_3,F F_span_Check_4,F F_span_Check_5) (i:Int)) h3 fun a h'=>Wp (sumElim (fun _=>M.pure 0) (fun x4=>M.pure x4) a) h' fun y h'=>y=r∧Z h0 h' L:=by
  intro i f m b e k h3 hi hf hD hm hq
  rw [span_Check_L0_succ]
  unfold span_Check_L0_B
  rw [if_pos (by simp;omega),Wp_bind]
  refine Wp_idxC (v:=F f) (by omega) (by omega) (by rw [Int.toNat_natCast];exact hf) rfl ?_
  rw [Wp_bind,hD,Wp_bind]
  refine Wp_asFn (c:=adr x0) rfl ?_
  refine hm.mono fun y h4 hy=>?_
  obtain⟨rfl,z⟩:=hy
  have:=hq h4 z
  cases b with
  | true =>
   rw [if_pos rfl] at this
   rw [if_neg (by simp),show IntKind.i64.wrap ((i:Int)+1)=(i:Int)+1 from wrap1 (by omega) (by omega)]
   exact this
  | false =>
   rw [if_neg (by simp)] at this
   rw [if_pos (by rfl)]
   exact this
 rw [Wp_bind]
 refine round 0 F_span_Check_1 span_Check_1 (decide (0≤d1∧d1<9)) 1 (n'+5) (by decide) rfl (fun n=>rfl) ?_ fun h4 z=>?_
 ·unfold span_Check_1
  refine z.ld 0 (o:=0) (l:=li) (x:=d1) ?_
  by_cases k1:0≤d1
  ·rw [if_pos (by simpa using k1)]
   refine z.ld 0 (o:=0) (l:=li) (x:=d1) ?_
   rw [Wp_pure];exact⟨by simp [k1],z⟩
  ·rw [if_neg (by simpa using k1),Wp_pure];exact⟨by simp [k1],z⟩
 by_cases c1:0≤d1∧d1<9
 case neg =>
  rw [if_pos c1] at hv
  rw [if_neg (by simpa using c1)];exact fin 1 hv z
 rw [if_neg (by simpa using c1)] at hv
 rw [if_pos (by simpa using c1)]
 refine round 1 F_span_Check_2 span_Check_2 (decide ((src.size:Int)≤65536)) 6 (n'+4) (by decide) rfl (fun n=>rfl) ?_ fun h5 z=>?_
 ·unfold span_Check_2
  refine z.ld 0 (o:=1) (l:=.str) (x:=src) ?_
  rw [Wp_pure];exact⟨rfl,z⟩
 by_cases c2:src.size≤65536
 case neg =>
  rw [if_pos c2] at hv
  rw [if_neg (by simp;omega)];exact fin 6 hv z
 rw [if_neg (by simpa using c2)] at hv
 rw [if_pos (by simp;omega)]
 cases ho:occs k N root S with
 | none=>rw [ho] at hv;cases hv
 | some b3 =>
 rw [ho] at hv
 refine round 2 F_span_Check_3 span_Check_3 b3 3 (n'+3) (by decide) rfl (fun n=>rfl) ?_ fun h6 z=>?_
 ·unfold span_Check_3
  refine z.lds 0 (ls:=[li,.str,.sl,li,.sl,.sl]) (x:=(d1,src,nsl,root,ssl,tsl)) ?_
  rw [Wp_bind]
  refine (occurrences_wp z G hN ht R hE hB (by omega) ho).mono fun y h' hy=>?_
  obtain⟨rfl,z⟩:=hy
  rw [Wp_pure];exact⟨rfl,z⟩
 cases b3 with
 | false=>exact fin 3 hv z
 | true =>
 rw [if_pos rfl]
 simp only at hv
 cases hr:rngs src N S T with
 | none=>rw [hr] at hv;cases hv
 | some b4 =>
 rw [hr] at hv
 refine round 3 F_span_Check_4 span_Check_4 b4 2 (n'+2) (by decide) rfl (fun n=>rfl) ?_ fun h7 z=>?_
 ·unfold span_Check_4
  refine z.lds 0 (ls:=[li,.str,.sl,li,.sl,.sl]) (x:=(d1,src,nsl,root,ssl,tsl)) ?_
  rw [Wp_bind]
  refine (ranges_wp z G R RT hB hBT hB2 (by omega) hr).mono fun y h' hy=>?_
  obtain⟨rfl,z⟩:=hy
  rw [Wp_pure];exact⟨rfl,z⟩
 cases b4 with
 | false=>exact fin 2 hv z
 | true =>
 rw [if_pos rfl]
 simp only at hv
 cases hs:nst0 N S 0 S with
 | none=>rw [hs] at hv;cases hv
 | some b5 =>
 rw [hs] at hv
 refine round 4 F_span_Check_5 span_Check_5 b5 17 (n'+1) (by decide) rfl (fun n=>rfl) ?_ fun h8 z=>?_
 ·unfold span_Check_5
  refine z.lds 0 (ls:=[li,.str,.sl,li,.sl,.sl]) (x:=(d1,src,nsl,root,ssl,tsl)) ?_
  rw [Wp_bind]
  refine (nested_wp z G R hB hB2 (by omega) hs).mono fun y h' hy=>?_
  obtain⟨rfl,z⟩:=hy
  rw [Wp_pure];exact⟨rfl,z⟩
 cases b5 with
 | false=>exact fin 17 hv z
 | true =>
 rw [if_pos rfl]
 cases hv
 show Wp (span_Check_L0 (n'+1) _ 5) h8 _
 rw [span_Check_L0_succ]
 unfold span_Check_L0_B
 rw [if_neg (by decide),Wp_pure]
 exact Wp_pure.2 ⟨rfl,z.drop⟩
end
end Go.Sh
