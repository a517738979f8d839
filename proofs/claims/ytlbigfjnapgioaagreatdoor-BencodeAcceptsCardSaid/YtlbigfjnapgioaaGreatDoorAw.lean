
import Derived.Test.YtlbigfjnapgioaaGreatDoorBw
set_option linter.all false
namespace Go.Sh
open Go Go.Ago Go.Proofs
variable {h h' : AHeap} {S S' : PSt} {n : Nat}
theorem StC.ldSpan {c nc : List Value} (st : StC h S c nc) {i bn o : Nat} {x : SpanV} (hi : S.spans[i]? = some x) (ha : S.ssl.a = some ⟨bn,0,none⟩) (ho : o < 9) {v : Int} (hv : x.enc[o]? = some (vi v)) : h.ldI .i64 bn (i * 9 + o) = some v:=by
 have hlt:=(List.getElem?_eq_some_iff.1 hi).1
 obtain ⟨b2,base,h1,h2,_⟩:=st.spanBlk (by omega)
 rw [ha] at h1;cases h1
 unfold AHeap.ldI AHeap.ld
 rw [h2]
 simp only
 rw [flat_get SpanV.enc_len hi ho,hv];rfl
def ex1 (r : Option (Rs PV)) : Bool:=match r with
 | some (.ok p)=>Nat.beq p.spans.length 5 && (match p.spans[2]? with | some y=>decide (y.frm = 9∧y.to = 18∧y.kf = 6) | none=>false)
 | _=>false
def exE (r : Option (Rs PV)) (a : Nat) (e : Int) : Bool:=match r with
 | some (.error q)=>decide (q.1 = a∧q.2 = e)
 | _=>false
theorem ex_1 : ex1 (spParse (ofBytes [100,49,58,97,48,58,49,58,98,108,105,49,101,105,45,50,101,101,101]) 60) = true:=by kernel_rfl
theorem ex_2 : exE (spParse (ofBytes [105,48,49,101]) 60) 0 12 = true:=by kernel_rfl
theorem ex_3 : exE (spParse (ofBytes [51,58,97,98]) 60) 4 4 = true:=by kernel_rfl
theorem exE_get {r : Option (Rs PV)} {a : Nat} {e : Int} (h : exE r a e = true) : r = some (.error (a,e)):=by
 unfold exE at h
 split at h
 ·rename_i q
  have:=of_decide_eq_true h
  obtain ⟨a',e'⟩:=q
  simp at this
  rw [this.1,this.2]
 ·cases h
theorem ex1_get {r : Option (Rs PV)} (h : ex1 r = true) : ∃ p,r = some (.ok p)∧p.spans.length = 5∧∃ y,p.spans[2]? = some y∧y.frm = 9∧y.to = 18∧y.kf = 6:=by
 unfold ex1 at h
 split at h
 ·rename_i p
  rw [Bool.and_eq_true] at h
  refine ⟨p,rfl,Nat.eq_of_beq_eq_true h.1,?_⟩
  have h2:=h.2
  split at h2
  ·rename_i y hy
   have:=of_decide_eq_true h2
   exact ⟨y,hy,this⟩
  ·cases h2
 ·cases h
theorem keep_doc {α : Type} {k : Nat → M α} {d : DocT} {Q : α → AHeap → Prop} (hw : WF h) (hq : ∀ b h',Fr (fun _=>False) h h' → h.next < h'.next → b = h.next → LB h' b [vi d.1,Value.string d.2.1,vsl d.2.2.1,vi d.2.2.2.1,vsl d.2.2.2.2.1,vsl d.2.2.2.2.2] T_api_Doc → Wp (k b) h' Q) :
  Wp (M.bind (newB none T_api_Doc [vi 0,Value.string (ofBytes []),vsl0,vi 0,vsl0,vsl0]) fun x1=>M.bind (stN (adr x1) [vi d.1,Value.string d.2.1,vsl d.2.2.1,vi d.2.2.2.1,vsl d.2.2.2.2.1,vsl d.2.2.2.2.2]) fun _=>k x1) h Q:=by
 rw [Wp_bind,Wp_new]
 refine ⟨rfl,?_⟩
 have f1:=Fr.new (e:=T_api_Doc) (cs:=[vi 0,Value.string (ofBytes []),vsl0,vi 0,vsl0,vsl0]) hw
 have l1:=LB.new (h:=h) (e:=T_api_Doc) (cs:=[vi 0,Value.string (ofBytes []),vsl0,vi 0,vsl0,vsl0])
 have nx : (h.new T_api_Doc [vi 0,Value.string (ofBytes []),vsl0,vi 0,vsl0,vsl0]).next = h.next + 1:=rfl
 generalize h.new T_api_Doc [vi 0,Value.string (ofBytes []),vsl0,vi 0,vsl0,vsl0] = h1 at *
 rw [Wp_bind]
 refine l1.st f1.wf (by simp) rfl fun h2 l2 f2=>?_
 exact hq _ h2 (f1.fresh hw f2 fun g hg=>.inr (by omega)) (by have:=f2.next;omega) rfl l2
theorem ite_yes {α : Type} {c : Prop} [Decidable c] {a b : M α} {h : AHeap} {Q : α → AHeap → Prop} (hc : c) (ha : Wp a h Q) : Wp (if c then a else b) h Q:=by rw [if_pos hc];exact ha
theorem awake_wp (hw : WF h) (hn : 300 ≤ n) : Wp (rosettalaw34_awake n) h fun x h'=>x = true∧Fr (fun _=>False) h h':=by
 unfold rosettalaw34_awake
 obtain ⟨p,e1,hp5,y,hy,y1,y2,y3⟩:=ex1_get ex_1
 have e2:=exE_get ex_2
 have e3:=exE_get ex_3
 rw [Wp_bind]
 refine (bencode_Parse_wp hw (Nat.le_trans (by decide) hn) e1).mono fun x0 h0 hx=>?_
 obtain ⟨f0,S,st,hg,rfl,hns,hsp⟩:=hx
 refine keep_doc f0.wf fun b1 h1 f1 nx1 hb1 l1=>?_
 obtain ⟨st1,_⟩:=st.pure f1
 rw [Wp_bind]
 refine (bencode_Parse_wp f1.wf (Nat.le_trans (by decide) hn) e2).mono fun x3 h2 hx=>?_
 obtain ⟨f2,rfl,_⟩:=hx
 obtain ⟨st2,_⟩:=st1.pure f2
 refine keep_doc f2.wf fun b3 h3 f3 _ _ _=>?_
 obtain ⟨st3,_⟩:=st2.pure f3
 rw [Wp_bind]
 refine (bencode_Parse_wp f3.wf (Nat.le_trans (by decide) hn) e3).mono fun x4 h4 hx=>?_
 obtain ⟨f4,rfl,_⟩:=hx
 obtain ⟨st4,_⟩:=st3.pure f4
 refine keep_doc f4.wf fun b5 h5 f5 _ _ _=>?_
 obtain ⟨st5,_⟩:=st4.pure f5
 have no : ∀ g : Nat,False → (fun _ : Nat=>False) g ∨ h.next < g:=fun _ h=>h.elim
 have F:=((((f0.fresh hw f1 no).fresh hw f2 no).fresh hw f3 no).fresh hw f4 no).fresh hw f5 no
 have l5:=(((l1.fr f2 (fun h=>h)).fr f3 (fun h=>h)).fr f4 (fun h=>h)).fr f5 (fun h=>h)
 have hl : h5.ldV b1 4 = some S.ssl:=l5.ld (lf:=.sl) (v:=vsl S.ssl) rfl rfl
 have hlen:=st5.spans_len
 have hlen5 : S.ssl.len = 5:=by rw [hlen,hsp,hp5]
 obtain ⟨bn,base,ha,_,_⟩:=st5.spanBlk (by rw [hsp,hp5];decide)
 have hy' : S.spans[2]? = some y:=by rw [hsp];exact hy
 have q1 : h5.ldI .i64 bn 21 = some 9:=st5.ldSpan (i:=2) hy' ha (o:=3) (by omega) (v:=9) (by rw [← y1];rfl)
 have q2 : h5.ldI .i64 bn 22 = some 18:=st5.ldSpan (i:=2) hy' ha (o:=4) (by omega) (v:=18) (by rw [← y2];rfl)
 have q3 : h5.ldI .i64 bn 23 = some 6:=st5.ldSpan (i:=2) hy' ha (o:=5) (by omega) (v:=6) (by rw [← y3];rfl)
 have t2 : (2 : Int).toNat * 9 = 18:=rfl
 simp only [decide_true,if_true,Wp_bind,Wp_nn',Wp_ldI,Wp_ldS,Wp_ldV,Wp_ldB,Wp_idxS,Wp_sliceS,Wp_pure,plus_eq,Nat.zero_add,Nat.reduceAdd,Option.some.injEq,exists_eq_left',decide_eq_true_eq,hl,hlen5]
 refine ite_yes (by first | trivial | decide) ?_
 simp only [Wp_bind,Wp_nn',Wp_ldI,Wp_ldS,Wp_ldV,Wp_ldB,Wp_idxS,Wp_sliceS,Wp_pure,plus_eq,Nat.zero_add,Nat.reduceAdd,Option.some.injEq,exists_eq_left',decide_eq_true_eq,hl,Wp_idxA,ha,exists_eq_left',t2,q1,hlen5]
 refine ⟨by omega,by decide,?_⟩
 refine ite_yes (by first | trivial | decide) ?_
 simp only [Wp_bind,Wp_nn',Wp_ldI,Wp_ldS,Wp_ldV,Wp_ldB,Wp_idxS,Wp_sliceS,Wp_pure,plus_eq,Nat.zero_add,Nat.reduceAdd,Option.some.injEq,exists_eq_left',decide_eq_true_eq,hl,Wp_idxA,ha,exists_eq_left',t2,q2,hlen5]
 refine ⟨by omega,by decide,?_⟩
 refine ite_yes (by first | trivial | decide) ?_
 simp only [Wp_bind,Wp_nn',Wp_ldI,Wp_ldS,Wp_ldV,Wp_ldB,Wp_idxS,Wp_sliceS,Wp_pure,plus_eq,Nat.zero_add,Nat.reduceAdd,Option.some.injEq,exists_eq_left',decide_eq_true_eq,hl,Wp_idxA,ha,exists_eq_left',t2,q3,hlen5]
 refine ⟨by omega,by decide,?_⟩
 refine ite_yes (by first | trivial | decide) ?_
 refine ite_yes (by first | trivial | decide) ?_
 refine ite_yes (by first | trivial | decide) ?_
 rw [Wp_pure]
 exact ⟨rfl,F⟩
end Go.Sh
