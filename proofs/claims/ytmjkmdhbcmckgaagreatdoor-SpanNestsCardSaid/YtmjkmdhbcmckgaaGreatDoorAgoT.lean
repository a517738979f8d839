
import Derived.Test.YtmjkmdhbcmckgaaGreatDoorAgoF
set_option linter.all false
namespace Go.Ago
open Go
variable {P:Program}{h h' h1:AHeap}
section Trace
variable {S:Type}
inductive Run (Step:Nat→S→S→Prop):List Nat→S→S→Prop where
 | nil (s:S):Run Step [] s s
 | cons {i:Nat} {l:List Nat} {s s1 s2:S}:Step i s s1→Run Step l s1 s2→Run Step (i::l) s s2
theorem Run.mono {St St':Nat→S→S→Prop}:∀ {l:List Nat} {s f:S},(∀ i ∈ l,∀ s s',St i s s'→St' i s s')→Run St l s f→Run St' l s f
 | [],_,_,_,.nil _=>.nil _
 | _::_,_,_,hc,.cons h1 h2=>.cons (hc _ (List.mem_cons_self ..) _ _ h1) (Run.mono (fun i hi=>hc i (List.mem_cons_of_mem _ hi)) h2)
abbrev Bef (l:List Nat)(i j:Nat):Prop:=[i,j].Sublist l
theorem Run.front {Step:Nat→S→S→Prop}{x:Nat}:∀ (t1:List Nat) {t2:List Nat} {s f:S},(∀ y ∈ t1,∀ s s1 s2,Step y s s1→Step x s1 s2→∃ s1',Step x s s1'∧Step y s1' s2) →
  Run Step (t1++x::t2) s f→Run Step (x::(t1++t2)) s f
 | [],t2,s,f,_,hr=>hr
 | y::t1,t2,s,f,hc,hr=>by
  cases hr with
  | cons h1 h2 =>
   have ih:=Run.front t1 (fun z hz=>hc z (List.mem_cons_of_mem _ hz)) h2
   cases ih with
   | cons h3 h4 =>
    obtain⟨s1',q1,q2⟩:=hc y (List.mem_cons_self ..) _ _ _ h1 h3
    exact .cons q1 (.cons q2 h4)
theorem Run.any {Step:Nat→S→S→Prop}:∀ (σ τ:List Nat) {s f:S},τ.Perm σ →
  (∀ i j,Bef τ i j→Bef σ j i→∀ s s1 s2,Step i s s1→Step j s1 s2→∃ s1',Step j s s1'∧Step i s1' s2)→Run Step τ s f→Run Step σ s f
 | [],τ,s,f,hp,_,hr=>by
  have:=hp.eq_nil;subst this;exact hr
 | x::σ,τ,s,f,hp,hc,hr=>by
  have hx:x ∈ τ:=hp.symm.subset (List.mem_cons_self ..)
  obtain⟨t1,t2,rfl⟩:=List.append_of_mem hx
  have hp':(t1++t2).Perm σ:=by
   have h1:(x::(t1++t2)).Perm (x::σ):=(List.perm_middle.symm).trans hp
   exact h1.cons_inv
  have hf:=Run.front t1 (fun y hy=>?_) hr
  ·cases hf with
   | cons h1 h2 =>
    refine .cons h1 (Run.any σ (t1++t2) hp' (fun i j hij hji=>hc i j ?_ ?_) h2)
    ·exact hij.trans (List.Sublist.append (List.Sublist.refl _) (List.sublist_cons_self ..))
    ·exact hji.trans (List.sublist_cons_self ..)
  ·intro s s1 s2 h1 h2
   refine hc y x ?_ ?_ s s1 s2 h1 h2
   ·exact List.Sublist.append (List.singleton_sublist.2 hy) (List.singleton_sublist.2 (List.mem_cons_self ..))
   ·have hyσ:y ∈ σ:=hp'.subset (List.mem_append_left _ hy)
    exact List.Sublist.cons_cons _ (List.singleton_sublist.2 hyσ)
end Trace
theorem bef_asymm:∀ {l:List Nat} {i j:Nat},l.Nodup→Bef l i j→Bef l j i→False
 | [],_,_,_,h,_=>by cases h
 | x::l,i,j,hn,h1,h2=>by
  obtain⟨hx,hn⟩:=List.nodup_cons.1 hn
  cases h1 with
  | cons _ h1 =>
   cases h2 with
   | cons _ h2=>exact bef_asymm hn h1 h2
   | cons_cons _ h2=>exact hx (h1.subset (by simp))
  | cons_cons _ h1 =>
   cases h2 with
   | cons _ h2=>exact hx (h2.subset (by simp))
   | cons_cons _ h2=>exact hx (h1.subset (by simp))
theorem bef_trans:∀ {l:List Nat} {i j k:Nat},l.Nodup→Bef l i j→Bef l j k→Bef l i k
 | [],_,_,_,_,h,_=>by cases h
 | x::l,i,j,k,hn,h1,h2=>by
  obtain⟨hx,hn⟩:=List.nodup_cons.1 hn
  cases h1 with
  | cons _ h1 =>
   cases h2 with
   | cons _ h2=>exact .cons _ (bef_trans hn h1 h2)
   | cons_cons _ h2=>exact absurd (h1.subset (by simp)) hx
  | cons_cons _ h1 =>
   cases h2 with
   | cons _ h2=>exact .cons_cons _ (List.singleton_sublist.2 (h2.subset (by simp)))
   | cons_cons _ h2=>exact .cons_cons _ (List.singleton_sublist.2 (h2.subset (by simp)))
theorem len_le:∀ {l1 l2:List Nat},l1.Nodup→(∀ i ∈ l1,i ∈ l2)→l1.length≤l2.length
 | [],_,_,_=>Nat.zero_le _
 | x::l,l2,hn,hs=>by
  obtain⟨hx,hn⟩:=List.nodup_cons.1 hn
  have h1:=len_le (l2:=l2.erase x) hn fun i hi=>(List.mem_erase_of_ne (fun e=>hx (by subst e;exact hi))).2 (hs i (List.mem_cons_of_mem _ hi))
  have h2:=List.length_erase_of_mem (hs x (List.mem_cons_self ..))
  have h3:=List.length_pos_of_mem (hs x (List.mem_cons_self ..))
  simp only [List.length_cons];omega
section Orders
variable {ops:Array Oper}
theorem go_spec (hlt : ∀ i o e, ops[i]? = some o → e ∈ o.after.toList → Region.binds .any e = true → e.on < i) :
    ∀ (fuel t : Nat) (listed : Array Bool) (acc : List Nat), fuel + acc.length = ops.size → listed.size = ops.size → acc.Nodup →
      (∀ i, i < ops.size → (listed.getD i true = true ↔ i ∈ acc)) → (∀ i ∈ acc, i < ops.size) →
      (∀ i o e, ops[i]? = some o → i ∈ acc → e ∈ o.after.toList → Region.binds .any e = true → Bef acc.reverse e.on i) →
      ∃ l, Region.linearise.go .any ops fuel t listed acc = l ∧ l.length = ops.size ∧ l.Nodup ∧ (∀ i ∈ l, i < ops.size) ∧
        (∀ i o e, ops[i]? = some o → i ∈ l → e ∈ o.after.toList → Region.binds .any e = true → Bef l e.on i)
  | 0, t, listed, acc, hl, hs, hn, hm, hb, hr => ⟨acc.reverse, rfl, by simp; omega, by simpa [List.Nodup, List.pairwise_reverse, ne_comm] using hn, by simpa using hb, fun i o e h1 h2 h3 h4 => hr i o e h1 (by simpa using h2) h3 h4⟩
  | fuel + 1, t, listed, acc, hl, hs, hn, hm, hb, hr => by
    unfold Region.linearise.go
    generalize hrs : ((List.range ops.size).filter fun i => !listed.getD i true && ((ops[i]?).map (·.after.all fun e => !Region.binds .any e || listed.getD e.on false)).getD false) = rs
    have hmem : ∀ i, i ∈ rs ↔ i < ops.size ∧ i ∉ acc ∧ ∃ o, ops[i]? = some o ∧ ∀ e ∈ o.after.toList, Region.binds .any e = true → e.on ∈ acc := by
      intro i
      subst hrs
      rw [List.mem_filter, List.mem_range]
      refine and_congr_right fun hi => ?_
      have ho : ops[i]? = some ops[i] := by simp [hi]
      rw [ho]
      have h1 : (!listed.getD i true) = true ↔ i ∉ acc := by
        rw [← hm i hi]; cases listed.getD i true <;> simp
      rw [Bool.and_eq_true, h1]
      refine and_congr_right fun _ => ?_
      simp only [Option.map_some, Option.getD_some, Option.some.injEq, exists_eq_left', Array.all_eq_true', Bool.or_eq_true, Bool.not_eq_true', Array.mem_toList_iff]
      refine forall_congr' fun e => forall_congr' fun he => ?_
      have h2 : Region.binds .any e = true → (listed.getD e.on false = true ↔ e.on ∈ acc) := by
        intro hbd
        have := hlt i _ e ho (by simpa using he) hbd
        rw [← hm e.on (by omega)]
        simp only [Array.getD_eq_getD_getElem?]
        rw [Array.getElem?_eq_getElem (by omega)]
        simp
      cases hbd : Region.binds .any e
      · simp
      · simp only [Bool.true_eq_false, false_or, true_imp_iff]; exact h2 hbd
    have hne : rs ≠ [] := by
      -- the least that is not listed is ready
      have hex : ∃ i, i < ops.size ∧ i ∉ acc := by
        by_cases hc : ∃ i, i < ops.size ∧ i ∉ acc
        · exact hc
        · exfalso
          have := len_le List.nodup_range (l2 := acc) fun i hi => by
            by_cases hia : i ∈ acc
            · exact hia
            · exact absurd ⟨i, List.mem_range.1 hi, hia⟩ hc
          simp at this; omega
      obtain ⟨i, hi⟩ := hex
      have hmin : ∀ n i, i ≤ n → i < ops.size ∧ i ∉ acc → ∃ k, k < ops.size ∧ k ∉ acc ∧ ∀ m, m < k → m ∈ acc := by
        intro n
        induction n with
        | zero => intro i h0 hi; have : i = 0 := by omega
                  subst this; exact ⟨0, hi.1, hi.2, fun m hm => by omega⟩
        | succ n ih =>
          intro i h0 hi
          by_cases hc : ∃ m, m ≤ n ∧ m < i ∧ m ∉ acc
          · obtain ⟨m, h1, h2, h3⟩ := hc; exact ih m h1 ⟨by omega, h3⟩
          · refine ⟨i, hi.1, hi.2, fun m hm => ?_⟩
            by_cases hma : m ∈ acc
            · exact hma
            · exact absurd ⟨m, by omega, hm, hma⟩ hc
      obtain ⟨k, h1, h2, h3⟩ := hmin i i (Nat.le_refl _) hi
      have : k ∈ rs := (hmem k).2 ⟨h1, h2, ops[k], by simp [h1], fun e he hbd => h3 _ (hlt k _ e (by simp [h1]) he hbd)⟩
      intro e; rw [e] at this; cases this
    have hlen : 0 < rs.length := List.length_pos_iff.2 hne
    have hget : rs[t % rs.length]? = some (rs[t % rs.length]'(Nat.mod_lt _ hlen)) := List.getElem?_eq_getElem _
    simp only [hget]
    have hi := (hmem _).1 (List.getElem_mem (Nat.mod_lt t hlen))
    generalize rs[t % rs.length]'(Nat.mod_lt _ hlen) = i at hi
    obtain ⟨h1, h2, o, ho, h3⟩ := hi
    refine go_spec hlt fuel _ _ (i :: acc) (by simp; omega) (by simp [hs]) (List.nodup_cons.2 ⟨h2, hn⟩) (fun j hj => ?_) (fun j hj => ?_) (fun j o' e hj hjm he hbd => ?_)
    · by_cases hij : i = j
      · subst hij; simp [Array.getD_eq_getD_getElem?, Array.getElem?_setIfInBounds, hs, hj]
      · rw [List.mem_cons]
        have : (listed.setIfInBounds i true).getD j true = listed.getD j true := by
          simp [Array.getD_eq_getD_getElem?, Array.getElem?_setIfInBounds, hij]
        rw [this, hm j hj]
        constructor
        · exact .inr
        · rintro (rfl | q)
          · exact absurd rfl hij
          · exact q
    · rcases List.mem_cons.1 hj with rfl | q
      · exact h1
      · exact hb j q
    · rw [List.reverse_cons]
      rcases List.mem_cons.1 hjm with rfl | q
      · rw [ho] at hj; cases hj
        exact List.Sublist.append (List.singleton_sublist.2 (List.mem_reverse.2 (h3 e he hbd))) (List.Sublist.refl _)
      · exact (hr j o' e hj q he hbd).trans (List.sublist_append_left ..)
theorem linearise_spec (hlt:∀ i o e,ops[i]?=some o→e ∈ o.after.toList→Region.binds .any e=true→e.on<i)(t:Nat) :
  (Region.linearise .any ops t).Nodup∧(Region.linearise .any ops t).Perm (List.range ops.size) ∧
   (∀ i o e,ops[i]?=some o→e ∈ o.after.toList→Region.binds .any e=true→Bef (Region.linearise .any ops t) e.on i):=by
 obtain⟨l,e,hl,hn,hb,hr⟩:=go_spec hlt ops.size t (Array.replicate ops.size false) [] (by simp) (by simp) List.nodup_nil
  (fun i hi=>by simp [Array.getD_eq_getD_getElem?,hi]) (by simp) (by simp)
 rw [Region.linearise,e]
 have hp:l.Perm (List.range ops.size):=(List.perm_ext_iff_of_nodup hn List.nodup_range).2 fun i=>⟨fun hi=>List.mem_range.2 (hb i hi),fun hi=>by
  by_cases hc:i ∈ l
  ·exact hc
  ·have:=len_le (List.nodup_cons.2 ⟨hc,hn⟩) (l2:=List.range ops.size) fun j hj=>by
    rcases List.mem_cons.1 hj with rfl | q
    ·exact hi
    ·exact List.mem_range.2 (hb j q)
   simp at this;omega⟩
 refine⟨hn,hp,fun i o e h1 h2 h3=>hr i o e h1 (hp.symm.subset ?_) h2 h3⟩
 obtain⟨hi,_⟩:=Array.getElem?_eq_some_iff.1 h1
 exact List.mem_range.2 hi
end Orders
inductive Res where
 | val (v:Value)
 | lit (x:Nat×List Value)
def Env.res (E:Env)(d:Option Nat):Res→Env
 | .val v=>E.put d v
 | .lit _=>E.del d
def LEnv.res (L:LEnv)(d:Option Nat):Res→LEnv
 | .val _=>L.del d
 | .lit x=>L.put d x
def mapV (m:Option (Value×AHeap)):Option (Res×AHeap):=match m with
 | some (v,h)=>some (.val v,h)
 | none=>none
def ex (P:Program)(C:Ctab)(nm:Nat)(ops:Array Oper)(E:Env)(L:LEnv)(o:Oper):M Res:=fun h =>
 match o.op with
 | .pick c a b=>(match E.ev c with
  | some (.bool true)=>(match E.ev a with | some v=>some (.val v,h) | none=>none)
  | some (.bool false)=>(match E.ev b with | some v=>some (.val v,h) | none=>none)
  | _=>none)
 | .call c=>(match isBuiltin c with
  | true=>(match litArg L c with
   | some (n,cs)=>mapV ((appLit P true E c n cs).exec h)
   | none=>mapV ((aop P (some nm) E o).exec h))
  | false=>(match dySlot C c with
   | some t=>(match calleeD E t c with
    | some (x,vs)=>(match C.dy t x vs with
     | some ca=>(match ca.m h with | some (x,h')=>some (.val (ca.pk x),h') | none=>none)
     | none=>none)
    | none=>none)
   | none=>(match callee E c with
    | some (f,vs)=>(match C.st f vs with
     | some ca=>(match ca.m h with | some (x,h')=>some (.val (ca.pk x),h') | none=>none)
     | none=>none)
    | none=>none)))
 | .buildSlice _ _ _=>(match litOf P ops E o with
  | some x=>some (.lit x,h)
  | none=>mapV ((aop P (some nm) E o).exec h))
 | _=>mapV ((aop P (some nm) E o).exec h)
def want (ops:Array Oper)(E:Env)(o:Oper):Option Bool :=
 match o.guard with
 | none=>some true
 | some (j,w)=>(match (ops[j]?).bind (·.dst) with
  | some t=>(match E t with
   | some (.bool b)=>some (b == w)
   | some (.tuple _)=>some false
   | _=>none)
  | none=>none)
def act (P:Program)(C:Ctab)(nm:Nat)(ops:Array Oper)(E:Env)(L:LEnv)(o:Oper):M Res:=fun h =>
 match want ops E o with
 | some true=>ex P C nm ops E L o h
 | some false=>some (.val undef,h)
 | none=>none
abbrev St:=Env×LEnv×AHeap
def stA (E:Env)(o:Oper):Option Addr :=
 match o.op with
 | .store _ x _=>(match E.ev x with | some (.pointer p)=>p | _=>none)
 | _=>none
def stOK (E:Env)(o:Oper)(h:AHeap)(ks:List Nat):Prop:=isSt o=true→ks≠[]→∃ a,stA E o=some a∧okK h a ks=true
def Step (P:Program)(C:Ctab)(W:Wr)(nb:Nat)(ops:Array Oper)(Af:Nat→Option Addr)(Ck:Nat→List (Option Addr))(Kk:Nat→List Nat)(i:Nat)(s s':St):Prop :=
 ∃ o r,ops[i]?=some o∧inW W o.dst=true∧(want ops s.1 o=some true→readAt s.1 o=Af i)∧act P C (nb+i) ops s.1 s.2.1 o s.2.2=some (r,s'.2.2) ∧
  s'.1=s.1.res o.dst r∧s'.2.1=s.2.1.res o.dst r∧(ckOp o=true→sameAt s.2.2 s'.2.2 (Ck i)=true)∧(want ops s.1 o=some true→stOK s.1 o s.2.2 (Kk i))
theorem sameAt_refl (h:AHeap):∀ l,sameAt h h l=true
 | []=>rfl
 | none::r=>sameAt_refl h r
 | some b::r=>by
  unfold sameAt;split
  ·exact sameAt_refl h r
  ·rename_i q _;exact absurd rfl q
theorem sameAt_mem {h h':AHeap}:∀ {l:List (Option Addr)} {a:Addr},sameAt h h' l=true→some a ∈ l→h'.get a.block=h.get a.block
 | [],_,_,hm=>by cases hm
 | none::r,a,hs,hm=>by
  rcases List.mem_cons.1 hm with q | q
  ·cases q
  ·exact sameAt_mem (l:=r) hs q
 | some b::r,a,hs,hm=>by
  unfold sameAt at hs;split at hs
  ·rename_i q _
   rcases List.mem_cons.1 hm with e | e
   ·cases e;exact q.symm
   ·exact sameAt_mem (l:=r) hs e
  ·cases hs
theorem set_same {E:Env}{t:Nat}{v:Value}(h:E t=some v):E.set t v=E:=by
 funext j;unfold Env.set
 cases hj:Nat.beq j t
 ·rfl
 ·have:=Nat.eq_of_beq_eq_true hj;subst this;exact h.symm
theorem learn_same {E:Env}{c:Operand}{b:Bool}(h:E.ev c=some (.bool b)):E.learn c b=E:=by
 unfold Env.learn;split
 ·exact set_same h
 ·rfl
theorem run_some {R:Type}{r:R×AHeap}{K:Value→M R}:∀ {A:Act} {h:AHeap},A.run K h=some r↔∃ v h',A.exec h=some (v,h')∧K v h'=some r
 | .val v,h=>by
  simp only [Act.run,Act.exec,Option.some.injEq,Prod.mk.injEq]
  exact⟨fun q=>⟨v,h,⟨rfl,rfl⟩,q⟩,fun ⟨_,_,⟨e1,e2⟩,q⟩=>by rw [e1,e2];exact q⟩
 | .none,h=>by simp [Act.run,Act.exec,M.fail]
 | .ask α m k,h=>by
  simp only [Act.run,Act.exec,M.bind]
  cases hm:m h with
  | none=>simp
  | some x=>exact run_some (A:=k x.1) (h:=x.2)
theorem chk_some {α:Type}{as:List (Option Addr)}{m:M α}{h:AHeap}{x:α×AHeap}(hx:chk as m h=some x):m h=some x∧sameAt h x.2 as=true:=by
 unfold chk at hx;split at hx
 ·split at hx
  ·cases hx;exact⟨by assumption,by assumption⟩
  ·cases hx
 ·cases hx
theorem wrapM_some {α:Type}{as:List (Option Addr)}{m:M α}{h:AHeap}{x:α×AHeap}(hx:wrapM as m h=some x):m h=some x∧sameAt h x.2 as=true:=by
 unfold wrapM at hx;split at hx
 ·exact⟨hx,rfl⟩
 ·exact chk_some hx
theorem wrapA_some {as:List (Option Addr)}{A:Act}{h:AHeap}{x:Value×AHeap}(hx:(wrapA as A).exec h=some x) :
  A.exec h=some x∧(∀ α m v,A=.ask α m (fun _=>.val v)→sameAt h x.2 as=true):=by
 unfold wrapA at hx
 split at hx
 ·split at hx
  ·exact⟨hx,fun _ _ _ _=>rfl⟩
  ·simp only [Act.exec] at hx ⊢
   split at hx
   ·rename_i m k _ _ _ y h2 hc
    obtain⟨h1,h2⟩:=chk_some hc
    rw [h1]
    refine⟨hx,fun α' m' v e=>?_⟩
    cases e
    simp only [Act.exec] at hx
    cases hx;exact h2
   ·cases hx
 ·refine⟨hx,fun α m v e=>?_⟩
  rename_i hn;exact absurd e (hn _ _ _)
theorem denOp_fwd {R:Type}{C:Ctab}{W:Wr}{nm:Nat}{cks:List (Option Addr)}{ks:List Nat}{ops:Array Oper}{E:Env}{L:LEnv}{o:Oper}{K:Env→LEnv→M R}{h:AHeap}{q:R×AHeap}
  (hx:denOp P C W (some nm) cks ks ops E L o K h=some q):inW W o.dst=true∧∃ r h',ex P C nm ops E L o h=some (r,h') ∧
   (ckOp o=true→sameAt h h' cks=true)∧stOK E o h ks∧K (E.res o.dst r) (L.res o.dst r) h'=some q:=by
 have gen:∀ A:Act,(wrapA cks A).run (fun v=>K (E.put o.dst v) (L.del o.dst)) h=some q→∃ r h',mapV (A.exec h)=some (r,h') ∧
   ((∃ α m v,A=.ask α m (fun _=>.val v))→sameAt h h' cks=true)∧K (E.res o.dst r) (L.res o.dst r) h'=some q:=by
  intro A hA
  obtain⟨v,h',h1,h2⟩:=run_some.1 hA
  obtain⟨h3,h4⟩:=wrapA_some h1
  exact⟨.val v,h',by rw [h3];rfl,fun ⟨α,m,v,e⟩=>h4 α m v e,h2⟩
 generalize hm:denOp P C W (some nm) cks ks ops E L o K=m at hx
 unfold denOp at hm
 cases hW:inW W o.dst
 ·rw [hW] at hm;subst hm;simp [M.fail] at hx
 rw [hW] at hm
 refine⟨rfl,?_⟩
 have noSt:isSt o=false→stOK E o h ks:=fun hs e=>by rw [hs] at e;cases e
 unfold ex ckOp
 cases hop:o.op <;> simp only [hop] at hm ⊢
 case pick c a b =>
  split at hm
  ·rename_i t ht
   cases t
   ·simp only [iteB,Bool.false_eq_true,if_false,learn_same ht] at hm
    split at hm
    ·rename_i v hv
     subst hm
     exact⟨.val v,h,by simp [ht,hv],by simp,noSt (by simp [isSt,hop]),hx⟩
    ·subst hm;simp [M.fail] at hx
   ·simp only [iteB,if_true,learn_same ht] at hm
    split at hm
    ·rename_i v hv
     subst hm
     exact⟨.val v,h,by simp [ht,hv],by simp,noSt (by simp [isSt,hop]),hx⟩
    ·subst hm;simp [M.fail] at hx
  ·subst hm;simp [M.fail] at hx
 case call c =>
  cases hb:isBuiltin c <;> simp only [hb] at hm ⊢
  ·split at hm
   ·rename_i t hds
    split at hm
    ·rename_i xv vs hcl
     split at hm
     ·rename_i ca hca
      subst hm
      simp only [M.bind] at hx
      split at hx
      ·rename_i x h' hm
       obtain⟨h3,h4⟩:=wrapM_some hm
       exact⟨.val (ca.pk x),h',by simp [hds,hcl,hca,h3],fun _=>h4,noSt (by simp [isSt,hop]),hx⟩
      ·cases hx
     ·subst hm;simp [M.fail] at hx
    ·subst hm;simp [M.fail] at hx
   ·rename_i hds
    split at hm
    ·rename_i f vs hcl
     split at hm
     ·rename_i ca hca
      subst hm
      simp only [M.bind] at hx
      split at hx
      ·rename_i x h' hm
       obtain⟨h3,h4⟩:=wrapM_some hm
       exact⟨.val (ca.pk x),h',by simp [hds,hcl,hca,h3],fun _=>h4,noSt (by simp [isSt,hop]),hx⟩
      ·cases hx
     ·subst hm;simp [M.fail] at hx
    ·subst hm;simp [M.fail] at hx
  ·split at hm
   ·rename_i n cs hl
    subst hm
    obtain⟨r,h',h1,_,h3⟩:=gen _ hx
    exact⟨r,h',by simpa [hl] using h1,by simp,noSt (by simp [isSt,hop]),h3⟩
   ·rename_i hl
    subst hm
    obtain⟨r,h',h1,_,h3⟩:=gen _ hx
    exact⟨r,h',by simpa [hl] using h1,by simp,noSt (by simp [isSt,hop]),h3⟩
 case buildSlice t l ps =>
  split at hm
  ·rename_i x hl
   subst hm
   exact⟨.lit x,h,by simp [hl],by simp,noSt (by simp [isSt,hop]),hx⟩
  ·rename_i hl
   subst hm
   obtain⟨r,h',h1,_,h3⟩:=gen _ hx
   exact⟨r,h',by simpa [hl] using h1,by simp,noSt (by simp [isSt,hop]),h3⟩
 case store t x y =>
  have fin:(wrapA cks (aop P (some nm) E o)).run (fun v=>K (E.put o.dst v) (L.del o.dst)) h=some q→stOK E o h ks→∃ r h',mapV ((aop P (some nm) E o).exec h)=some (r,h') ∧
    (True→sameAt h h' cks=true)∧stOK E o h ks∧K (E.res o.dst r) (L.res o.dst r) h'=some q:=by
   intro hx hs
   obtain⟨r,h',h1,h2,h3⟩:=gen _ hx
   refine⟨r,h',h1,fun _=>h2 ?_,hs,h3⟩
   unfold aop at h1 ⊢
   simp only [hop] at h1 ⊢
   split at h1
   ·unfold addrK at h1 ⊢
    split at h1
    ·simp only at h1
     split at h1
     ·rename_i u n _ _ _ a _ _ _
      exact⟨Unit,stN a u.cells.toList,undef,by simp only [*]⟩
     ·simp [Act.exec,mapV] at h1
    ·simp [Act.exec,mapV] at h1
   ·simp [Act.exec,mapV] at h1
  split at hm
  ·subst hm
   obtain⟨r,h',h1,h2,h3,h4⟩:=fin hx (fun _ e=>absurd rfl e)
   exact⟨r,h',h1,fun _=>h2 trivial,h3,h4⟩
  ·split at hm
   ·rename_i a ha
    subst hm
    have hok:stOK E o h ks:=by
     intro _ _
     refine⟨a,by simp only [stA,hop,ha],?_⟩
     cases hA:wrapA cks (aop P (some nm) E o) with
     | val v =>
      exfalso
      have h1:∀ v,aop P (some nm) E o≠.val v:=by
       intro v e
       unfold aop at e
       simp only [hop] at e
       split at e
       ·unfold addrK at e
        split at e
        ·split at e <;> cases e
        ·cases e
       ·cases e
      cases hB:aop P (some nm) E o with
      | val v'=>exact h1 v' hB
      | none=>rw [hB] at hA;simp [wrapA] at hA
      | ask α m k=>rw [hB] at hA;cases cks <;> simp [wrapA] at hA
     | none=>rw [hA] at hx;simp [wrapK,Act.run,M.fail] at hx
     | ask α m k =>
      rw [hA] at hx
      simp only [wrapK,Act.run,M.bind] at hx
      split at hx
      ·rename_i y h2 hy;exact (chkK_spec hy).2
      ·cases hx
    obtain⟨r,h',h1,h2,h3,h4⟩:=fin (wrapK_spec hx) hok
    exact⟨r,h',h1,fun _=>h2 trivial,h3,h4⟩
   ·subst hm;simp [M.fail] at hx
 all_goals
  subst hm
  obtain⟨r,h',h1,_,h3⟩:=gen _ hx
  exact⟨r,h',h1,by simp,noSt (by simp [isSt,hop]),h3⟩
theorem denOp_bwd {R:Type}{C:Ctab}{W:Wr}{nm:Nat}{ops:Array Oper}{E:Env}{L:LEnv}{o:Oper}{K:Env→LEnv→M R}{h h':AHeap}{r:Res}{q:R×AHeap}
  (hW:inW W o.dst=true) (he:ex P C nm ops E L o h=some (r,h')) (hx:K (E.res o.dst r) (L.res o.dst r) h'=some q) :
  denOp P C W (some nm) [] [] ops E L o K h=some q:=by
 have gen:∀ A:Act,mapV (A.exec h)=some (r,h')→(wrapA [] A).run (fun v=>K (E.put o.dst v) (L.del o.dst)) h=some q:=by
  intro A hA
  have:wrapA [] A=A:=by cases A <;> rfl
  rw [this]
  unfold mapV at hA;split at hA
  ·rename_i v h2 hv
   cases hA
   exact run_some.2 ⟨v,_,hv,hx⟩
  ·cases hA
 unfold denOp
 rw [hW]
 unfold ex at he
 cases hop:o.op <;> simp only [hop] at he ⊢
 case pick c a b =>
  split at he
  ·rename_i ht
   simp only [ht,iteB,if_true,learn_same ht]
   split at he
   ·rename_i v hv;cases he;simp only [hv];exact hx
   ·cases he
  ·rename_i ht
   simp only [ht,iteB,Bool.false_eq_true,if_false,learn_same ht]
   split at he
   ·rename_i v hv;cases he;simp only [hv];exact hx
   ·cases he
  ·cases he
 case call c =>
  cases hb:isBuiltin c <;> simp only [hb] at he ⊢
  ·split at he
   ·rename_i t hds
    simp only [hds]
    split at he
    ·rename_i xv vs hcl
     simp only [hcl]
     split at he
     ·rename_i ca hca
      split at he
      ·rename_i x h2 hm
       cases he
       simp only [hca,M.bind,wrapM,hm];exact hx
      ·cases he
     ·cases he
    ·cases he
   ·rename_i hds
    simp only [hds]
    split at he
    ·rename_i f vs hcl
     simp only [hcl]
     split at he
     ·rename_i ca hca
      split at he
      ·rename_i x h2 hm
       cases he
       simp only [hca,M.bind,wrapM,hm];exact hx
      ·cases he
     ·cases he
    ·cases he
  ·split at he
   ·rename_i n cs hl;simp only [hl];exact gen _ he
   ·rename_i hl;simp only [hl];exact gen _ he
 case buildSlice t l ps =>
  split at he
  ·rename_i x hl;cases he;simp only [hl];exact hx
  ·rename_i hl;simp only [hl];exact gen _ he
 all_goals exact gen _ he
section Traces
variable {R:Type}{C:Ctab}{W:Wr}{nb:Nat}{ops:Array Oper}{K:Env→M R}{q:R×AHeap}
theorem Step.congr {Af Af':Nat→Option Addr}{Ck Ck':Nat→List (Option Addr)}{Kk Kk':Nat→List Nat}{i:Nat}{s s':St}(h1:Af i=Af' i)(h2:Ck i=Ck' i)(h3:Kk i=Kk' i)
  (hs:Step P C W nb ops Af Ck Kk i s s'):Step P C W nb ops Af' Ck' Kk' i s s':=by
 obtain⟨o,r,a,b,c,d,e,f,g,k⟩:=hs
 exact⟨o,r,a,b,fun w=>h1 ▸ c w,d,e,f,fun w=>h2 ▸ g w,fun w=>h3 ▸ k w⟩
theorem denOps_fwd:∀ (l:List (Nat×List Nat)) (E:Env) (L:LEnv) (A:AEnv) (h:AHeap),(l.map (·.1)).Nodup→denOps P C W (some nb) ops l E L A K h=some q →
  ∃ (Af:Nat→Option Addr) (Ck:Nat→List (Option Addr)) (Kk:Nat→List Nat) (E':Env) (L':LEnv) (h':AHeap),Run (Step P C W nb ops Af Ck Kk) (l.map (·.1)) (E,L,h) (E',L',h')∧K E' h'=some q ∧
   ∀ j cs,(j,cs) ∈ l→∀ k ∈ cs,(Bef (l.map (·.1)) k j→Af k ∈ Ck j)∧(k ∉ l.map (·.1)→A k ∈ Ck j)∧Kk j=ksOf P ops (some nb) cs
 | [],E,L,A,h,_,hx=>⟨fun _=>none,fun _=>[],fun _=>[],E,L,h,.nil _,hx,by simp⟩
 | (i,c0)::rest,E,L,A,h,hn,hx=>by
  rw [List.map_cons,List.nodup_cons] at hn
  obtain⟨hni,hn⟩:=hn
  generalize hm:denOps P C W (some nb) ops ((i,c0)::rest) E L A K=m at hx
  unfold denOps at hm
  have fin:∀ (o:Oper) (r:Res) (A':AEnv) (h2:AHeap),ops[i]?=some o→inW W o.dst=true→(∀ k,k≠i→A' k=A k)→(want ops E o=some true→readAt E o=A' i) →
    act P C (nb+i) ops E L o h=some (r,h2)→(ckOp o=true→sameAt h h2 (c0.map A)=true)→(want ops E o=some true→stOK E o h (ksOf P ops (some nb) c0))→denOps P C W (some nb) ops rest (E.res o.dst r) (L.res o.dst r) A' K h2=some q →
    ∃ (Af:Nat→Option Addr) (Ck:Nat→List (Option Addr)) (Kk:Nat→List Nat) (E':Env) (L':LEnv) (h':AHeap),Run (Step P C W nb ops Af Ck Kk) (i::rest.map (·.1)) (E,L,h) (E',L',h')∧K E' h'=some q ∧
     ∀ j cs,(j,cs) ∈ (i,c0)::rest→∀ k ∈ cs,(Bef (i::rest.map (·.1)) k j→Af k ∈ Ck j)∧(k ∉ i::rest.map (·.1)→A k ∈ Ck j)∧Kk j=ksOf P ops (some nb) cs:=by
   intro o r A' h2 ho hW hA hrd hact hck hst hx2
   obtain⟨Af,Ck,Kk,E',L',h',hrun,hK,hks⟩:=denOps_fwd rest _ _ _ _ hn hx2
   refine⟨fun k=>if k=i then A' i else Af k,fun k=>if k=i then c0.map A else Ck k,fun k=>if k=i then ksOf P ops (some nb) c0 else Kk k,E',L',h',.cons ⟨o,r,ho,hW,?_,hact,rfl,rfl,?_,?_⟩ (Run.mono (fun k hk s s' hs=>hs.congr ?_ ?_ ?_) hrun),hK,?_⟩
   ·simpa using hrd
   ·simpa using hck
   ·simpa using hst
   rotate_left
   ·rw [if_neg];rintro rfl;exact hni hk
   ·rw [if_neg];rintro rfl;exact hni hk
   ·rw [if_neg];rintro rfl;exact hni hk
   ·intro j cs hj k hk
    rcases List.mem_cons.1 hj with e | hj
    ·cases e
     simp only [if_true]
     refine⟨fun hb=>?_,fun hb=>List.mem_map_of_mem hk,trivial⟩
     cases hb with
     | cons _ hb=>exact absurd (hb.subset (by simp)) hni
     | cons_cons _ hb=>exact absurd (hb.subset (by simp)) hni
    ·have hjm:j ∈ rest.map (·.1):=List.mem_map.2 ⟨(j,cs),hj,rfl⟩
     have hji:j≠i:=by rintro rfl;exact hni hjm
     obtain⟨h1,h2,h2b⟩:=hks j cs hj k hk
     simp only [if_neg hji]
     refine⟨fun hb=>?_,fun hb=>?_,h2b⟩
     ·cases hb with
      | cons _ hb =>
       have hki:k≠i:=by rintro rfl;exact hni (hb.subset (by simp))
       rw [if_neg hki];exact h1 hb
      | cons_cons _ hb=>rw [if_pos rfl];exact h2 hni
     ·rw [List.mem_cons,not_or] at hb
      rw [← hA k hb.1];exact h2 hb.2
  split at hm
  ·subst hm;simp [M.fail] at hx
  ·rename_i o ho
   have run:want ops E o=some true→denOp P C W (some (nb+i)) (c0.map A) (ksOf P ops (some nb) c0) ops E L o (fun E' L'=>denOps P C W (some nb) ops rest E' L' (fun j=>cond (Nat.beq j i) (readAt E o) (A j)) K) h=some q →
     ∃ (Af:Nat→Option Addr) (Ck:Nat→List (Option Addr)) (Kk:Nat→List Nat) (E':Env) (L':LEnv) (h':AHeap),Run (Step P C W nb ops Af Ck Kk) (i::rest.map (·.1)) (E,L,h) (E',L',h')∧K E' h'=some q ∧
      ∀ j cs,(j,cs) ∈ (i,c0)::rest→∀ k ∈ cs,(Bef (i::rest.map (·.1)) k j→Af k ∈ Ck j)∧(k ∉ i::rest.map (·.1)→A k ∈ Ck j)∧Kk j=ksOf P ops (some nb) cs:=by
    intro hw hx
    obtain⟨hW,r,h2,he,hck,hst,hk⟩:=denOp_fwd hx
    refine fin o r _ h2 ho hW ?_ ?_ (by simp only [act,hw];exact he) hck (fun _=>hst) hk
    ·intro k hk
     have:Nat.beq k i=false:=by
      cases hb:Nat.beq k i
      ·rfl
      ·exact absurd (Nat.eq_of_beq_eq_true hb) hk
     simp [this]
    ·intro _;simp
   have skip:want ops E o=some false→(match inW W o.dst with | true=>denOps P C W (some nb) ops rest (E.put o.dst undef) (L.del o.dst) A K | false=>M.fail) h=some q →
     ∃ (Af:Nat→Option Addr) (Ck:Nat→List (Option Addr)) (Kk:Nat→List Nat) (E':Env) (L':LEnv) (h':AHeap),Run (Step P C W nb ops Af Ck Kk) (i::rest.map (·.1)) (E,L,h) (E',L',h')∧K E' h'=some q ∧
      ∀ j cs,(j,cs) ∈ (i,c0)::rest→∀ k ∈ cs,(Bef (i::rest.map (·.1)) k j→Af k ∈ Ck j)∧(k ∉ i::rest.map (·.1)→A k ∈ Ck j)∧Kk j=ksOf P ops (some nb) cs:=by
    intro hw hx
    cases hW:inW W o.dst <;> rw [hW] at hx
    ·simp [M.fail] at hx
    ·exact fin o (.val undef) A h ho hW (fun _ _=>rfl) (by rw [hw];simp) (by simp only [act,hw]) (fun _=>sameAt_refl _ _) (fun hw2=>by rw [hw] at hw2;cases hw2) hx
   split at hm
   ·rename_i hg
    subst hm
    exact run (by simp only [want,hg]) hx
   ·rename_i j w hg
    split at hm
    ·rename_i t ht
     split at hm
     ·rename_i b hb
      have hwant:want ops E o=some (b == w):=by simp only [want,hg,ht,hb]
      cases w <;> cases b <;> simp only [iteB,Bool.false_eq_true,if_false,if_true,set_same hb] at hm <;> subst hm
      ·exact run hwant hx
      ·exact skip hwant hx
      ·exact skip hwant hx
      ·exact run hwant hx
     ·rename_i vs hb
      subst hm
      exact skip (by simp only [want,hg,ht,hb]) hx
     ·subst hm;simp [M.fail] at hx
    ·subst hm;simp [M.fail] at hx
theorem denOps_bwd {Af:Nat→Option Addr}{Ck:Nat→List (Option Addr)}{Kk:Nat→List Nat}:∀ (l:List Nat) (A:AEnv) (s f:St),Run (Step P C W nb ops Af Ck Kk) l s f→K f.1 f.2.2=some q →
  denOps P C W (some nb) ops (l.map fun i=>(i,[])) s.1 s.2.1 A K s.2.2=some q
 | [],A,s,f,hr,hK=>by cases hr;exact hK
 | i::l,A,(E,L,h),f,.cons (s1:=(E1,L1,h1)) ⟨o,r,ho,hW,_,hact,e1,e2,_⟩ hr,hK=>by
  simp only at e1 e2 hact
  subst e1;subst e2
  have ih:=fun A=>denOps_bwd l A _ _ hr hK
  simp only [List.map_cons] at ih ⊢
  unfold denOps
  simp only [ho]
  unfold act at hact
  unfold want at hact
  cases hg:o.guard with
  | none =>
   simp only [hg] at hact
   exact denOp_bwd hW hact (ih _)
  | some jw =>
   obtain⟨j,w⟩:=jw
   simp only [hg] at hact ⊢
   cases ht:(ops[j]?).bind (·.dst) with
   | none=>simp [ht] at hact
   | some t =>
    simp only [ht] at hact ⊢
    split at hact
    ·rename_i hwt
     split at hwt
     ·rename_i b hb
      simp only [hb]
      cases w <;> cases b <;> simp at hwt
      ·simp only [iteB,Bool.false_eq_true,if_false,set_same hb];exact denOp_bwd hW hact (ih _)
      ·simp only [iteB,if_true,set_same hb];exact denOp_bwd hW hact (ih _)
     ·simp at hwt
     ·cases hwt
    ·rename_i hwt
     cases hact
     split at hwt
     ·rename_i b hb
      simp only [hb]
      cases w <;> cases b <;> simp at hwt
      ·simp only [iteB,if_true,set_same hb,hW];exact ih _
      ·simp only [iteB,Bool.false_eq_true,if_false,set_same hb,hW];exact ih _
     ·rename_i vs hb
      simp only [hb,hW];exact ih _
     ·cases hwt
    ·cases hact
end Traces
section Congr
variable {E E':Env}{L L':LEnv}{ops:Array Oper}{o:Oper}{C:Ctab}
theorem evs_congr:∀ {xs:List Operand},(∀ x ∈ xs,E.ev x=E'.ev x)→E.evs xs=E'.evs xs
 | [],_=>rfl
 | x::xs,h=>by
  simp only [Env.evs]
  rw [h x (List.mem_cons_self ..),evs_congr fun y hy=>h y (List.mem_cons_of_mem _ hy)]
theorem parts_congr:∀ {xs:List (Nat×Operand)},(∀ x ∈ xs.map (·.2),E.ev x=E'.ev x)→partsOf E xs=partsOf E' xs
 | [],_=>rfl
 | (i,x)::xs,h=>by
  simp only [partsOf]
  rw [h x (by simp),parts_congr fun y hy=>h y (by simp at hy ⊢;exact .inr hy)]
theorem optV_congr {x:Option Operand}(h:∀ y,x=some y→E.ev y=E'.ev y):optV E x=optV E' x:=by
 cases x with
 | none=>rfl
 | some y=>simp only [optV];rw [h y rfl]
theorem aop_congr {nm:Option Nat}(h:∀ x ∈ o.op.operands,E.ev x=E'.ev x):aop P nm E o=aop P nm E' o:=by
 unfold aop
 cases hop:o.op <;> simp only [hop] at h ⊢
 case build t ps=>rw [parts_congr fun x hx=>h x (by simpa [Op.operands] using hx)]
 case buildSlice t l ps=>rw [parts_congr fun x hx=>h x (by simpa [Op.operands] using hx)]
 case makeFunc f a b =>
  rw [evs_congr (xs:=a.toList) fun x hx=>h x (by simp only [Op.operands,Array.mem_append];exact .inl (Array.mem_toList_iff.1 hx)),
   evs_congr (xs:=b.toList) fun x hx=>h x (by simp only [Op.operands,Array.mem_append];exact .inr (Array.mem_toList_iff.1 hx))]
 case makeMap t r=>rw [optV_congr (x:=r) fun y hy=>h y (by simp [Op.operands,hy])]
 case call c =>
  rw [evs_congr (xs:=c.args.toList) fun x hx=>h x (by simp only [Op.operands,Call.operands,Array.mem_append];exact .inr (Array.mem_toList_iff.1 hx))]
 case slice t x lo hi mx =>
  rw [h x (by simp [Op.operands]),optV_congr (x:=lo) fun y hy=>h y (by simp [Op.operands,hy]),
   optV_congr (x:=hi) fun y hy=>h y (by simp [Op.operands,hy]),optV_congr (x:=mx) fun y hy=>h y (by simp [Op.operands,hy])]
 all_goals simp [Op.operands] at h
 all_goals simp only [h]
theorem operand_reads {x:Operand}{t:Nat}(hx:x ∈ o.op.operands)(e:x=.tmp t):t ∈ readsOf ops o:=by
 unfold readsOf
 refine List.mem_append_left _ (List.mem_filterMap.2 ⟨x,Array.mem_toList_iff.2 hx,?_⟩)
 subst e;rfl
theorem ev_congr (h:∀ t ∈ readsOf ops o,E t=E' t):∀ x ∈ o.op.operands,E.ev x=E'.ev x:=by
 intro x hx
 cases x <;> simp only [Env.ev]
 exact h _ (operand_reads hx rfl)
theorem want_congr (h:∀ t ∈ readsOf ops o,E t=E' t):want ops E o=want ops E' o:=by
 unfold want
 split
 ·rfl
 ·rename_i j w hg
  split
  ·rename_i t ht
   rw [h t (by unfold readsOf;refine List.mem_append_right _ ?_;simp [hg,ht])]
  ·rfl
theorem readAt_congr (h:∀ t ∈ readsOf ops o,E t=E' t):readAt E o=readAt E' o:=by
 have h:=ev_congr h
 unfold readAt
 cases hop:o.op <;> simp only [hop,Op.operands] at h ⊢
 all_goals first | rfl | (rw [h _ (by simp)])
theorem lit_congr {c:Call}(hop:o.op=.call c)(h:∀ t ∈ readsOf ops o,L t=L' t):litArg L c=litArg L' c:=by
 unfold litArg
 split
 ·rename_i x t hc ha
  refine h t (operand_reads (x:=.tmp t) ?_ rfl)
  rw [hop]
  simp only [Op.operands,Call.operands,Array.mem_append]
  exact .inr (Array.mem_toList_iff.1 (by rw [ha];simp))
 ·rfl
theorem act_congr {nm:Nat}(h:∀ t ∈ readsOf ops o,E t=E' t)(hL:∀ t ∈ readsOf ops o,L t=L' t):act P C nm ops E L o=act P C nm ops E' L' o:=by
 funext hp
 unfold act
 rw [want_congr h]
 have he:ex P C nm ops E L o hp=ex P C nm ops E' L' o hp:=by
  have ha:=aop_congr (P:=P) (nm:=some nm) (ev_congr h)
  have hv:=ev_congr h
  unfold ex
  cases hop:o.op <;> simp only
  case pick c a b =>
   rw [hop] at hv
   rw [hv c (by simp [Op.operands]),hv a (by simp [Op.operands]),hv b (by simp [Op.operands])]
  case call c =>
   rw [ha,lit_congr hop hL]
   rw [hop] at hv
   have h1:callee E c=callee E' c:=by
    unfold callee
    rw [evs_congr (xs:=c.args.toList) fun x hx=>hv x (by simp only [Op.operands,Call.operands,Array.mem_append];exact .inr (Array.mem_toList_iff.1 hx))]
    split
    ·rename_i f vs hc _
     rw [hv f (by simp [Op.operands,Call.operands,hc])]
    ·rfl
   have h3:∀ t,dySlot C c=some t→calleeD E t c=calleeD E' t c:=by
    intro t ht
    unfold calleeD
    rw [evs_congr (xs:=c.args.toList) fun x hx=>hv x (by simp only [Op.operands,Call.operands,Array.mem_append];exact .inr (Array.mem_toList_iff.1 hx))]
    have hcal:c.callee=.value (.tmp t):=by
     unfold dySlot at ht
     split at ht
     ·split at ht
      ·cases ht;assumption
      ·cases ht
     ·cases ht
    have:E t=E' t:=hv (.tmp t) (by simp [Op.operands,Call.operands,hcal])
    rw [this]
   have h4:(match dySlot C c with
     | some t=>(match calleeD E t c with
      | some (x,vs)=>(match C.dy t x vs with
       | some ca=>(match ca.m hp with | some (x,h')=>some (Res.val (ca.pk x),h') | none=>none)
       | none=>none)
      | none=>none)
     | none=>(match callee E c with
      | some (f,vs)=>(match C.st f vs with
       | some ca=>(match ca.m hp with | some (x,h')=>some (.val (ca.pk x),h') | none=>none)
       | none=>none)
      | none=>none))=(match dySlot C c with
     | some t=>(match calleeD E' t c with
      | some (x,vs)=>(match C.dy t x vs with
       | some ca=>(match ca.m hp with | some (x,h')=>some (Res.val (ca.pk x),h') | none=>none)
       | none=>none)
      | none=>none)
     | none=>(match callee E' c with
      | some (f,vs)=>(match C.st f vs with
       | some ca=>(match ca.m hp with | some (x,h')=>some (.val (ca.pk x),h') | none=>none)
       | none=>none)
      | none=>none)):=by
    cases hds:dySlot C c with
    | none=>simp only [h1]
    | some t=>simp only [h3 t hds]
   have h2:∀ n cs,appLit P true E c n cs=appLit P true E' c n cs:=by
    intro n cs
    unfold appLit
    split
    ·rename_i t t' s u e1 e2
     rw [hv s (by simp only [Op.operands,Call.operands,Array.mem_append];exact .inr (Array.mem_toList_iff.1 (by rw [e2];simp)))]
    ·rfl
   simp only [h4,h2]
  case buildSlice t l ps =>
   rw [ha]
   have:litOf P ops E o=litOf P ops E' o:=by
    unfold litOf
    rw [hop] at hv ⊢
    have hp:=parts_congr (xs:=ps.toList) fun x hx=>hv x (by simpa [Op.operands] using hx)
    cases o.dst
    ·rfl
    ·simp only [hp]
   rw [this]
  all_goals rw [ha]
 rw [he]
end Congr
section Classes
variable {E E':Env}{L L':LEnv}{ops:Array Oper}{o:Oper}{C:Ctab}
def Pm {α:Type}(m:M α):Prop:=∀ h x h',m h=some (x,h')→h'=h∧∀ h2,m h2=some (x,h2)
def Pa (A:Act):Prop:=∀ h x h',A.exec h=some (x,h')→h'=h∧∀ h2,A.exec h2=some (x,h2)
def Rm (a:Option Addr){α:Type}(m:M α):Prop:=∀ h x h',m h=some (x,h')→h'=h ∧
 ((∀ h2,m h2=some (x,h2))∨∃ b,a=some b∧h.get b.block≠none∧∀ h2,h2.get b.block=h.get b.block→m h2=some (x,h2))
def Ra (a:Option Addr)(A:Act):Prop:=∀ h x h',A.exec h=some (x,h')→h'=h ∧
 ((∀ h2,A.exec h2=some (x,h2))∨∃ b,a=some b∧h.get b.block≠none∧∀ h2,h2.get b.block=h.get b.block→A.exec h2=some (x,h2))
theorem Pa.val {v:Value}:Pa (.val v):=fun h x h' e=>by cases e;exact⟨rfl,fun _=>rfl⟩
theorem Pa.none:Pa .none:=fun h x h' e=>by cases e
theorem Pa.ask {α:Type}{m:M α}{k:α→Act}(hm:Pm m)(hk:∀ x,Pa (k x)):Pa (.ask α m k):=fun h x h' e=>by
 simp only [Act.exec] at e
 split at e
 ·rename_i y h1 he
  obtain⟨rfl,h2⟩:=hm _ _ _ he
  obtain⟨rfl,h3⟩:=hk _ _ _ _ e
  exact⟨rfl,fun h2'=>by simp only [Act.exec,h2 h2'];exact h3 h2'⟩
 ·cases e
theorem Ra.of {a:Option Addr}{A:Act}(h:Pa A):Ra a A:=fun h0 x h' e=>⟨(h _ _ _ e).1,.inl (h _ _ _ e).2⟩
theorem Ra.ask {a:Option Addr}{α:Type}{m:M α}{k:α→Act}(hm:Rm a m)(hk:∀ x,Ra a (k x)):Ra a (.ask α m k):=fun h x h' e=>by
 simp only [Act.exec] at e
 split at e
 ·rename_i y h1 he
  obtain⟨rfl,h2⟩:=hm _ _ _ he
  obtain⟨rfl,h3⟩:=hk _ _ _ _ e
  refine⟨rfl,?_⟩
  rcases h2 with h2 | ⟨b,hb,hn,h2⟩
  ·rcases h3 with h3 | ⟨b,hb,hn,h3⟩
   ·exact .inl fun h4=>by simp only [Act.exec,h2 h4];exact h3 h4
   ·exact .inr ⟨b,hb,hn,fun h4 e4=>by simp only [Act.exec,h2 h4];exact h3 h4 e4⟩
  ·refine .inr ⟨b,hb,hn,fun h4 e4=>?_⟩
   simp only [Act.exec,h2 h4 e4]
   rcases h3 with h3 | ⟨b',hb',_,h3⟩
   ·exact h3 h4
   ·rw [hb] at hb';cases hb';exact h3 h4 e4
 ·cases e
theorem Pm.ckM (b:Bool):Pm (ckM b):=fun h x h' e=>by
 cases b <;> simp only [Ago.ckM] at e
 ·cases e
 ·cases e;exact⟨rfl,fun _=>rfl⟩
theorem Pm.nn (p:Option Addr):Pm (nn p):=fun h x h' e=>by
 cases p <;> simp only [Ago.nn] at e
 ·cases e
 ·cases e;exact⟨rfl,fun _=>rfl⟩
theorem Pm.nnF (x:Value):Pm (nnF x):=fun h y h' e=>by
 unfold Ago.nnF at e;split at e
 ·cases e;exact⟨rfl,fun _=>rfl⟩
 ·cases e
theorem Pm.isNilI (v:Value):Pm (isNilI v):=fun h x h' e=>by
 unfold Ago.isNilI at e;split at e
 ·cases e;exact⟨rfl,fun _=>rfl⟩
 ·cases e;exact⟨rfl,fun _=>rfl⟩
 ·cases e
theorem Pm.catS (x y:ByteArray):Pm (catS x y):=fun h z h' e=>by
 unfold Ago.catS at e ⊢;split at e
 ·rename_i hc;cases e;exact⟨rfl,fun _=>by simp [hc]⟩
 ·cases e
theorem Pm.idxS (s:ByteArray)(i:Int):Pm (idxS s i):=fun h z h' e=>by
 unfold Ago.idxS at e ⊢;split at e
 ·rename_i hc;cases e;exact⟨rfl,fun _=>by simp only [hc]⟩
 ·cases e
theorem Pm.idxC (l:Leaf)(n:Nat)(cs:List Value)(i:Int):Pm (idxC l n cs i):=fun h z h' e=>by
 unfold Ago.idxC at e ⊢;split at e
 ·rename_i hb
  split at e
  ·rename_i hc;split at e
   ·rename_i hu;cases e;exact⟨rfl,fun _=>by simp only [if_pos hb,hc,hu]⟩
   ·cases e
  ·cases e
 ·cases e
theorem Pm.idxA (s:Sl)(i:Int)(z:Nat):Pm (idxA s i z):=fun h x h' e=>by
 unfold Ago.idxA at e ⊢;split at e
 ·split at e
  ·rename_i hc;cases e;exact⟨rfl,fun _=>by simp [hc]⟩
  ·cases e
 ·cases e
theorem Pm.sliceS (s:ByteArray)(l u:Int):Pm (sliceS s l u):=fun h z h' e=>by
 unfold Ago.sliceS at e ⊢;split at e
 ·rename_i hc;cases e;exact⟨rfl,fun _=>by rw [if_pos hc]⟩
 ·cases e
theorem Pm.sliceA (a:Addr)(n:Nat)(l u:Int)(z:Nat):Pm (sliceA a n l u z):=fun h x h' e=>by
 unfold Ago.sliceA at e ⊢;split at e
 ·rename_i hc;cases e;exact⟨rfl,fun _=>by rw [if_pos hc]⟩
 ·cases e
theorem Pm.fltM (o:Option Nat):Pm (fltM o):=fun h z h' e=>by
 unfold Ago.fltM at e ⊢;split at e
 ·cases e;exact⟨rfl,fun _=>rfl⟩
 ·cases e
theorem abinF_pure (op:BinOp)(a b:Nat):Pa (abinF op a b):=by
 unfold abinF
 repeat' (first | exact Pa.val | exact Pa.none | exact Pa.ask (Pm.fltM _) fun _=>Pa.val | (unfold fAdd;exact Pa.ask (Pm.fltM _) fun _=>Pa.val) | (unfold fSub;exact Pa.ask (Pm.fltM _) fun _=>Pa.val) | (unfold fMul;exact Pa.ask (Pm.fltM _) fun _=>Pa.val) | (unfold fDiv;exact Pa.ask (Pm.fltM _) fun _=>Pa.val) | split)
theorem abinI_pure (op:BinOp)(k:IntKind)(a:Int)(k':IntKind)(b:Int):Pa (abinI op k a k' b):=by
 unfold abinI
 repeat' (first | exact Pa.val | exact Pa.none | exact Pa.ask (Pm.ckM _) fun _=>Pa.val | split)
theorem abinS_pure (op:BinOp)(a b:ByteArray):Pa (abinS op a b):=by
 unfold abinS
 repeat' (first | exact Pa.val | exact Pa.none | exact Pa.ask (Pm.catS _ _) fun _=>Pa.val | split)
theorem abinE_pure (op:BinOp)(b:Bool):Pa (abinE op b):=by
 unfold abinE;split <;> first | exact Pa.val | exact Pa.none
theorem abin_pure (op:BinOp)(t:TypeId)(x y:Value):Pa (abin P op t x y):=by
 unfold abin
 split
 ·unfold abinNil
  repeat' (first | exact Pa.val | exact Pa.none | exact Pa.ask (Pm.isNilI _) fun _=>Pa.val | split)
 ·unfold abin2
  split
  ·exact abinI_pure _ _ _ _ _
  ·exact abinS_pure _ _ _
  ·exact abinF_pure _ _ _
  all_goals repeat' (first | exact Pa.val | exact Pa.none | exact abinE_pure _ _ | split)
theorem aun_pure (op:UnOp)(x:Value):Pa (aun op x):=by
 unfold aun
 repeat' (first | exact Pa.val | exact Pa.none | split)
theorem addrK_pure {v:Value}{k:Addr→Act}(h:∀ a,Pa (k a)):Pa (addrK v k):=by
 unfold addrK
 split
 ·exact h _
 ·exact Pa.none
theorem Rm.ldL (l:Leaf)(a b:Addr)(hb:a.block=b.block):Rm (some b) (ldL l a):=fun h x h' e=>by
 unfold Ago.ldL at e ⊢
 split at e
 ·rename_i v hv
  split at e
  ·rename_i y hy
   cases e
   refine⟨rfl,.inr ⟨b,rfl,?_,fun h2 e2=>?_⟩⟩
   ·intro hn
    unfold AHeap.cell at hv
    rw [hb,hn] at hv;cases hv
   ·have:h2.cell a=some v:=by
     unfold AHeap.cell at hv ⊢
     rw [hb] at hv ⊢;rw [e2];exact hv
    simp only [this,hy]
  ·cases e
 ·cases e
theorem Rm.ldLs (ls:List Leaf)(a:Addr):Rm (some a) (ldLs ls a):=fun h x h' e=>by
 unfold Ago.ldLs at e ⊢
 split at e
 ·rename_i vs hv
  split at e
  ·rename_i y hy
   cases e
   refine⟨rfl,.inr ⟨a,rfl,?_,fun h2 e2=>?_⟩⟩
   ·intro hn
    simp [cellsAt,hn] at hv
   ·have:cellsAt h2 (some a) ls.length=some vs:=by
     unfold cellsAt at hv ⊢
     simp only at hv ⊢
     rw [e2];exact hv
    simp only [this,hy]
  ·cases e
 ·cases e
theorem ldAll_ra (a:Addr):∀ (ls:List Leaf) (i:Nat) (acc:List Value),Ra (some a) (ldAll a ls i acc)
 | [],i,acc=>Ra.of Pa.val
 | l::ls,i,acc=>Ra.ask (Rm.ldL l _ a rfl) fun x=>ldAll_ra a ls _ _
theorem ldT_ra (t:TypeId)(a:Addr):Ra (some a) (ldT P t a):=by
 unfold ldT
 repeat' (first | exact Ra.of Pa.none | exact ldAll_ra _ _ _ _ | exact Ra.ask (Rm.ldL _ _ _ rfl) fun _=>Ra.of Pa.val | exact Ra.ask (Rm.ldLs _ _) fun _=>Ra.of Pa.val | split)
theorem Rm.sliceL (s:Sl)(lo hi:Int)(e:TypeId)(z:Nat):Rm s.a (sliceL s lo hi e z):=fun h x h' he=>by
 unfold Ago.sliceL at he ⊢
 split at he
 ·rename_i hc
  cases he
  refine⟨rfl,?_⟩
  obtain⟨h1,h2,h3,h4⟩:=hc
  unfold elemOk at h4
  split at h4
  ·rename_i ha
   refine .inl fun h2'=>?_
   rw [if_pos]
   exact⟨h1,h2,h3,by unfold elemOk;simp only [ha];exact h4⟩
  ·rename_i a ha
   refine .inr ⟨a,ha,?_,fun h2' e2=>?_⟩
   ·intro hn;rw [hn] at h4;cases h4
   ·rw [if_pos]
    exact⟨h1,h2,h3,by unfold elemOk;simp only [ha,e2];exact h4⟩
 ·cases he
theorem Rm.sliceL3 (s:Sl)(lo hi m:Int)(e:TypeId)(z:Nat):Rm s.a (sliceL3 s lo hi m e z):=fun h x h' he=>by
 unfold Ago.sliceL3 at he ⊢
 split at he
 ·rename_i hc
  cases he
  refine⟨rfl,?_⟩
  obtain⟨h1,h2,h3,h0,h5,h4⟩:=hc
  unfold elemOk at h4
  split at h4
  ·rename_i ha
   refine .inl fun h2'=>?_
   rw [if_pos]
   exact⟨h1,h2,h3,h0,h5,by unfold elemOk;simp only [ha];exact h4⟩
  ·rename_i a ha
   refine .inr ⟨a,ha,?_,fun h2' e2=>?_⟩
   ·intro hn;rw [hn] at h4;cases h4
   ·rw [if_pos]
    exact⟨h1,h2,h3,h0,h5,by unfold elemOk;simp only [ha,e2];exact h4⟩
 ·cases he
theorem Rm.strOf (s:Sl):Rm s.a (strOf s):=fun h x h' he=>by
 unfold Ago.strOf at he ⊢
 split at he
 ·rename_i cs hc
  split at he
  ·rename_i l hl
   cases he
   refine⟨rfl,?_⟩
   unfold cellsAt at hc
   split at hc
   ·rename_i ha
    refine .inl fun h2=>?_
    have:cellsAt h2 s.a s.len=some cs:=by unfold cellsAt;simp only [ha];exact hc
    simp only [this,hl]
   ·rename_i a ha
    refine .inr ⟨a,ha,?_,fun h2 e2=>?_⟩
    ·intro hn;rw [hn] at hc;cases hc
    ·have:cellsAt h2 s.a s.len=some cs:=by unfold cellsAt;simp only [ha,e2];exact hc
     simp only [this,hl]
  ·cases he
 ·cases he
theorem aop_sil {nm:Option Nat}(hc:cls P ops o=.sil)(hn:∀ t l ps,o.op≠.buildSlice t l ps):Pa (aop P nm E o):=by
 unfold cls at hc
 unfold aop
 cases hop:o.op <;> simp only [hop] at hc hn ⊢ <;> try (first | cases hc | done)
 case binOp=>repeat' (first | exact abin_pure _ _ _ _ | exact Pa.none | split)
 case unOp=>repeat' (first | exact aun_pure _ _ | exact Pa.none | split)
 case nilCheck=>repeat' (first | exact Pa.ask (Pm.nn _) fun _=>Pa.val | exact Pa.ask (Pm.nnF _) fun _=>Pa.val | exact Pa.val | exact Pa.none | split)
 case fieldAddr=>repeat' (first | exact addrK_pure fun _=>Pa.val | exact Pa.none | split)
 case indexAddr=>repeat' (first | exact Pa.ask (Pm.idxA _ _ _) fun _=>Pa.val | exact Pa.ask (Pm.ckM _) fun _=>Pa.val | exact Pa.none | split)
 case index=>repeat' (first | exact Pa.ask (Pm.idxS _ _) fun _=>Pa.val | exact Pa.ask (Pm.idxC _ _ _ _) fun _=>Pa.val | exact Pa.none | split)
 case build =>
  split
  ·unfold abuild
   repeat' (first | exact Pa.val | exact Pa.none | split)
  ·exact Pa.none
 case slice t x lo hi mx =>
  split
  ·unfold aslice
   split
   ·repeat' (first | exact Pa.ask (Pm.sliceS _ _ _) fun _=>Pa.val | exact Pa.none | split)
   ·rename_i hu _ _;simp [hu] at hc
   ·repeat' (first | exact Pa.ask (Pm.sliceA _ _ _ _ _) fun _=>Pa.val | exact Pa.none | split)
   ·rename_i hu _ _;simp [hu] at hc
   ·exact Pa.none
  ·exact Pa.none
 case convert s d x =>
  split
  ·unfold aconv
   split
   ·exact Pa.val
   ·exact Pa.val
   ·exact Pa.val
   ·exact Pa.val
   ·rename_i h1 h2 _;simp [h1,h2] at hc
   ·rename_i h1 h2 _;simp [h1,h2] at hc
   ·exact Pa.none
  ·exact Pa.none
 case buildSlice t l ps=>exact absurd rfl (hn t l ps)
 case call c =>
  split
  ·rename_i b vs hb _
   rw [hb] at hc
   unfold abuiltin
   split <;> first | exact Pa.none | (simp only at hc;cases hc;done) | skip
   all_goals repeat' (first | exact Pa.val | exact Pa.none | (simp_all;done) | split)
  ·exact Pa.none
 all_goals repeat' (first | exact Pa.val | exact Pa.none | split)
theorem mapV_some {m:Option (Value×AHeap)}{r:Res}{h':AHeap}(e:mapV m=some (r,h')):∃ v,m=some (v,h')∧r=.val v:=by
 unfold mapV at e;split at e
 ·cases e;exact⟨_,rfl,rfl⟩
 ·cases e
theorem build_none {nm:Nat}{d:Nat}(hd:o.dst=some d)(hu:litUse ops d=true){t:TypeId}{l:Nat}{ps:Array (Nat×Operand)}(hop:o.op=.buildSlice t l ps)(hl:litOf P ops E o=none) :
  (aop P (some nm) E o).exec h=none:=by
 unfold litOf at hl
 unfold aop
 simp only [hop,hd,hu] at hl ⊢
 split at hl
 ·rename_i vs hv
  try simp only [hv]
  split at hl
  ·cases hl
  ·rename_i hc
   unfold litCells at hc
   unfold abuildSlice
   split at hc
   ·rename_i e hu
    split at hc
    ·rename_i n z hn hz
     try simp only [hz]
     split at hc
     ·rename_i cs hb hf
      simp only [Act.exec]
      split at hc
      ·cases hc
      ·rename_i hsc
       simp [newB,hsc]
     ·rfl
    ·rfl
   ·rfl
 ·rename_i hv
  try simp only [hv]
  rfl
theorem act_sil {nm:Nat}(hc:cls P ops o=.sil){r:Res}(hx:act P C nm ops E L o h=some (r,h')):h'=h∧∀ h2,act P C nm ops E L o h2=some (r,h2):=by
 unfold act at hx ⊢
 split at hx
 ·have gen:∀ A:Act,Pa A→mapV (A.exec h)=some (r,h')→h'=h∧∀ h2,mapV (A.exec h2)=some (r,h2):=by
   intro A hA e
   obtain⟨v,e1,rfl⟩:=mapV_some e
   obtain⟨e2,e3⟩:=hA _ _ _ e1
   exact⟨e2,fun h2=>by rw [e3 h2];rfl⟩
  unfold ex at hx ⊢
  cases hop:o.op <;> simp only [hop] at hx ⊢
  case pick c a b =>
   split at hx
   ·split at hx
    ·rename_i h1 _ _ h2;cases hx;exact⟨rfl,fun _=>by simp only [h1,h2]⟩
    ·cases hx
   ·split at hx
    ·rename_i h1 _ _ h2;cases hx;exact⟨rfl,fun _=>by simp only [h1,h2]⟩
    ·cases hx
   ·cases hx
  case call c =>
   have hl:litArg L c=none:=by
    unfold litArg;split
    ·rename_i h1 _;simp [cls,hop,h1] at hc
    ·rfl
   split at hx
   ·rename_i hb
    simp only [hl] at hx ⊢
    exact gen _ (aop_sil hc (by simp [hop])) hx
   ·rename_i hb
    unfold isBuiltin at hb
    unfold cls at hc
    simp only [hop] at hc
    split at hb
    ·cases hb
    ·rename_i hn
     split at hc <;> first | (rename_i h1;exact absurd h1 (hn _)) | cases hc
  case buildSlice t l ps =>
   unfold cls at hc
   simp only [hop] at hc
   split at hc
   ·rename_i d hd
    split at hc
    ·rename_i hu
     split at hx
     ·rename_i x hl
      cases hx
      exact⟨rfl,fun _=>rfl⟩
     ·rename_i hl
      rw [build_none hd hu hop hl] at hx;cases hx
    ·cases hc
   ·cases hc
  all_goals exact gen _ (aop_sil hc (by simp [hop])) hx
 ·cases hx;exact⟨rfl,fun _=>rfl⟩
 ·cases hx
def rdL:Value→Option Addr
 | .pointer p=>p
 | _=>none
def rdS':Value→Option Addr
 | .slice a _ _=>a
 | _=>none
theorem act_ro {nm:Nat}(hc:cls P ops o=.ro){r:Res}(hx:act P C nm ops E L o h=some (r,h')):h'=h ∧
  ((∀ h2,act P C nm ops E L o h2=some (r,h2))∨(want ops E o=some true∧∃ b,readAt E o=some b∧h.get b.block≠none∧∀ h2,h2.get b.block=h.get b.block→act P C nm ops E L o h2=some (r,h2))):=by
 unfold act at hx ⊢
 split at hx
 ·rename_i hw
  simp only [hw,true_and]
  have gen:∀ A:Act,Ra (readAt E o) A→mapV (A.exec h)=some (r,h')→h'=h∧((∀ h2,mapV (A.exec h2)=some (r,h2)) ∨
    ∃ b,readAt E o=some b∧h.get b.block≠none∧∀ h2,h2.get b.block=h.get b.block→mapV (A.exec h2)=some (r,h2)):=by
   intro A hA e
   obtain⟨v,e1,rfl⟩:=mapV_some e
   obtain⟨e2,e3⟩:=hA _ _ _ e1
   refine⟨e2,?_⟩
   rcases e3 with e3 | ⟨b,h1,h2,e3⟩
   ·exact .inl fun h2=>by rw [e3 h2];rfl
   ·exact .inr ⟨b,h1,h2,fun h2 q=>by rw [e3 h2 q];rfl⟩
  unfold ex at hx ⊢
  cases hop:o.op <;> simp only [hop] at hx ⊢ <;> try (unfold cls at hc;simp only [hop] at hc;contradiction)
  case load t x =>
   refine gen _ ?_ hx
   unfold aop
   simp only [hop]
   cases hv:E.ev x with
   | none=>exact Ra.of Pa.none
   | some v =>
    have hr:readAt E o=rdL v:=by simp only [readAt,hop,hv];cases v <;> rfl
    rw [hr]
    cases v <;> simp only [addrK] <;> try exact Ra.of Pa.none
    rename_i p
    cases p
    ·exact Ra.of Pa.none
    ·exact ldT_ra _ _
  case slice t x lo hi mx =>
   refine gen _ ?_ hx
   unfold aop
   unfold cls at hc
   simp only [hop] at hc ⊢
   cases hv:E.ev x with
   | none=>exact Ra.of Pa.none
   | some v =>
    have hr:readAt E o=rdS' v:=by simp only [readAt,hop,hv];cases v <;> rfl
    rw [hr]
    split
    ·rename_i v l u m he _ _ _
     cases he
     unfold aslice
     split
     ·rename_i hu _;simp [hu] at hc
     ·repeat' (first | exact Ra.ask (Rm.sliceL ⟨_,_,_⟩ _ _ _ _) fun _=>Ra.of Pa.val | exact Ra.of Pa.none | split)
     ·rename_i hu _;simp [hu] at hc
     ·repeat' (first | exact Ra.ask (Rm.sliceL3 ⟨_,_,_⟩ _ _ _ _ _) fun _=>Ra.of Pa.val | exact Ra.of Pa.none | split)
     ·exact Ra.of Pa.none
    ·exact Ra.of Pa.none
  case convert s d x =>
   refine gen _ ?_ hx
   unfold aop
   unfold cls at hc
   simp only [hop] at hc ⊢
   cases hv:E.ev x with
   | none=>exact Ra.of Pa.none
   | some v =>
    have hr:readAt E o=rdS' v:=by simp only [readAt,hop,hv];cases v <;> rfl
    rw [hr]
    simp only
    unfold aconv
    split
    ·exact Ra.of Pa.val
    ·exact Ra.of Pa.val
    ·exact Ra.of Pa.val
    ·exact Ra.of Pa.val
    ·rename_i h1 h2;simp [h1,h2] at hc
    ·repeat' (first | exact Ra.ask (Rm.strOf ⟨_,_,_⟩) fun _=>Ra.of Pa.val | exact Ra.of Pa.none | split)
    ·exact Ra.of Pa.none
  case buildSlice t l ps =>
   unfold cls at hc
   simp only [hop] at hc
   repeat' (first | (cases hc;done) | split at hc)
  case call c =>
   unfold cls at hc
   simp only [hop] at hc
   repeat' (first | (cases hc;done) | split at hc)
 ·rename_i hw;cases hx
  exact⟨rfl,.inl fun _=>rfl⟩
 ·cases hx
def Na (nm:Nat)(A:Act):Prop:=∀ h x h',A.exec h=some (x,h')→∃ t cs,h.used nm=false∧nm<h.next∧h.get nm=none∧h'=h.putB nm h.next t cs ∧
 ∀ h2:AHeap,h2.used nm=false→nm<h2.next→h2.get nm=none→A.exec h2=some (x,h2.putB nm h2.next t cs)
theorem Na.none {nm:Nat}:Na nm .none:=fun h x h' e=>by cases e
theorem Na.new {nm:Nat}{t:TypeId}{cs:List Value}{k:Nat→Value}:Na nm (.ask Nat (newB (some nm) t cs) fun b=>.val (k b)):=fun h x h' e=>by
 simp only [Act.exec,newB] at e ⊢
 by_cases hs:cs.all scal=true
 ·simp only [hs,if_true] at e ⊢
  split at e
  ·rename_i y h1 he
   split at he
   ·rename_i hk
    cases he;cases e
    refine⟨t,cs,hk.1,hk.2.1,Option.isNone_iff_eq_none.1 hk.2.2,rfl,fun h2 a b c=>?_⟩
    simp [a,b,c]
   ·cases he
  ·cases e
 ·simp [hs] at e
theorem Na.mkS {nm:Nat}{t:TypeId}{z:List Value}{l c:Int}{k:Sl→Value}:Na nm (.ask Sl (mkS (some nm) t z l c) fun r=>.val (k r)):=fun h x h' e=>by
 simp only [Act.exec,Ago.mkS] at e ⊢
 by_cases hb:0≤l∧l≤c∧c≤bigN
 ·simp only [hb,and_self,if_true] at e ⊢
  split at e
  ·rename_i y h1 he
   split at he
   ·rename_i b h2 hnb
    cases he;cases e
    have e0:(Act.ask Nat (newB (some nm) t (List.replicate c.toNat z).flatten) fun b=>.val (.int .i64 b)).exec h=some (.int .i64 b,h'):=by simp only [Act.exec,hnb]
    obtain⟨t',cs',a1,a2,a3,a4,a5⟩:=(Na.new (nm:=nm) (k:=fun b=>.int .i64 b)) h _ _ e0
    refine⟨t',cs',a1,a2,a3,a4,fun h2 b1 b2 b3=>?_⟩
    have:=a5 h2 b1 b2 b3
    simp only [Act.exec] at this
    split at this
    ·rename_i y2 h3 hy
     simp only [Option.some.injEq,Prod.mk.injEq,Value.int.injEq,true_and] at this
     obtain⟨q1,q2⟩:=this
     have q1:y2=b:=by omega
     subst q1;subst q2
     simp only [hy]
    ·cases this
   ·cases he
  ·cases e
 ·simp [hb] at e
def Mm (A:Act):Prop:=∀ h x h',A.exec h=some (x,h')→h'=h∧∀ h2:AHeap,h2.mget=h.mget→A.exec h2=some (x,h2)
theorem Mm.of {A:Act}(hA:Pa A):Mm A:=fun h x h' e=>⟨(hA h x h' e).1,fun h2 _=>(hA h x h' e).2 h2⟩
theorem Mm.get {kt:TypeId}{T:Ty}{z:T.den}{m:Option Nat}{k:Value}{g:Bool×T.den→Value}:Mm (.ask (Bool×T.den) (mpGet kt T z m k) fun r=>.val (g r)):=fun h x h' e=>by
 simp only [Act.exec] at e ⊢
 split at e
 ·rename_i y h1 he
  cases e
  have key:h'=h∧∀ h2:AHeap,h2.mget=h.mget→mpGet kt T z m k h2=some (y,h2):=by
   unfold mpGet at he ⊢
   split at he
   ·cases he;exact⟨rfl,fun _ _=>rfl⟩
   ·split at he
    ·rename_i hm
     split at he
     ·rename_i hv
      split at he
      ·rename_i hu
       cases he
       refine⟨rfl,fun h2 e2=>?_⟩
       have hq:∀ m,h2.ments kt m=h.ments kt m:=fun m=>by unfold AHeap.ments;rw [e2]
       simp only [hq,hm,hv,hu]
      ·cases he
     ·rename_i hv
      cases he
      refine⟨rfl,fun h2 e2=>?_⟩
      have hq:∀ m,h2.ments kt m=h.ments kt m:=fun m=>by unfold AHeap.ments;rw [e2]
      simp only [hq,hm,hv]
    ·cases he
  exact⟨key.1,fun h2 e2=>by simp only [key.2 h2 e2]⟩
 ·cases e
theorem Mm.len {m:Option Nat}{g:Nat→Value}:Mm (.ask Nat (mpLen m) fun r=>.val (g r)):=fun h x h' e=>by
 simp only [Act.exec] at e ⊢
 split at e
 ·rename_i y h1 he
  cases e
  have key:h'=h∧∀ h2:AHeap,h2.mget=h.mget→mpLen m h2=some (y,h2):=by
   unfold mpLen at he ⊢
   split at he
   ·cases he;exact⟨rfl,fun _ _=>rfl⟩
   ·split at he
    ·rename_i hm
     cases he
     exact⟨rfl,fun h2 e2=>by simp only [e2,hm]⟩
    ·cases he
  exact⟨key.1,fun h2 e2=>by simp only [key.2 h2 e2]⟩
 ·cases e
theorem act_mro {nm:Nat}(hc:cls P ops o=.mro){r:Res}(hx:act P C nm ops E L o h=some (r,h')):h'=h∧∀ h2:AHeap,h2.mget=h.mget→act P C nm ops E L o h2=some (r,h2):=by
 unfold act at hx ⊢
 split at hx
 ·have gen:∀ A:Act,Mm A→mapV (A.exec h)=some (r,h')→h'=h∧∀ h2:AHeap,h2.mget=h.mget→mapV (A.exec h2)=some (r,h2):=by
   intro A hA e
   obtain⟨v,e1,rfl⟩:=mapV_some e
   obtain⟨e2,e3⟩:=hA _ _ _ e1
   exact⟨e2,fun h2 q=>by rw [e3 h2 q];rfl⟩
  unfold ex at hx ⊢
  cases hop:o.op <;> simp only [hop] at hx ⊢ <;> try (unfold cls at hc;simp only [hop] at hc;contradiction)
  case lookup t x i ok =>
   refine gen _ ?_ hx
   unfold aop
   simp only [hop]
   repeat' (first | exact Mm.of Pa.none | exact Mm.get | split)
  case buildSlice t l ps =>
   unfold cls at hc
   simp only [hop] at hc
   repeat' (first | (cases hc;done) | split at hc)
  case call c =>
   have hcal:c.callee=.builtin .len:=by
    unfold cls at hc
    simp only [hop] at hc
    split at hc <;> first | assumption | (cases hc;done)
   have hb:isBuiltin c=true:=by unfold isBuiltin;rw [hcal]
   have hl:litArg L c=none:=by unfold litArg;rw [hcal]
   simp only [hb,hl] at hx ⊢
   refine gen _ ?_ hx
   have hty:∃ t r k e,c.argTypes.toList=t::r∧P.underlying t=some (.map k e):=by
    unfold cls at hc
    simp only [hop,hcal] at hc
    split at hc
    ·rename_i t r ht
     split at hc
     ·rename_i k e hu;exact⟨t,r,k,e,ht,hu⟩
     ·cases hc
    ·cases hc
   obtain⟨t,tr,k,e,ht,hu⟩:=hty
   unfold aop
   simp only [hop,hcal,ht]
   split
   ·rename_i b vs hb2 _
    cases hb2
    unfold abuiltin
    split <;> first | exact Mm.of Pa.none | (simp_all;done) | skip
    all_goals repeat' (first | exact Mm.of Pa.none | exact Mm.of Pa.val | exact Mm.len | split)
   ·exact Mm.of Pa.none
  all_goals
   unfold cls at hc
   simp only [hop] at hc
   repeat' (first | (cases hc;done) | split at hc)
 ·cases hx;exact⟨rfl,fun _ _=>rfl⟩
 ·cases hx
theorem act_alloc {nm:Nat}(hc:cls P ops o=.alloc){r:Res}(hx:act P C nm ops E L o h=some (r,h')):(h'=h∧∀ h2,act P C nm ops E L o h2=some (r,h2)) ∨
  ∃ t cs,h.used nm=false∧nm<h.next∧h.get nm=none∧h'=h.putB nm h.next t cs ∧
   ∀ h2:AHeap,h2.used nm=false→nm<h2.next→h2.get nm=none→act P C nm ops E L o h2=some (r,h2.putB nm h2.next t cs):=by
 unfold act at hx ⊢
 split at hx
 ·refine .inr ?_
  have gen:∀ A:Act,Na nm A→mapV (A.exec h)=some (r,h')→∃ t cs,h.used nm=false∧nm<h.next∧h.get nm=none∧h'=h.putB nm h.next t cs ∧
    ∀ h2:AHeap,h2.used nm=false→nm<h2.next→h2.get nm=none→mapV (A.exec h2)=some (r,h2.putB nm h2.next t cs):=by
   intro A hA e
   obtain⟨v,e1,rfl⟩:=mapV_some e
   obtain⟨t,cs,a,b,c,d,e2⟩:=hA _ _ _ e1
   exact⟨t,cs,a,b,c,d,fun h2 a b c=>by rw [e2 h2 a b c];rfl⟩
  unfold ex at hx ⊢
  cases hop:o.op <;> simp only [hop] at hx ⊢ <;> try (unfold cls at hc;simp only [hop] at hc;contradiction)
  case alloc t =>
   refine gen _ ?_ hx
   unfold aop
   simp only [hop]
   split
   ·exact Na.new
   ·exact Na.none
  case box t x =>
   refine gen _ ?_ hx
   unfold aop
   simp only [hop]
   split
   ·exact Na.new
   ·exact Na.none
  case makeSlice t l c =>
   refine gen _ ?_ hx
   unfold aop
   simp only [hop]
   repeat' (first | exact Na.none | exact Na.mkS | split)
  case buildSlice t l ps =>
   have hl:litOf P ops E o=none:=by
    unfold cls at hc
    unfold litOf
    simp only [hop] at hc ⊢
    split at hc
    ·rename_i d hd
     split at hc
     ·cases hc
     ·rename_i hu;simp only [hd,hu]
    ·cases hc
   simp only [hl] at hx ⊢
   refine gen _ ?_ hx
   unfold aop
   simp only [hop]
   split
   ·unfold abuildSlice
    repeat' (first | exact Na.none | exact Na.new | split)
   ·exact Na.none
  case call c =>
   unfold cls at hc
   simp only [hop] at hc
   repeat' (first | (cases hc;done) | split at hc)
  all_goals
   unfold cls at hc
   simp only [hop] at hc
   repeat' (first | (cases hc;done) | split at hc)
 ·cases hx;exact .inl ⟨rfl,fun _=>rfl⟩
 ·cases hx
def Ka (A:Act):Prop:=∀ h x h',A.exec h=some (x,h')→∀ b,h.get b≠none→h'.get b=h.get b
theorem Ka.pure {A:Act}(hA:Pa A):Ka A:=fun h x h' e b _=>by rw [(hA h x h' e).1]
theorem app_keeps {s:Sl}{sz:Nat}{e:TypeId}{n:Nat}{new:List Value}{r:Sl}(hx:app true s sz e n new h=some (r,h')):∀ b,h.get b≠none→h'.get b=h.get b:=by
 intro b hb
 unfold app at hx
 split at hx
 ·cases hx
 rename_i hn
 have hnx:h.get h.next=none:=by simpa using hn
 have hne:Nat.beq b h.next=false:=by
  cases hq:Nat.beq b h.next
  ·rfl
  ·rw [Nat.eq_of_beq_eq_true hq] at hb;exact absurd hnx hb
 have new:∀ e cs,(h.new e cs).get b=h.get b:=fun e cs=>by simp [AHeap.new,AHeap.putB,hne]
 unfold app0 at hx
 split at hx
 ·split at hx
  ·split at hx <;> cases hx;rfl
  ·split at hx <;> cases hx;rfl
 split at hx
 ·cases hx
 split at hx
 ·split at hx <;> cases hx;exact new _ _
 split at hx
 ·split at hx
  ·split at hx
   ·rename_i hc;simp at hc
   ·cases hx
  ·split at hx
   ·cases hx;exact new _ _
   ·split at hx
    ·simp only at hx
     split at hx
     ·cases hx;simp [hne]
     ·split at hx
      ·rename_i hc;simp at hc
      ·cases hx
    ·cases hx
 ·cases hx
theorem Ka.ask_app {s:Sl}{sz:Nat}{e:TypeId}{n:Nat}{new:List Value}{k:Sl→Value}:Ka (.ask Sl (app true s sz e n new) fun r=>.val (k r)):=fun h x h' he=>by
 simp only [Act.exec] at he
 split at he
 ·rename_i hm;cases he;exact app_keeps hm
 ·cases he
theorem Ka.ask {α:Type}{m:M α}{k:α→Act}(hm:∀ h x h',m h=some (x,h')→h'=h)(hk:∀ x,Ka (k x)):Ka (.ask α m k):=fun h x h' he=>by
 simp only [Act.exec] at he
 split at he
 ·rename_i y h1 hm1
  rw [hm _ _ _ hm1] at he
  exact hk _ _ _ _ he
 ·cases he
theorem act_add {nm:Nat}(hc:cls P ops o=.add){r:Res}(hx:act P C nm ops E L o h=some (r,h')):∀ b,h.get b≠none→h'.get b=h.get b:=by
 unfold act at hx
 split at hx
 ·have gen:∀ A:Act,Ka A→mapV (A.exec h)=some (r,h')→∀ b,h.get b≠none→h'.get b=h.get b:=by
   intro A hA e
   obtain⟨v,e1,rfl⟩:=mapV_some e
   exact hA _ _ _ e1
  unfold ex at hx
  cases hop:o.op <;> simp only [hop] at hx <;> try (unfold cls at hc;simp only [hop] at hc;contradiction)
  case call c =>
   have hcal:c.callee=.builtin .append:=by
    unfold cls at hc
    simp only [hop] at hc
    split at hc <;> first | assumption | (cases hc;done) | (repeat' (first | (cases hc;done) | split at hc))
   split at hx
   ·split at hx
    ·refine gen _ ?_ hx
     unfold appLit
     repeat' (first | exact Ka.ask_app | exact Ka.pure Pa.none | split)
    ·refine gen _ ?_ hx
     unfold aop
     simp only [hop,hcal]
     split
     ·rename_i b vs hb _
      cases hb
      unfold abuiltin
      split
      ·contradiction
      ·contradiction
      ·contradiction
      ·contradiction
      ·contradiction
      ·contradiction
      ·contradiction
      ·have hrd:∀ (s:Sl) (z:Nat) h x h',rdS s z h=some (x,h')→h'=h:=by
        intro s z h x h' e
        unfold rdS at e;split at e
        ·cases e;rfl
        ·cases e
       repeat' (first | exact Ka.ask (hrd _ _) fun _=>Ka.ask_app | exact Ka.pure Pa.none | split)
      ·repeat' (first | exact Ka.ask_app | exact Ka.pure Pa.none | split)
      ·exact Ka.pure Pa.none
     ·exact Ka.pure Pa.none
   ·rename_i hb
    simp [isBuiltin,hcal] at hb
  all_goals
   unfold cls at hc
   simp only [hop] at hc
   repeat' (first | (cases hc;done) | split at hc)
 ·cases hx;exact fun _ _=>rfl
 ·cases hx
def Km (A:Act):Prop:=∀ h x h',A.exec h=some (x,h')→h'.mget=h.mget
theorem Km.pure {A:Act}(hA:Pa A):Km A:=fun h x h' e=>by rw [(hA h x h' e).1]
theorem app_m {s:Sl}{sz:Nat}{e:TypeId}{n:Nat}{new:List Value}{r:Sl}(hx:app true s sz e n new h=some (r,h')):h'.mget=h.mget:=by
 unfold app at hx
 split at hx
 ·cases hx
 unfold app0 at hx
 repeat' (first | (cases hx;done) | (cases hx;rfl) | split at hx | simp only at hx)
theorem Km.ask_app {s:Sl}{sz:Nat}{e:TypeId}{n:Nat}{new:List Value}{k:Sl→Value}:Km (.ask Sl (app true s sz e n new) fun r=>.val (k r)):=fun h x h' he=>by
 simp only [Act.exec] at he
 split at he
 ·rename_i hm;cases he;exact app_m hm
 ·cases he
theorem Km.ask {α:Type}{m:M α}{k:α→Act}(hm:∀ h x h',m h=some (x,h')→h'=h)(hk:∀ x,Km (k x)):Km (.ask α m k):=fun h x h' he=>by
 simp only [Act.exec] at he
 split at he
 ·rename_i y h1 hm1
  rw [hm _ _ _ hm1] at he
  exact hk _ _ _ _ he
 ·cases he
theorem act_add_m {nm:Nat}(hc:cls P ops o=.add){r:Res}(hx:act P C nm ops E L o h=some (r,h')):h'.mget=h.mget:=by
 unfold act at hx
 split at hx
 ·have gen:∀ A:Act,Km A→mapV (A.exec h)=some (r,h')→h'.mget=h.mget:=by
   intro A hA e
   obtain⟨v,e1,rfl⟩:=mapV_some e
   exact hA _ _ _ e1
  unfold ex at hx
  cases hop:o.op <;> simp only [hop] at hx <;> try (unfold cls at hc;simp only [hop] at hc;contradiction)
  case call c =>
   have hcal:c.callee=.builtin .append:=by
    unfold cls at hc
    simp only [hop] at hc
    split at hc <;> first | assumption | (cases hc;done) | (repeat' (first | (cases hc;done) | split at hc))
   split at hx
   ·split at hx
    ·refine gen _ ?_ hx
     unfold appLit
     repeat' (first | exact Km.ask_app | exact Km.pure Pa.none | split)
    ·refine gen _ ?_ hx
     unfold aop
     simp only [hop,hcal]
     split
     ·rename_i b vs hb _
      cases hb
      unfold abuiltin
      split
      ·contradiction
      ·contradiction
      ·contradiction
      ·contradiction
      ·contradiction
      ·contradiction
      ·contradiction
      ·have hrd:∀ (s:Sl) (z:Nat) h x h',rdS s z h=some (x,h')→h'=h:=by
        intro s z h x h' e
        unfold rdS at e;split at e
        ·cases e;rfl
        ·cases e
       repeat' (first | exact Km.ask (hrd _ _) fun _=>Km.ask_app | exact Km.pure Pa.none | split)
      ·repeat' (first | exact Km.ask_app | exact Km.pure Pa.none | split)
      ·exact Km.pure Pa.none
     ·exact Km.pure Pa.none
   ·rename_i hb
    simp [isBuiltin,hcal] at hb
  all_goals
   unfold cls at hc
   simp only [hop] at hc
   repeat' (first | (cases hc;done) | split at hc)
 ·cases hx;rfl
 ·cases hx
theorem ckOp_eff (h:ckOp o=true):cls P ops o=.eff:=by
 unfold ckOp at h
 unfold cls
 split at h
 ·rename_i hop;simp only [hop]
 ·rename_i c hop
  simp only [hop]
  unfold isBuiltin at h
  split at h
  ·cases h
  ·rename_i hn
   split <;> first | rfl | (rename_i hb;exact absurd hb (hn _))
 ·cases h
theorem st_eff (h:isSt o=true):cls P ops o=.eff:=by
 unfold isSt at h
 unfold cls
 split at h
 ·rename_i hop;simp only [hop]
 ·cases h
theorem act_store {nm:Nat}(hs:isSt o=true){r:Res}(hx:act P C nm ops E L o h=some (r,h')):(h'=h∧want ops E o≠some true∧∀ h2,act P C nm ops E L o h2=some (r,h2)) ∨
  (want ops E o=some true∧∃ a vs c g base e,stA E o=some a∧h.get a.block=some (.cells c g base e)∧h'=h.upd a.block (splice c a.off vs) g base e ∧
   ∀ h2:AHeap,h2.get a.block=some (.cells c g base e)→act P C nm ops E L o h2=some (r,h2.upd a.block (splice c a.off vs) g base e)):=by
 unfold act at hx ⊢
 split at hx
 ·rename_i hw
  refine .inr ⟨hw,?_⟩
  try simp only [hw]
  unfold isSt at hs
  split at hs
  ·rename_i t x y hop
   unfold ex at hx ⊢
   simp only [hop] at hx ⊢
   have gen:∀ A:Act,A=aop P (some nm) E o→mapV (A.exec h)=some (r,h')→∃ a vs c g base e,stA E o=some a∧h.get a.block=some (.cells c g base e)∧h'=h.upd a.block (splice c a.off vs) g base e ∧
     ∀ h2:AHeap,h2.get a.block=some (.cells c g base e)→mapV (A.exec h2)=some (r,h2.upd a.block (splice c a.off vs) g base e):=by
    intro A hA e
    unfold aop at hA
    simp only [hop] at hA
    split at hA
    ·rename_i v u n hv hu hn
     unfold addrK at hA
     split at hA
     ·rename_i a
      split at hA
      ·subst hA
       simp only [Act.exec] at e ⊢
       unfold stN at e
       generalize hg:h.get a.block=og at e
       cases og with
       | none=>simp [mapV] at e
       | some blk =>
        cases blk with
        | cells c g base el =>
         simp only at e
         by_cases hc:g≠0∧a.off+u.cells.toList.length≤c.length∧u.cells.toList.all scal=true
         ·rw [if_pos hc] at e
          simp only [mapV,Option.some.injEq,Prod.mk.injEq] at e
          obtain⟨e1,e2⟩:=e
          refine⟨a,u.cells.toList,c,g,base,el,by simp only [stA,hop,hv],hg,e2.symm,fun h2 e3=>?_⟩
          unfold stN
          rw [e3]
          simp only
          rw [if_pos hc,← e1];rfl
         ·rw [if_neg hc] at e;simp [mapV] at e
        | _=>simp [mapV] at e
      ·subst hA;simp [Act.exec,mapV] at e
     ·subst hA;simp [Act.exec,mapV] at e
    ·subst hA;simp [Act.exec,mapV] at e
   exact gen _ rfl hx
  ·cases hs
 ·rename_i hw;cases hx
  exact .inl ⟨rfl,by simp [hw],fun _=>by simp⟩
 ·cases hx
theorem stA_congr (h:∀ t ∈ readsOf ops o,E t=E' t):stA E o=stA E' o:=by
 have h:=ev_congr h
 unfold stA
 cases hop:o.op <;> simp only [hop,Op.operands] at h ⊢
 rw [h _ (by simp)]
theorem stOK_congr {ks:List Nat}(hE:∀ t ∈ readsOf ops o,E t=E' t):stOK E o h ks↔stOK E' o h ks:=by
 unfold stOK;rw [stA_congr hE]
theorem act_mka {nm:Nat}(hc:cls P ops o=.mka){r:Res}(hx:act P C nm ops E L o h=some (r,h')):(h'=h∧∀ h2,act P C nm ops E L o h2=some (r,h2)) ∨
  ∃ kt,h.used nm=false∧nm<h.next∧h'=h.mkm nm kt∧∀ h2:AHeap,h2.used nm=false→nm<h2.next→act P C nm ops E L o h2=some (r,h2.mkm nm kt):=by
 unfold act at hx ⊢
 split at hx
 ·refine .inr ?_
  unfold ex at hx ⊢
  cases hop:o.op <;> simp only [hop] at hx ⊢ <;> try (unfold cls at hc;simp only [hop] at hc;contradiction)
  case makeMap t x =>
   have gen:∀ A:Act,(∀ h x h',A.exec h=some (x,h')→∃ kt,h.used nm=false∧nm<h.next∧h'=h.mkm nm kt∧∀ h2:AHeap,h2.used nm=false→nm<h2.next→A.exec h2=some (x,h2.mkm nm kt))→mapV (A.exec h)=some (r,h') →
     ∃ kt,h.used nm=false∧nm<h.next∧h'=h.mkm nm kt∧∀ h2:AHeap,h2.used nm=false→nm<h2.next→mapV (A.exec h2)=some (r,h2.mkm nm kt):=by
    intro A hA e
    obtain⟨v,e1,rfl⟩:=mapV_some e
    obtain⟨kt,a,b,c,d⟩:=hA _ _ _ e1
    exact⟨kt,a,b,c,fun h2 a b=>by rw [d h2 a b];rfl⟩
   have one:∀ (ty:TypeId) h x h',(Act.ask Nat (mpNewAt nm ty) fun m=>.val (.map (some m))).exec h=some (x,h')→∃ kt,h.used nm=false∧nm<h.next∧h'=h.mkm nm kt∧∀ h2:AHeap,h2.used nm=false→nm<h2.next→(Act.ask Nat (mpNewAt nm ty) fun m=>.val (.map (some m))).exec h2=some (x,h2.mkm nm kt):=by
    intro ty h x h' e
    simp only [Act.exec,mpNewAt] at e ⊢
    by_cases hk:h.used nm=false∧nm<h.next
    ·simp only [if_pos hk] at e
     cases e
     exact⟨ty,hk.1,hk.2,rfl,fun h2 a b=>by simp only [if_pos (And.intro a b)]⟩
    ·simp only [if_neg hk] at e;cases e
   refine gen _ ?_ hx
   unfold aop
   simp only [hop]
   repeat' (first | exact one _ | (intro h x h' e;simp [Act.exec] at e;done) | split)
  all_goals
   unfold cls at hc
   simp only [hop] at hc
   repeat' (first | (cases hc;done) | split at hc)
 ·cases hx;exact .inl ⟨rfl,fun _=>rfl⟩
 ·cases hx
theorem act_mo {nm:Nat}{mo:FuncId→Bool}(HM:∀ f vs ca,mo f=true→C.st f vs=some ca→Anti ca.m)(hc:moCall mo o=true){k:Nat}{kt:TypeId}(h1:h.used k=false)(h2:k<h.next){r:Res}
  (hx:act P C nm ops E L o (h.mkm k kt)=some (r,h')):∃ h3,act P C nm ops E L o h=some (r,h3)∧h3.used k=false∧k<h3.next∧h'=h3.mkm k kt:=by
 unfold act at hx ⊢
 split at hx
 ·unfold moCall at hc
  split at hc
  ·rename_i c hop
   split at hc
   ·rename_i f hf
    have hb:isBuiltin c=false:=by unfold isBuiltin;rw [hf]
    have hd:dySlot C c=none:=by unfold dySlot;rw [hf]
    unfold ex at hx ⊢
    simp only [hop,hb,hd] at hx ⊢
    cases hev:E.evs c.args.toList with
    | none =>
     have:callee E c=none:=by unfold callee;rw [hf,hev]
     simp only [this] at hx;cases hx
    | some vs =>
     have:callee E c=some (f,vs):=by unfold callee;rw [hf,hev];simp [Env.ev]
     simp only [this] at hx ⊢
     split at hx
     ·rename_i ca hca
      split at hx
      ·rename_i x h4 hm
       cases hx
       obtain⟨h3,q1,q2,q3,q4⟩:=HM f vs ca hc hca h k kt x h' h1 h2 hm
       exact⟨h3,by simp only [q1],q2,q3,q4⟩
      ·cases hx
     ·cases hx
   ·cases hc
  ·cases hc
 ·cases hx;exact⟨h,rfl,h1,h2,rfl⟩
 ·cases hx
def AntiB {α:Type}(k:Nat)(m:M α):Prop:=∀ (h:AHeap) t cs (x:α) (h2:AHeap),h.used k=false→k<h.next→h.get k=none→m (h.putB k h.next t cs)=some (x,h2) →
 ∃ h3,m h=some (x,h3)∧h3.used k=false∧k<h3.next∧h3.get k=none∧h2=h3.putB k h3.next t cs
theorem chkB_some {α:Type}{k:Nat}{m:M α}{h:AHeap}{x:α}{h1:AHeap}(hx:chkB k m h=some (x,h1)):m h=some (x,h1)∧BP k m h x h1:=by
 unfold chkB at hx
 split at hx
 ·split at hx
  ·rename_i hm _ hb _;cases hx;exact⟨hm,hb⟩
  ·cases hx
 ·cases hx
theorem chkB_mk {α:Type}{k:Nat}{m:M α}{h:AHeap}{x:α}{h1:AHeap}(hm:m h=some (x,h1))(hb:BP k m h x h1):chkB k m h=some (x,h1):=by
 unfold chkB
 rw [hm]
 simp only
 split
 ·rfl
 ·rename_i hn _;exact absurd hb hn
theorem chkB_anti {α:Type}(k:Nat)(m:M α):AntiB k (chkB k m):=fun h t cs x h2 h1 h3 h4 hx=>by
 obtain⟨hm,hb⟩:=chkB_some hx
 obtain⟨h5,q1,q2,q3,q4,q5⟩:=hb h t cs h1 h3 h4 rfl
 refine⟨h5,chkB_mk q1 ?_,q2,q3,q4,q5⟩
 intro h0 t' cs' _ _ _ e
 rw [e] at h1
 simp [AHeap.putB,Nat.beq_refl] at h1
theorem act_b {nm:Nat}{f:FuncId}(hc:sCall o=some f){k:Nat}(HB:∀ vs ca,C.st f vs=some ca→AntiB k ca.m){t:TypeId}{cs:List Value}(h1:h.used k=false)(h2:k<h.next)(h3:h.get k=none){r:Res}
  (hx:act P C nm ops E L o (h.putB k h.next t cs)=some (r,h')):∃ h3,act P C nm ops E L o h=some (r,h3)∧h3.used k=false∧k<h3.next∧h3.get k=none∧h'=h3.putB k h3.next t cs:=by
 unfold act at hx ⊢
 split at hx
 ·unfold sCall at hc
  split at hc
  ·rename_i c hop
   split at hc
   ·rename_i g hf
    cases hc
    have hb:isBuiltin c=false:=by unfold isBuiltin;rw [hf]
    have hd:dySlot C c=none:=by unfold dySlot;rw [hf]
    unfold ex at hx ⊢
    simp only [hop,hb,hd] at hx ⊢
    cases hev:E.evs c.args.toList with
    | none =>
     have:callee E c=none:=by unfold callee;rw [hf,hev]
     simp only [this] at hx;cases hx
    | some vs =>
     have:callee E c=some (f,vs):=by unfold callee;rw [hf,hev];simp [Env.ev]
     simp only [this] at hx ⊢
     split at hx
     ·rename_i ca hca
      split at hx
      ·rename_i x h4 hm
       cases hx
       obtain⟨h5,q1,q2,q3,q4,q5⟩:=HB vs ca hca h t cs x h' h1 h2 h3 hm
       exact⟨h5,by simp only [q1],q2,q3,q4,q5⟩
      ·cases hx
     ·cases hx
   ·cases hc
  ·cases hc
 ·cases hx;exact⟨h,rfl,h1,h2,h3,rfl⟩
 ·cases hx
theorem sCall_st {p:Oper}{f:FuncId}(h:sCall p=some f):isSt p=false:=by
 unfold sCall at h
 unfold isSt
 split at h
 ·rename_i c hop;rw [hop]
 ·cases h
end Classes
section Swap
variable {C:Ctab}{W:Wr}{nb:Nat}{ops:Array Oper}{Af:Nat→Option Addr}{Ck:Nat→List (Option Addr)}{Kk:Nat→List Nat}
theorem memN_iff {l:List Nat}{i:Nat}:memN l i=true↔i ∈ l:=by
 unfold memN
 rw [List.any_eq_true]
 exact⟨fun ⟨x,h1,h2⟩=>Nat.eq_of_beq_eq_true h2 ▸ h1,fun h=>⟨i,h,Nat.beq_refl i⟩⟩
theorem res_other {E:Env}{L:LEnv}{d:Option Nat}{r:Res}{t:Nat}(h:d≠some t):E.res d r t=E t∧L.res d r t=L t:=by
 cases d with
 | none=>cases r <;> exact⟨rfl,rfl⟩
 | some i =>
  have:Nat.beq t i=false:=by
   cases hb:Nat.beq t i
   ·rfl
   ·exact absurd (congrArg some (Nat.eq_of_beq_eq_true hb).symm) h
  cases r <;> simp [Env.res,LEnv.res,Env.put,Env.set,Env.del,LEnv.put,LEnv.del,this]
theorem res_comm {E:Env}{L:LEnv}{d e:Option Nat}{r u:Res}(h:∀ i,d=some i→e≠some i) :
  (E.res d r).res e u=(E.res e u).res d r∧(L.res d r).res e u=(L.res e u).res d r:=by
 constructor <;> funext t
 ·by_cases hd:d=some t
  ·have he:=h t hd
   rw [(res_other (E:=E.res d r) (L:=L) (r:=u) he).1]
   subst hd;cases r <;> simp [Env.res,Env.put,Env.set,Env.del]
  ·rw [(res_other (E:=E.res e u) (L:=L) (r:=r) hd).1]
   by_cases he:e=some t
   ·subst he;cases u <;> simp [Env.res,Env.put,Env.set,Env.del]
   ·rw [(res_other (E:=E.res d r) (L:=L) (r:=u) he).1,(res_other (E:=E) (L:=L) (r:=r) hd).1,(res_other (E:=E) (L:=L) (r:=u) he).1]
 ·by_cases hd:d=some t
  ·have he:=h t hd
   rw [(res_other (E:=E) (L:=L.res d r) (r:=u) he).2]
   subst hd;cases r <;> simp [LEnv.res,LEnv.put,LEnv.del]
  ·rw [(res_other (E:=E) (L:=L.res e u) (r:=r) hd).2]
   by_cases he:e=some t
   ·subst he;cases u <;> simp [LEnv.res,LEnv.put,LEnv.del]
   ·rw [(res_other (E:=E) (L:=L.res d r) (r:=u) he).2,(res_other (E:=E) (L:=L) (r:=r) hd).2,(res_other (E:=E) (L:=L) (r:=u) he).2]
theorem putB_comm {h:AHeap}{k1 k2:Nat}(hk:k1≠k2){t1 t2:TypeId}{c1 c2:List Value} :
  (h.putB k1 h.next t1 c1).putB k2 h.next t2 c2=(h.putB k2 h.next t2 c2).putB k1 h.next t1 c1:=by
 have hb:∀ j,Nat.beq j k1=true→Nat.beq j k2=false:=fun j e=>by
  cases e2:Nat.beq j k2
  ·rfl
  ·exact absurd ((Nat.eq_of_beq_eq_true e).symm.trans (Nat.eq_of_beq_eq_true e2)) hk
 unfold AHeap.putB
 simp only [AHeap.mk.injEq,true_and,and_true]
 refine⟨?_,?_,?_⟩ <;> funext j
 ·cases e1:Nat.beq j k1
  ·rfl
  ·simp [hb j e1]
 ·cases e1:Nat.beq j (k1+1)
  ·simp
  ·have:Nat.beq j (k2+1)=false:=by
    cases e2:Nat.beq j (k2+1)
    ·rfl
    ·have h1:=Nat.eq_of_beq_eq_true e1;have h2:=Nat.eq_of_beq_eq_true e2;omega
   simp [this]
 ·cases e1:Nat.beq j k1
  ·rfl
  ·simp [hb j e1]
theorem core {mo:FuncId→Bool}(HM:∀ f vs ca,mo f=true→C.st f vs=some ca→Anti ca.m){i j:Nat}{o p:Oper}{ck:Bool}(HB:ck=true→isAlc (cls P ops o)=true→∀ f,sCall p=some f→∀ vs ca,C.st f vs=some ca→AntiB (nb+i) ca.m){E:Env}{L:LEnv}{h h1 h2:AHeap}{r u:Res}(hij:i≠j)
  (hsw:(match cls P ops o,cls P ops p with
   | .sil,_ | _,.sil | .ro,.ro | .ro,.alloc | .ro,.add | .alloc,.alloc=>true
   | .ro,.mro | .mro,.ro | .mro,.mro | .mro,.alloc | .mro,.add | .alloc,.mro | .add,.mro=>true
   | .ro,.eff=>ck && ckOp p
   | .alloc,.eff=>ck && (isSt p || (sCall p).isSome)
   | .ro,.mka | .mka,.ro=>true
   | .mka,.eff=>moCall mo p
   | _,_=>false)=true) (hkk:ck=true→isAlc (cls P ops o)=true→nb+i ∈ Kk j) (si:want ops E o=some true→stOK E o h (Kk i)) (sj:want ops E p=some true→stOK E p h1 (Kk j)) (hck:ck=true→Af i ∈ Ck j) (hrd:want ops E o=some true→readAt E o=Af i)
  (hi:act P C (nb+i) ops E L o h=some (r,h1)) (ci:ckOp o=true→sameAt h h1 (Ck i)=true)
  (hj:act P C (nb+j) ops E L p h1=some (u,h2)) (cj:ckOp p=true→sameAt h1 h2 (Ck j)=true) :
  ∃ h3,act P C (nb+j) ops E L p h=some (u,h3)∧act P C (nb+i) ops E L o h3=some (r,h2) ∧
   (ckOp p=true→sameAt h h3 (Ck j)=true)∧(ckOp o=true→sameAt h3 h2 (Ck i)=true) ∧
   (want ops E p=some true→stOK E p h (Kk j))∧(want ops E o=some true→stOK E o h3 (Kk i)):=by
 have noSt:∀ {q:Oper} {hh:AHeap} {ks:List Nat},cls P ops q≠.eff→want ops E q=some true→stOK E q hh ks:=fun hq _ hs=>absurd (st_eff hs) hq
 have first:h1=h→cls P ops o≠.eff→(∀ h2,act P C (nb+i) ops E L o h2=some (r,h2))→∃ h3,act P C (nb+j) ops E L p h=some (u,h3)∧act P C (nb+i) ops E L o h3=some (r,h2) ∧
   (ckOp p=true→sameAt h h3 (Ck j)=true)∧(ckOp o=true→sameAt h3 h2 (Ck i)=true) ∧
   (want ops E p=some true→stOK E p h (Kk j))∧(want ops E o=some true→stOK E o h3 (Kk i)):=by
  rintro rfl hne hA;exact⟨h2,hj,hA h2,cj,fun _=>sameAt_refl _ _,sj,noSt hne⟩
 have second:h2=h1→cls P ops p≠.eff→act P C (nb+j) ops E L p h=some (u,h)→∃ h3,act P C (nb+j) ops E L p h=some (u,h3)∧act P C (nb+i) ops E L o h3=some (r,h2) ∧
   (ckOp p=true→sameAt h h3 (Ck j)=true)∧(ckOp o=true→sameAt h3 h2 (Ck i)=true) ∧
   (want ops E p=some true→stOK E p h (Kk j))∧(want ops E o=some true→stOK E o h3 (Kk i)):=by
  rintro rfl hne hA;exact⟨h,hA,hi,fun _=>sameAt_refl _ _,ci,noSt hne,si⟩
 have noCk:∀ {q:Oper},cls P ops q≠.eff→∀ {X:Prop},ckOp q=true→X:=fun hq X hc=>absurd (ckOp_eff hc) hq
 cases ho:cls P ops o
 case sil=>obtain⟨e1,e2⟩:=act_sil ho hi;exact first e1 (by rw [ho];simp) e2
 case add =>
  cases hp:cls P ops p <;> rw [ho,hp] at hsw
  case sil=>obtain⟨e1,e2⟩:=act_sil hp hj;exact second e1 (by rw [hp];simp) (e2 h)
  case mro=>obtain⟨e1,e2⟩:=act_mro hp hj;exact second e1 (by rw [hp];simp) (e2 h (act_add_m ho hi).symm)
  all_goals cases hsw
 case mro =>
  obtain⟨rfl,e2⟩:=act_mro ho hi
  cases hp:cls P ops p <;> rw [ho,hp] at hsw
  case sil=>obtain⟨e1,e3⟩:=act_sil hp hj;exact second e1 (by rw [hp];simp) (e3 _)
  case ro=>obtain⟨rfl,_⟩:=act_ro hp hj;exact second rfl (by rw [hp];simp) hj
  case mro=>obtain⟨rfl,_⟩:=act_mro hp hj;exact second rfl (by rw [hp];simp) hj
  case alloc =>
   rcases act_alloc hp hj with ⟨e1,e3⟩ | ⟨t,cs,a1,a2,a3,rfl,a4⟩
   ·exact second e1 (by rw [hp];simp) (e3 _)
   ·exact⟨_,hj,e2 _ rfl,noCk (by rw [hp];simp),noCk (by rw [ho];simp),noSt (by rw [hp];simp),noSt (by rw [ho];simp)⟩
  case add=>exact⟨_,hj,e2 _ (act_add_m hp hj),noCk (by rw [hp];simp),noCk (by rw [ho];simp),noSt (by rw [hp];simp),noSt (by rw [ho];simp)⟩
  all_goals cases hsw
 case eff =>
  cases hp:cls P ops p <;> rw [ho,hp] at hsw
  case sil=>obtain⟨e1,e2⟩:=act_sil hp hj;exact second e1 (by rw [hp];simp) (e2 h)
  all_goals cases hsw
 case ro =>
  obtain⟨rfl,e2⟩:=act_ro ho hi
  rcases e2 with e2 | ⟨hw,b,hb,hn,e2⟩
  ·exact first rfl (by rw [ho];simp) e2
  ·cases hp:cls P ops p
   case sil=>obtain⟨e1,e2⟩:=act_sil hp hj;exact second e1 (by rw [hp];simp) (e2 _)
   case ro=>obtain⟨rfl,_⟩:=act_ro hp hj;exact second rfl (by rw [hp];simp) hj
   case mro=>obtain⟨rfl,_⟩:=act_mro hp hj;exact second rfl (by rw [hp];simp) hj
   case alloc =>
    rcases act_alloc hp hj with ⟨e1,e3⟩ | ⟨t,cs,a1,a2,a3,rfl,a4⟩
    ·exact second e1 (by rw [hp];simp) (e3 _)
    ·refine⟨_,hj,e2 _ ?_,noCk (by rw [hp];simp),noCk (by rw [ho];simp),noSt (by rw [hp];simp),noSt (by rw [ho];simp)⟩
     have:Nat.beq b.block (nb+j)=false:=by
      cases e:Nat.beq b.block (nb+j)
      ·rfl
      ·rw [Nat.eq_of_beq_eq_true e] at hn;exact absurd a3 hn
     simp [AHeap.putB,this]
   case add=>exact⟨_,hj,e2 _ (act_add hp hj _ hn),noCk (by rw [hp];simp),noCk (by rw [ho];simp),noSt (by rw [hp];simp),noSt (by rw [ho];simp)⟩
   case mka =>
    rcases act_mka hp hj with ⟨e1,e3⟩ | ⟨kt,a1,a2,rfl,a4⟩
    ·exact second e1 (by rw [hp];simp) (e3 _)
    ·exact⟨_,hj,e2 _ rfl,noCk (by rw [hp];simp),noCk (by rw [ho];simp),noSt (by rw [hp];simp),noSt (by rw [ho];simp)⟩
   case eff =>
    rw [ho,hp] at hsw
    simp only [Bool.and_eq_true] at hsw
    have hm:=hck hsw.1
    rw [← hrd hw,hb] at hm
    exact⟨_,hj,e2 _ (sameAt_mem (cj hsw.2) hm),cj,noCk (by rw [ho];simp),sj,noSt (by rw [ho];simp)⟩
 case mka =>
  cases hp:cls P ops p <;> rw [ho,hp] at hsw
  case sil=>obtain⟨e1,e2⟩:=act_sil hp hj;exact second e1 (by rw [hp];simp) (e2 _)
  case ro =>
   obtain⟨rfl,e2⟩:=act_ro hp hj
   rcases act_mka ho hi with ⟨e1,e3⟩ | ⟨kt,a1,a2,rfl,a4⟩
   ·exact first e1 (by rw [ho];simp) e3
   rcases e2 with e2 | ⟨hw,b,hb,hn,e2⟩
   ·exact second rfl (by rw [hp];simp) (e2 _)
   ·exact second rfl (by rw [hp];simp) (e2 _ rfl)
  case eff =>
   rcases act_mka ho hi with ⟨e1,e3⟩ | ⟨kt,a1,a2,rfl,a4⟩
   ·exact first e1 (by rw [ho];simp) e3
   obtain⟨h3,q1,q2,q3,rfl⟩:=act_mo HM hsw a1 a2 hj
   refine⟨h3,q1,a4 h3 q2 q3,fun hcp=>?_,noCk (by rw [ho];simp),fun _ hs=>?_,noSt (by rw [ho];simp)⟩
   ·have hsm:=cj hcp
    refine sameAt_mk fun x hx b hb=>?_
    subst hb
    exact (sameAt_mem hsm hx).symm
   ·unfold moCall at hsw
    unfold isSt at hs
    split at hs
    ·rename_i hop;rw [hop] at hsw;cases hsw
    ·cases hs
  all_goals cases hsw
 case alloc =>
  cases hp:cls P ops p
  case sil=>obtain⟨e1,e2⟩:=act_sil hp hj;exact second e1 (by rw [hp];simp) (e2 _)
  case mro =>
   obtain⟨e1,e2⟩:=act_mro hp hj
   rcases act_alloc ho hi with ⟨rfl,_⟩ | ⟨t,cs,a1,a2,a3,rfl,a4⟩
   ·exact second e1 (by rw [hp];simp) (e2 _ rfl)
   ·exact second e1 (by rw [hp];simp) (e2 _ rfl)
  case alloc =>
   rcases act_alloc ho hi with ⟨e1,e2⟩ | ⟨t,cs,a1,a2,a3,rfl,a4⟩
   ·exact first e1 (by rw [ho];simp) e2
   rcases act_alloc hp hj with ⟨e1,e2⟩ | ⟨t',cs',b1,b2,b3,rfl,b4⟩
   ·exact second e1 (by rw [hp];simp) (e2 _)
   have hne:Nat.beq (nb+j) (nb+i)=false:=by
    cases e:Nat.beq (nb+j) (nb+i)
    ·rfl
    ·have:=Nat.eq_of_beq_eq_true e;omega
   have hne':Nat.beq (nb+i) (nb+j)=false:=by
    cases e:Nat.beq (nb+i) (nb+j)
    ·rfl
    ·have:=Nat.eq_of_beq_eq_true e;omega
   simp only [AHeap.putB,hne,cond_false] at b1 b2 b3
   refine⟨_,b4 h b1 b2 b3,?_,noCk (by rw [hp];simp),noCk (by rw [ho];simp),noSt (by rw [hp];simp),noSt (by rw [ho];simp)⟩
   have:=a4 (h.putB (nb+j) h.next t' cs') (by simp [AHeap.putB,hne',a1]) a2 (by simp [AHeap.putB,hne',a3])
   rw [this]
   congr 2
   exact (putB_comm (by omega)).symm
  case eff =>
   rw [ho,hp] at hsw
   simp only [Bool.and_eq_true] at hsw
   obtain⟨hc1,hst⟩:=hsw
   rcases act_alloc ho hi with ⟨e1,e2⟩ | ⟨t,cs,a1,a2,a3,rfl,a4⟩
   ·exact first e1 (by rw [ho];simp) e2
   have hk:=hkk hc1 (by rw [ho];rfl)
   cases hsc:sCall p with
   | some f =>
    obtain⟨h3,q1,q2,q3,q4,rfl⟩:=act_b hsc (HB hc1 (by rw [ho];rfl) f hsc) a1 a2 a3 hj
    refine⟨h3,q1,a4 h3 q2 q3 q4,fun hcp=>?_,noCk (by rw [ho];simp),fun _ hs=>?_,noSt (by rw [ho];simp)⟩
    ·have hsm:=cj hcp
     refine sameAt_mk fun x hx b hb=>?_
     subst hb
     have h5:=(sameAt_mem hsm hx).symm
     cases q5:Nat.beq b.block (nb+i)
     ·simpa only [AHeap.putB,q5,cond_false] using h5
     ·rw [Nat.eq_of_beq_eq_true q5,q4,a3]
    ·rw [sCall_st hsc] at hs;cases hs
   | none =>
   rw [hsc] at hst
   simp only [Option.isSome_none,Bool.or_false] at hst
   rcases act_store hst hj with ⟨e1,e2,e3⟩ | ⟨hw,a,vs,c,g,base,e,b1,b2,rfl,b4⟩
   ·subst e1
    exact⟨h,e3 h,hi,fun _=>sameAt_refl _ _,noCk (by rw [ho];simp),fun w=>absurd w e2,noSt (by rw [ho];simp)⟩
   ·have hne:Kk j≠[]:=List.ne_nil_of_mem hk
    obtain⟨a',c1,c2⟩:=sj hw hst hne
    rw [b1] at c1;cases c1
    have c2':=c2
    unfold okK at c2
    rw [b2] at c2
    have c3:=List.all_eq_true.1 c2 _ hk
    simp only [Bool.and_eq_true,Bool.not_eq_true'] at c3
    obtain⟨d1,d2⟩:=c3
    have hga:(h.putB (nb+i) h.next t cs).get a.block=h.get a.block:=by simp [AHeap.putB,d1]
    have b2':h.get a.block=some (.cells c g base e):=by rw [← hga];exact b2
    have hka:Nat.beq (nb+i) a.block=false:=by
     cases hb:Nat.beq (nb+i) a.block
     ·rfl
     ·rw [Nat.eq_of_beq_eq_true hb,Nat.beq_refl] at d1;cases d1
    have hkg:Nat.beq (nb+i+1) g=false:=by
     cases hb:Nat.beq (nb+i+1) g
     ·rfl
     ·rw [Nat.eq_of_beq_eq_true hb,Nat.beq_refl] at d2;cases d2
    have hnone:(h.upd a.block (splice c a.off vs) g base e).get (nb+i)=none:=by simp [AHeap.upd,hka,a3]
    have hcomm:(h.upd a.block (splice c a.off vs) g base e).putB (nb+i) h.next t cs=(h.putB (nb+i) h.next t cs).upd a.block (splice c a.off vs) g base e:=by
     unfold AHeap.putB AHeap.upd
     simp only [AHeap.mk.injEq,true_and,and_true]
     funext q
     cases q1:Nat.beq q (nb+i)
     ·cases q2:Nat.beq q a.block <;> simp [q1]
     ·have:=Nat.eq_of_beq_eq_true q1
      subst this
      simp [hka,hkg]
    refine⟨_,b4 h b2',?_,fun hcp=>?_,noCk (by rw [ho];simp),fun _ _ _=>⟨a,b1,?_⟩,noSt (by rw [ho];simp)⟩
    ·have:=a4 (h.upd a.block (splice c a.off vs) g base e) a1 a2 hnone
     rw [this]
     congr 2
    ·have hsm:=cj hcp
     refine sameAt_mk fun x hx b hb=>?_
     subst hb
     have h5:=(sameAt_mem hsm hx).symm
     cases q1:Nat.beq b.block (nb+i)
     ·simp only [AHeap.putB,q1,cond_false] at h5
      rw [h5]
      simp [AHeap.upd,AHeap.putB,q1]
     ·rw [Nat.eq_of_beq_eq_true q1,hnone,a3]
    ·unfold okK at c2' ⊢
     rw [b2'];rw [b2] at c2';exact c2'
  all_goals
   rw [ho,hp] at hsw;cases hsw
theorem swap_ok {mo:FuncId→Bool}(HM:∀ f vs ca,mo f=true→C.st f vs=some ca→Anti ca.m){i j:Nat}{o p:Oper}{ck:Bool}(HB:ck=true→isAlc (cls P ops o)=true→∀ f,sCall p=some f→∀ vs ca,C.st f vs=some ca→AntiB (nb+i) ca.m){s s1 s2:St}(ho:ops[i]?=some o)(hp:ops[j]?=some p)(hij:i≠j)(hsw:swaps P mo ops o p ck=true)(hck:ck=true→Af i ∈ Ck j)(hkk:ck=true→isAlc (cls P ops o)=true→nb+i ∈ Kk j)
  (h1:Step P C W nb ops Af Ck Kk i s s1) (h2:Step P C W nb ops Af Ck Kk j s1 s2):∃ s1',Step P C W nb ops Af Ck Kk j s s1'∧Step P C W nb ops Af Ck Kk i s1' s2:=by
 obtain⟨E,L,h⟩:=s
 obtain⟨E1,L1,h1'⟩:=s1
 obtain⟨E2,L2,h2'⟩:=s2
 obtain⟨o',r,ho',hWi,hri,hai,e1,e2,hci,hsi⟩:=h1
 obtain⟨p',u,hp',hWj,hrj,haj,e3,e4,hcj,hsj⟩:=h2
 rw [ho] at ho';cases ho'
 rw [hp] at hp';cases hp'
 simp only at *
 subst e1;subst e2;subst e3;subst e4
 unfold swaps at hsw
 rw [Bool.and_eq_true] at hsw
 obtain⟨hap,hsw⟩:=hsw
 unfold apart at hap
 simp only [Bool.and_eq_true] at hap
 obtain⟨⟨q1,q2⟩,q3⟩:=hap
 have d1:∀ t ∈ readsOf ops p,o.dst≠some t:=by
  intro t ht e
  rw [e] at q1;simp only [Bool.not_eq_true'] at q1
  rw [memN_iff.2 ht] at q1;cases q1
 have d2:∀ t ∈ readsOf ops o,p.dst≠some t:=by
  intro t ht e
  rw [e] at q2;simp only [Bool.not_eq_true'] at q2
  rw [memN_iff.2 ht] at q2;cases q2
 have d3:∀ t,o.dst=some t→p.dst≠some t:=by
  intro t e1 e2
  rw [e1,e2] at q3;simp at q3
 have cE:∀ t ∈ readsOf ops p,E.res o.dst r t=E t:=fun t ht=>(res_other (L:=L) (d1 t ht)).1
 have cL:∀ t ∈ readsOf ops p,L.res o.dst r t=L t:=fun t ht=>(res_other (E:=E) (d1 t ht)).2
 have cE':∀ t ∈ readsOf ops o,E.res p.dst u t=E t:=fun t ht=>(res_other (L:=L) (d2 t ht)).1
 have cL':∀ t ∈ readsOf ops o,L.res p.dst u t=L t:=fun t ht=>(res_other (E:=E) (d2 t ht)).2
 rw [act_congr cE cL] at haj
 obtain⟨h3,g1,g2,g3,g4,g5,g6⟩:=core HM HB hij hsw hkk hsi (fun hw=>(stOK_congr cE).1 (hsj (by rw [want_congr cE];exact hw))) hck hri hai hci haj hcj
 refine⟨(E.res p.dst u,L.res p.dst u,h3),⟨p,u,hp,hWj,?_,g1,rfl,rfl,g3,g5⟩,⟨o,r,ho,hWi,?_,?_,?_,?_,g4,fun hw=>(stOK_congr cE').2 (g6 (by rw [← want_congr cE'];exact hw))⟩⟩
 ·intro hw
  rw [← readAt_congr cE];exact hrj (by rw [want_congr cE];exact hw)
 ·intro hw
  rw [readAt_congr cE'];exact hri (by rw [← want_congr cE'];exact hw)
 ·simp only;rw [act_congr cE' cL'];exact g2
 ·exact (res_comm (L:=L) d3).1
 ·exact (res_comm (E:=E) d3).2
end Swap
theorem bindsAny_eq (e:Edge):bindsAny e=Region.binds .any e:=by
 unfold bindsAny Region.binds;split <;> simp_all
theorem preds_spec {ops:Array Oper}{σ:List Nat}(hn:σ.Nodup)(hr:∀ i o e,ops[i]?=some o→e ∈ o.after.toList→bindsAny e=true→Bef σ e.on i) :
  ∀ (rest:List Oper) (acc:List (List Nat)),(∀ n o,rest[n]?=some o→ops[acc.length+n]?=some o)→(∀ j i,i ∈ acc.getD j []→Bef σ i j) →
   ∀ j i,i ∈ (rest.foldl (fun acc o=>acc++[(o.after.toList.filter bindsAny).flatMap fun e=>e.on::acc.getD e.on []]) acc).getD j []→Bef σ i j
 | [],acc,_,ha,j,i,hi=>ha j i hi
 | o::rest,acc,hs,ha,j,i,hi=>by
  refine preds_spec hn hr rest _ ?_ ?_ j i hi
  ·intro n o' ho'
   have:=hs (n+1) o' (by simpa using ho')
   rw [List.length_append,List.length_singleton,show acc.length+1+n=acc.length+(n+1) by omega];exact this
  ·intro j i hi
   have ho:=hs 0 o rfl
   simp only [Nat.add_zero] at ho
   rcases Nat.lt_trichotomy j acc.length with hj | hj | hj
   ·refine ha j i ?_
    simpa [List.getD_eq_getElem?_getD,List.getElem?_append,hj] using hi
   ·subst hj
    simp only [List.getD_eq_getElem?_getD,List.getElem?_append,Nat.lt_irrefl,if_false,Nat.sub_self,List.getElem?_cons_zero,Option.getD_some,List.mem_flatMap,List.mem_filter] at hi
    obtain⟨e,⟨he,hb⟩,hi⟩:=hi
    have h1:=hr _ o e ho he hb
    rcases List.mem_cons.1 hi with rfl | hi
    ·exact h1
    ·exact bef_trans hn (ha e.on i (by rw [List.getD_eq_getElem?_getD];exact hi)) h1
   ·have:(acc++[(o.after.toList.filter bindsAny).flatMap fun e=>e.on::acc.getD e.on []])[j]?=none:=by
     rw [List.getElem?_eq_none_iff];simp;omega
    rw [List.getD_eq_getElem?_getD,this] at hi;cases hi
theorem pairs_spec {mo:FuncId→Bool}{ops:Array Oper}{pr:List (List Nat)}:∀ {l:List (Nat×List Nat)},pairsOK P mo ops pr l=true→∀ i j,Bef (l.map (·.1)) i j →
  ∃ cj,(j,cj) ∈ l∧(i ∈ pr.getD j []∨∃ o p,ops[i]?=some o∧ops[j]?=some p∧swaps P mo ops o p (memN cj i)=true)
 | [],_,_,_,hb=>by cases hb
 | (a,c)::l,hp,i,j,hb=>by
  unfold pairsOK at hp
  rw [Bool.and_eq_true,List.all_eq_true] at hp
  obtain⟨h1,h2⟩:=hp
  cases hb with
  | cons _ hb =>
   obtain⟨cj,h3,h4⟩:=pairs_spec h2 i j hb
   exact⟨cj,List.mem_cons_of_mem _ h3,h4⟩
  | cons_cons _ hb =>
   have:j ∈ l.map (·.1):=hb.subset (by simp)
   obtain⟨⟨j',cj⟩,hm,e⟩:=List.mem_map.1 this
   simp only at e;subst e
   refine⟨cj,List.mem_cons_of_mem _ hm,?_⟩
   have h3:=h1 _ hm
   simp only [Bool.or_eq_true] at h3
   rcases h3 with h3 | h3
   ·exact .inl (memN_iff.1 h3)
   ·split at h3
    ·rename_i o p e1 e2;exact .inr ⟨o,p,e1,e2,h3⟩
    ·cases h3
theorem denOps_any {R:Type}{C:Ctab}{W:Wr}{nb:Nat}{ops:Array Oper}{l:List (Nat×List Nat)}{E:Env}{K:Env→M R}{h:AHeap}{r:R×AHeap}(HM:∀ f vs ca,C.mo f=true→C.st f vs=some ca→Anti ca.m)
  (HB:∀ (j:Nat) cs (i:Nat) o p f,(j,cs) ∈ l→i ∈ cs→ops[i]?=some o→isAlc (cls P ops o)=true→ops[j]?=some p→sCall p=some f→∀ vs ca,C.st f vs=some ca→AntiB (nb+i) ca.m) (hok:drawOK P C.mo ops l=true) (t:Nat)
  (hx:denOps P C W (some nb) ops l E LEnv.emp (fun _=>none) K h=some r) :
  denOps P C W (some nb) ops ((Region.schedule (P.follows .mixedOrders) ops t).map fun i=>(i,[])) E LEnv.emp (fun _=>none) K h=some r:=by
 unfold drawOK at hok
 simp only [Bool.and_eq_true] at hok
 obtain⟨⟨⟨hmx,hpm⟩,hed⟩,hpr⟩:=hok
 rw [Region.schedule,hmx,Bool.true_or,if_pos rfl]
 have hpm:=List.isPerm_iff.1 hpm
 have hlt:∀ i o e,ops[i]?=some o→e ∈ o.after.toList→Region.binds .any e=true→e.on<i:=by
  intro i o e ho he hb
  rw [List.all_eq_true] at hed
  have h1:=hed (o,i) (by
   rw [List.mem_zipIdx_iff_getElem?];simpa using ho)
  simp only [List.all_eq_true] at h1
  have h2:=h1 e he
  rw [bindsAny_eq,hb] at h2
  have h3:Nat.blt e.on i=true:=by simpa using h2
  exact Nat.le_of_ble_eq_true h3
 obtain⟨s1,s2,s3⟩:=linearise_spec hlt t
 generalize Region.linearise .any ops t=σ at s1 s2 s3
 have hnd:(l.map (·.1)).Nodup:=(hpm.nodup_iff).2 List.nodup_range
 obtain⟨Af,Ck,Kk,E',L',h',hrun,hK,hks⟩:=denOps_fwd l E LEnv.emp (fun _=>none) h hnd hx
 have hp:=preds_spec (ops:=ops) s1 (fun i o e a b c=>s3 i o e a b (by rw [← bindsAny_eq];exact c)) ops.toList [] (by simp) (by simp)
 have hany:=Run.any σ (l.map (·.1)) (hpm.trans s2.symm) (fun i j hij hji s s1' s2' q1 q2=>by
  obtain⟨cj,hm,hc⟩:=pairs_spec hpr i j hij
  rcases hc with hc | ⟨o,p,ho,hp',hsw⟩
  ·exact absurd hji fun hji=>bef_asymm s1 (hp j i hc) hji
  ·refine swap_ok HM (fun hck hal f hf=>HB j cj i o p f hm (memN_iff.1 hck) ho hal hp' hf) ho hp' ?_ hsw ?_ ?_ q1 q2
   ·rintro rfl
    exact bef_asymm hnd hij hij
   ·intro hck
    exact (hks j cj hm i (memN_iff.1 hck)).1 hij
   ·intro hck hal
    have hmem:=memN_iff.1 hck
    rw [(hks j cj hm i hmem).2.2]
    unfold ksOf
    refine List.mem_map.2 ⟨i,List.mem_filter.2 ⟨hmem,?_⟩,rfl⟩
    rw [ho];exact hal) hrun
 exact denOps_bwd σ _ (E,LEnv.emp,h) (E',L',h') hany hK
end Go.Ago
