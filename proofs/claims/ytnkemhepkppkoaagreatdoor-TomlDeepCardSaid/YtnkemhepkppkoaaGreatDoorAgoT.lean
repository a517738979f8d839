/-
A region that draws its order: any order that its edges allow gives the same. No theorem about the program stands here.
-/
import Derived.Test.YtnkemhepkppkoaaGreatDoorAgoF
set_option linter.all false
namespace Go.Ago
open Go
variable {P : Program} {h h' h1 : AHeap}

/-! A trace whose steps may change places. -/
section Trace
variable {S : Type}
inductive Run (Step : Nat → S → S → Prop) : List Nat → S → S → Prop where
  | nil (s : S) : Run Step [] s s
  | cons {i : Nat} {l : List Nat} {s s1 s2 : S} : Step i s s1 → Run Step l s1 s2 → Run Step (i :: l) s s2
theorem Run.mono {St St' : Nat → S → S → Prop} : ∀ {l : List Nat} {s f : S}, (∀ i ∈ l, ∀ s s', St i s s' → St' i s s') → Run St l s f → Run St' l s f
  | [], _, _, _, .nil _ => .nil _
  | _ :: _, _, _, hc, .cons h1 h2 => .cons (hc _ (List.mem_cons_self ..) _ _ h1) (Run.mono (fun i hi => hc i (List.mem_cons_of_mem _ hi)) h2)
/-- 'i' stands somewhere before 'j'. -/
abbrev Bef (l : List Nat) (i j : Nat) : Prop := [i, j].Sublist l
theorem Run.front {Step : Nat → S → S → Prop} {x : Nat} : ∀ (t1 : List Nat) {t2 : List Nat} {s f : S}, (∀ y ∈ t1, ∀ s s1 s2, Step y s s1 → Step x s1 s2 → ∃ s1', Step x s s1' ∧ Step y s1' s2) →
    Run Step (t1 ++ x :: t2) s f → Run Step (x :: (t1 ++ t2)) s f
  | [], t2, s, f, _, hr => hr
  | y :: t1, t2, s, f, hc, hr => by
    cases hr with
    | cons h1 h2 =>
      have ih := Run.front t1 (fun z hz => hc z (List.mem_cons_of_mem _ hz)) h2
      cases ih with
      | cons h3 h4 =>
        obtain ⟨s1', q1, q2⟩ := hc y (List.mem_cons_self ..) _ _ _ h1 h3
        exact .cons q1 (.cons q2 h4)
theorem Run.any {Step : Nat → S → S → Prop} : ∀ (σ τ : List Nat) {s f : S}, τ.Perm σ →
    (∀ i j, Bef τ i j → Bef σ j i → ∀ s s1 s2, Step i s s1 → Step j s1 s2 → ∃ s1', Step j s s1' ∧ Step i s1' s2) → Run Step τ s f → Run Step σ s f
  | [], τ, s, f, hp, _, hr => by
    have := hp.eq_nil; subst this; exact hr
  | x :: σ, τ, s, f, hp, hc, hr => by
    have hx : x ∈ τ := hp.symm.subset (List.mem_cons_self ..)
    obtain ⟨t1, t2, rfl⟩ := List.append_of_mem hx
    have hp' : (t1 ++ t2).Perm σ := by
      have h1 : (x :: (t1 ++ t2)).Perm (x :: σ) := (List.perm_middle.symm).trans hp
      exact h1.cons_inv
    have hf := Run.front t1 (fun y hy => ?_) hr
    · cases hf with
      | cons h1 h2 =>
        refine .cons h1 (Run.any σ (t1 ++ t2) hp' (fun i j hij hji => hc i j ?_ ?_) h2)
        · grind
        · exact hji.trans (List.sublist_cons_self ..)
    grind
end Trace
theorem bef_asymm : ∀ {l : List Nat} {i j : Nat}, l.Nodup → Bef l i j → Bef l j i → False
  | [], _, _, _, h, _ => by cases h
  | x :: l, i, j, hn, h1, h2 => by
    obtain ⟨hx, hn⟩ := List.nodup_cons.1 hn
    cases h1 with
    | cons _ h1 =>
      cases h2 with
      | cons _ h2 => exact bef_asymm hn h1 h2
      | cons_cons _ h2 => exact hx (h1.subset (by simp))
    | cons_cons _ h1 =>
      grind
theorem bef_trans : ∀ {l : List Nat} {i j k : Nat}, l.Nodup → Bef l i j → Bef l j k → Bef l i k
  | [], _, _, _, _, h, _ => by cases h
  | x :: l, i, j, k, hn, h1, h2 => by
    obtain ⟨hx, hn⟩ := List.nodup_cons.1 hn
    cases h1 with
    | cons _ h1 =>
      cases h2 with
      | cons _ h2 => exact .cons _ (bef_trans hn h1 h2)
      | cons_cons _ h2 => exact absurd (h1.subset (by simp)) hx
    | cons_cons _ h1 =>
      grind

/-! The orders that may be drawn. -/
theorem len_le : ∀ {l1 l2 : List Nat}, l1.Nodup → (∀ i ∈ l1, i ∈ l2) → l1.length ≤ l2.length
  | [], _, _, _ => Nat.zero_le _
  | x :: l, l2, hn, hs => by
    obtain ⟨hx, hn⟩ := List.nodup_cons.1 hn
    have h1 := len_le (l2 := l2.erase x) hn fun i hi => (List.mem_erase_of_ne (fun e => hx (by subst e; exact hi))).2 (hs i (List.mem_cons_of_mem _ hi))
    grind
section Orders
variable {ops : Array Oper}
theorem go_spec (hlt : ∀ i o e, ops[i]? = some o → e ∈ o.after.toList → Region.binds .any e = true → e.on < i) :
    ∀ (fuel t : Nat) (listed : Array Bool) (acc : List Nat), fuel + acc.length = ops.size → listed.size = ops.size → acc.Nodup →
      (∀ i, i < ops.size → (listed.getD i true = true ↔ i ∈ acc)) → (∀ i ∈ acc, i < ops.size) →
      (∀ i o e, ops[i]? = some o → i ∈ acc → e ∈ o.after.toList → Region.binds .any e = true → Bef acc.reverse e.on i) →
      ∃ l, Region.linearise.go .any ops fuel t listed acc = l ∧ l.length = ops.size ∧ l.Nodup ∧ (∀ i ∈ l, i < ops.size) ∧
        (∀ i o e, ops[i]? = some o → i ∈ l → e ∈ o.after.toList → Region.binds .any e = true → Bef l e.on i)
  | 0, t, listed, acc, hl, hs, hn, hm, hb, hr => ⟨acc.reverse, rfl, by simp; omega, by simpa [List.Nodup, List.pairwise_reverse, ne_comm] using hn, by simpa using hb, fun i o e h1 h2 h3 h4 => hr i o e h1 (by simpa using h2) h3 h4⟩
  | fuel + 1, t, listed, acc, hl, hs, hn, hm, hb, hr => by
    unfold Region.linearise.go
    generalize hrs : ((List.range ops.size).filter fun i => !listed.getD i true && ((ops[i]?).map (·.after.all fun e => !Region.binds .any e || listed.getD e.on false)).getD false) = rs
    have hmem : ∀ i, i ∈ rs ↔ i < ops.size ∧ i ∉ acc ∧ ∃ o, ops[i]? = some o ∧ ∀ e ∈ o.after.toList, Region.binds .any e = true → e.on ∈ acc := by
      intro i
      subst hrs
      rw [List.mem_filter, List.mem_range]
      refine and_congr_right fun hi => ?_
      have ho : ops[i]? = some ops[i] := by simp [hi]
      rw [ho]
      have h1 : (!listed.getD i true) = true ↔ i ∉ acc := by
        rw [← hm i hi]; cases listed.getD i true <;> simp
      rw [Bool.and_eq_true, h1]
      refine and_congr_right fun _ => ?_
      simp only [Option.map_some, Option.getD_some, Option.some.injEq, exists_eq_left', Array.all_eq_true', Bool.or_eq_true, Bool.not_eq_true', Array.mem_toList_iff]
      grind
    have hne : rs ≠ [] := by
      -- the least that is not listed is ready
      have hex : ∃ i, i < ops.size ∧ i ∉ acc := by
        by_cases hc : ∃ i, i < ops.size ∧ i ∉ acc
        · exact hc
        · exfalso
          have := len_le List.nodup_range (l2 := acc) fun i hi => by
            by_cases hia : i ∈ acc
            · exact hia
            · exact absurd ⟨i, List.mem_range.1 hi, hia⟩ hc
          simp at this; omega
      obtain ⟨i, hi⟩ := hex
      have hmin : ∀ n i, i ≤ n → i < ops.size ∧ i ∉ acc → ∃ k, k < ops.size ∧ k ∉ acc ∧ ∀ m, m < k → m ∈ acc := by
        intro n
        induction n with
        | zero =>
          grind
        | succ n ih =>
          intro i h0 hi
          by_cases hc : ∃ m, m ≤ n ∧ m < i ∧ m ∉ acc
          · obtain ⟨m, h1, h2, h3⟩ := hc; exact ih m h1 ⟨by omega, h3⟩
          grind
      obtain ⟨k, h1, h2, h3⟩ := hmin i i (Nat.le_refl _) hi
      have : k ∈ rs := (hmem k).2 ⟨h1, h2, ops[k], by simp [h1], fun e he hbd => h3 _ (hlt k _ e (by simp [h1]) he hbd)⟩
      intro e; rw [e] at this; cases this
    have hlen : 0 < rs.length := List.length_pos_iff.2 hne
    have hget : rs[t % rs.length]? = some (rs[t % rs.length]'(Nat.mod_lt _ hlen)) := List.getElem?_eq_getElem _
    simp only [hget]
    have hi := (hmem _).1 (List.getElem_mem (Nat.mod_lt t hlen))
    generalize rs[t % rs.length]'(Nat.mod_lt _ hlen) = i at hi
    obtain ⟨h1, h2, o, ho, h3⟩ := hi
    refine go_spec hlt fuel _ _ (i :: acc) (by simp; omega) (by simp [hs]) (List.nodup_cons.2 ⟨h2, hn⟩) (fun j hj => ?_) (fun j hj => ?_) (fun j o' e hj hjm he hbd => ?_)
    · by_cases hij : i = j
      · subst hij; simp [Array.getD_eq_getD_getElem?, Array.getElem?_setIfInBounds, hs, hj]
      · rw [List.mem_cons]
        have : (listed.setIfInBounds i true).getD j true = listed.getD j true := by
          simp [Array.getD_eq_getD_getElem?, Array.getElem?_setIfInBounds, hij]
        grind
    · grind
    · rw [List.reverse_cons]
      grind
theorem linearise_spec (hlt : ∀ i o e, ops[i]? = some o → e ∈ o.after.toList → Region.binds .any e = true → e.on < i) (t : Nat) :
    (Region.linearise .any ops t).Nodup ∧ (Region.linearise .any ops t).Perm (List.range ops.size) ∧
      (∀ i o e, ops[i]? = some o → e ∈ o.after.toList → Region.binds .any e = true → Bef (Region.linearise .any ops t) e.on i) := by
  obtain ⟨l, e, hl, hn, hb, hr⟩ := go_spec hlt ops.size t (Array.replicate ops.size false) [] (by simp) (by simp) List.nodup_nil
    (fun i hi => by simp [Array.getD_eq_getD_getElem?, hi]) (by simp) (by simp)
  rw [Region.linearise, e]
  have hp : l.Perm (List.range ops.size) := (List.perm_ext_iff_of_nodup hn List.nodup_range).2 fun i => ⟨fun hi => List.mem_range.2 (hb i hi), fun hi => by
    by_cases hc : i ∈ l
    · exact hc
    · have := len_le (List.nodup_cons.2 ⟨hc, hn⟩) (l2 := List.range ops.size) fun j hj => by
        grind
      simp at this; omega⟩
  grind
end Orders

/-! One operation as a step. -/
inductive Res where
  | val (v : Value)
  | lit (x : Nat × List Value)
def Env.res (E : Env) (d : Option Nat) : Res → Env
  | .val v => E.put d v
  | .lit _ => E.del d
def LEnv.res (L : LEnv) (d : Option Nat) : Res → LEnv
  | .val _ => L.del d
  | .lit x => L.put d x
def mapV (m : Option (Value × AHeap)) : Option (Res × AHeap) := match m with
  | some (v, h) => some (.val v, h)
  | none => none
def ex (P : Program) (C : Ctab) (nm : Nat) (ops : Array Oper) (E : Env) (L : LEnv) (o : Oper) : M Res := fun h =>
  match o.op with
  | .pick c a b => (match E.ev c with
    | some (.bool true) => (match E.ev a with | some v => some (.val v, h) | none => none)
    | some (.bool false) => (match E.ev b with | some v => some (.val v, h) | none => none)
    | _ => none)
  | .call c => (match isBuiltin c with
    | true => (match litArg L c with
      | some (n, cs) => mapV ((capW (capA ops o) E c (appLit P (!laxA ops o) E c n cs)).exec h)
      | none => (match laxA ops o with
        | true => none
        | false => mapV ((capW (capA ops o) E c (aop P (some nm) E o)).exec h)))
    | false => (match dySlot C c with
      | some t => (match calleeD E t c with
        | some (x, vs) => (match C.dy t x vs with
          | some ca => (match ca.m h with | some (x, h') => some (.val (ca.pk x), h') | none => none)
          | none => none)
        | none => none)
      | none => (match callee E c with
        | some (f, vs) => (match C.st f vs with
          | some ca => (match ca.m h with | some (x, h') => some (.val (ca.pk x), h') | none => none)
          | none => none)
        | none => none)))
  | .buildSlice _ _ _ => (match litOf P ops E o with
    | some x => some (.lit x, h)
    | none => mapV ((aop P (some nm) E o).exec h))
  | _ => mapV ((aop P (some nm) E o).exec h)
def want (ops : Array Oper) (E : Env) (o : Oper) : Option Bool :=
  match o.guard with
  | none => some true
  | some (j, w) => (match (ops[j]?).bind (·.dst) with
    | some t => (match E t with
      | some (.bool b) => some (b == w)
      | some (.tuple _) => some false
      | _ => none)
    | none => none)
def act (P : Program) (C : Ctab) (nm : Nat) (ops : Array Oper) (E : Env) (L : LEnv) (o : Oper) : M Res := fun h =>
  match want ops E o with
  | some true => ex P C nm ops E L o h
  | some false => some (.val undef, h)
  | none => none
abbrev St := Env × LEnv × AHeap
/-- The place that a store writes. -/
def stA (E : Env) (o : Oper) : Option Addr :=
  match o.op with
  | .store _ x _ => (match E.ev x with | some (.pointer p) => p | _ => none)
  | _ => none
def stOK (E : Env) (o : Oper) (h : AHeap) (ks : List Nat) : Prop := isSt o = true → ks ≠ [] → ∃ a, stA E o = some a ∧ okK h a ks = true
def Step (P : Program) (C : Ctab) (W : Wr) (nb : Nat) (ops : Array Oper) (Af : Nat → Option Addr) (Ck : Nat → List (Option Addr)) (Kk : Nat → List Nat) (i : Nat) (s s' : St) : Prop :=
  ∃ o r, ops[i]? = some o ∧ inW W o.dst = true ∧ (want ops s.1 o = some true → readAt s.1 o = Af i) ∧ act P C (nb + i) ops s.1 s.2.1 o s.2.2 = some (r, s'.2.2) ∧
    s'.1 = s.1.res o.dst r ∧ s'.2.1 = s.2.1.res o.dst r ∧ (ckOp ops o = true → sameAt s.2.2 s'.2.2 (Ck i) = true) ∧ (want ops s.1 o = some true → stOK s.1 o s.2.2 (Kk i))

theorem SameC.of {h h' : AHeap} {b : Addr} (e : h'.get b.block = h.get b.block) : SameC h h' b := by
  unfold SameC
  rw [e]
  split
  · rename_i h1 h2; rw [h1] at h2; cases h2; exact ⟨rfl, rfl, rfl, rfl, rfl⟩
  · rfl
theorem SameC.cast {h h' g g' : AHeap} {b : Addr} (hs : SameC h h' b) (e : g.get b.block = h.get b.block) (e' : g'.get b.block = h'.get b.block) : SameC g g' b := by
  unfold SameC at *
  rw [e, e']; exact hs
theorem sameAt_refl (h : AHeap) : ∀ l, sameAt h h l = true
  | [] => rfl
  | none :: r => sameAt_refl h r
  | some b :: r => by
    unfold sameAt; split
    · exact sameAt_refl h r
    · rename_i q _; exact absurd (SameC.of rfl) q
theorem sameAt_mem {h h' : AHeap} : ∀ {l : List (Option Addr)} {a : Addr}, sameAt h h' l = true → some a ∈ l → SameC h h' a
  | [], _, _, hm => by cases hm
  | none :: r, a, hs, hm => by
    rcases List.mem_cons.1 hm with q | q
    · cases q
    · exact sameAt_mem (l := r) hs q
  | some b :: r, a, hs, hm => by
    unfold sameAt at hs; split at hs
    · rename_i q _
      rcases List.mem_cons.1 hm with e | e
      · cases e; exact q
      · exact sameAt_mem (l := r) hs e
    · cases hs
theorem set_same {E : Env} {t : Nat} {v : Value} (h : E t = some v) : E.set t v = E := by
  funext j; unfold Env.set
  cases hj : Nat.beq j t
  · rfl
  · have := Nat.eq_of_beq_eq_true hj; subst this; exact h.symm
theorem learn_same {E : Env} {c : Operand} {b : Bool} (h : E.ev c = some (.bool b)) : E.learn c b = E := by
  unfold Env.learn; split
  · exact set_same h
  · rfl
theorem run_some {R : Type} {r : R × AHeap} {K : Value → M R} : ∀ {A : Act} {h : AHeap}, A.run K h = some r ↔ ∃ v h', A.exec h = some (v, h') ∧ K v h' = some r
  | .val v, h => by
    simp only [Act.run, Act.exec, Option.some.injEq, Prod.mk.injEq]
    grind
  | .none, h => by simp [Act.run, Act.exec, M.fail]
  | .ask α m k, h => by
    simp only [Act.run, Act.exec, M.bind]
    cases hm : m h with
    | none => simp
    | some x => exact run_some (A := k x.1) (h := x.2)
theorem chk_some {α : Type} {as : List (Option Addr)} {m : M α} {h : AHeap} {x : α × AHeap} (hx : chk as m h = some x) : m h = some x ∧ sameAt h x.2 as = true := by
  grind [chk]
theorem wrapM_some {α : Type} {as : List (Option Addr)} {m : M α} {h : AHeap} {x : α × AHeap} (hx : wrapM as m h = some x) : m h = some x ∧ sameAt h x.2 as = true := by
  unfold wrapM at hx; split at hx
  · exact ⟨hx, rfl⟩
  · exact chk_some hx
theorem wrapA_some {as : List (Option Addr)} {A : Act} {h : AHeap} {x : Value × AHeap} (hx : (wrapA as A).exec h = some x) :
    A.exec h = some x ∧ (∀ α m (v : α → Value), A = .ask α m (fun y => .val (v y)) → sameAt h x.2 as = true) := by
  unfold wrapA at hx
  split at hx
  · split at hx
    · exact ⟨hx, fun _ _ _ _ => rfl⟩
    · simp only [Act.exec] at hx ⊢
      split at hx
      · rename_i m k _ _ _ y h2 hc
        obtain ⟨h1, h2⟩ := chk_some hc
        rw [h1]
        refine ⟨hx, fun α' m' v e => ?_⟩
        cases e
        simp only [Act.exec] at hx
        cases hx; exact h2
      · cases hx
  grind

theorem addCls_sil {b : Bool} (h : addCls b = .sil) : False := by cases b <;> cases h
theorem addCls_ro {b : Bool} (h : addCls b = .ro) : False := by cases b <;> cases h
theorem addCls_mro {b : Bool} (h : addCls b = .mro) : False := by cases b <;> cases h
theorem addCls_alloc {b : Bool} (h : addCls b = .alloc) : False := by cases b <;> cases h
theorem addCls_mka {b : Bool} (h : addCls b = .mka) : False := by cases b <;> cases h
theorem addCls_add {b : Bool} (h : addCls b = .add) : b = false := by cases b <;> first | rfl | cases h
theorem mapV_capA {h : AHeap} {b : Bool} {E : Env} {c : Call} {A : Act} {r : Res × AHeap} (e : mapV ((capW b E c A).exec h) = some r) : capW b E c A = A := by
  cases q : (capW b E c A).exec h with
  | none => rw [q] at e; cases e
  | some v => exact capW_exec q
theorem appLit_form {E : Env} {c : Call} {n : Nat} {cs : List Value} (b : Bool) : (∃ α m, ∃ v : α → Value, appLit P b E c n cs = .ask α m (fun y => .val (v y))) ∨ appLit P b E c n cs = .none := by
  unfold appLit
  repeat' (first | exact .inr rfl | exact .inl ⟨_, _, _, rfl⟩ | split)
theorem denOp_fwd {R : Type} {C : Ctab} {W : Wr} {nm : Nat} {cks : List (Option Addr)} {ks : List Nat} {ops : Array Oper} {E : Env} {L : LEnv} {o : Oper} {K : Env → LEnv → M R} {h : AHeap} {q : R × AHeap}
    (hx : denOp P C W (some nm) cks ks ops E L o K h = some q) : inW W o.dst = true ∧ ∃ r h', ex P C nm ops E L o h = some (r, h') ∧
      (ckOp ops o = true → sameAt h h' cks = true) ∧ stOK E o h ks ∧ K (E.res o.dst r) (L.res o.dst r) h' = some q := by
  have gen : ∀ A : Act, (wrapA cks A).run (fun v => K (E.put o.dst v) (L.del o.dst)) h = some q → ∃ r h', mapV (A.exec h) = some (r, h') ∧
      ((∃ α m, ∃ v : α → Value, A = .ask α m (fun y => .val (v y))) → sameAt h h' cks = true) ∧ K (E.res o.dst r) (L.res o.dst r) h' = some q := by
    intro A hA
    obtain ⟨v, h', h1, h2⟩ := run_some.1 hA
    obtain ⟨h3, h4⟩ := wrapA_some h1
    exact ⟨.val v, h', by rw [h3]; rfl, fun ⟨α, m, v, e⟩ => h4 α m v e, h2⟩
  generalize hm : denOp P C W (some nm) cks ks ops E L o K = m at hx
  unfold denOp at hm
  cases hW : inW W o.dst
  · rw [hW] at hm; subst hm; simp [M.fail] at hx
  rw [hW] at hm
  refine ⟨rfl, ?_⟩
  have noSt : isSt o = false → stOK E o h ks := fun hs e => by rw [hs] at e; cases e
  unfold ex ckOp
  cases hop : o.op <;> simp only [hop] at hm ⊢
  case pick c a b =>
    split at hm
    · rename_i t ht
      cases t
      · simp only [iteB, Bool.false_eq_true, if_false, learn_same ht] at hm
        split at hm
        · rename_i v hv
          subst hm
          exact ⟨.val v, h, by simp [ht, hv], by simp, noSt (by simp [isSt, hop]), hx⟩
        · subst hm; simp [M.fail] at hx
      · simp only [iteB, if_true, learn_same ht] at hm
        split at hm
        · rename_i v hv
          subst hm
          exact ⟨.val v, h, by simp [ht, hv], by simp, noSt (by simp [isSt, hop]), hx⟩
        · subst hm; simp [M.fail] at hx
    · subst hm; simp [M.fail] at hx
  case call c =>
    cases hb : isBuiltin c <;> simp only [hb] at hm ⊢
    · split at hm
      · rename_i t hds
        split at hm
        · rename_i xv vs hcl
          split at hm
          · rename_i ca hca
            subst hm
            simp only [M.bind] at hx
            split at hx
            · rename_i x h' hm
              obtain ⟨h3, h4⟩ := wrapM_some hm
              exact ⟨.val (ca.pk x), h', by simp [hds, hcl, hca, h3], fun _ => h4, noSt (by simp [isSt, hop]), hx⟩
            · cases hx
          · subst hm; simp [M.fail] at hx
        · subst hm; simp [M.fail] at hx
      · rename_i hds
        split at hm
        · rename_i f vs hcl
          split at hm
          · rename_i ca hca
            subst hm
            simp only [M.bind] at hx
            split at hx
            · rename_i x h' hm
              obtain ⟨h3, h4⟩ := wrapM_some hm
              exact ⟨.val (ca.pk x), h', by simp [hds, hcl, hca, h3], fun _ => h4, noSt (by simp [isSt, hop]), hx⟩
            · cases hx
          · subst hm; simp [M.fail] at hx
        · subst hm; simp [M.fail] at hx
    · split at hm
      · rename_i n cs hl
        subst hm
        rw [byB_eq] at hx
        obtain ⟨r, h', h1, h2, h3⟩ := gen _ hx
        refine ⟨r, h', by simpa [hl] using h1, fun _ => h2 ?_, noSt (by simp [isSt, hop]), h3⟩
        rcases appLit_form (P := P) (E := E) (c := c) (n := n) (cs := cs) ((some nm).isSome && !laxA ops o) with h4 | h4
        · rw [mapV_capA h1]; exact h4
        · rw [mapV_capA h1, h4] at h1; simp [Act.exec, mapV] at h1
      · rename_i hl
        cases hlx : laxA ops o <;> rw [hlx] at hm
        · subst hm
          grind [isSt]
        · subst hm; simp [M.fail] at hx
  case buildSlice t l ps =>
    split at hm
    · rename_i x hl
      subst hm
      exact ⟨.lit x, h, by simp [hl], by simp, noSt (by simp [isSt, hop]), hx⟩
    · rename_i hl
      subst hm
      grind [isSt]
  case store t x y =>
    have fin : (wrapA cks (aop P (some nm) E o)).run (fun v => K (E.put o.dst v) (L.del o.dst)) h = some q → stOK E o h ks → ∃ r h', mapV ((aop P (some nm) E o).exec h) = some (r, h') ∧
        (True → sameAt h h' cks = true) ∧ stOK E o h ks ∧ K (E.res o.dst r) (L.res o.dst r) h' = some q := by
      intro hx hs
      obtain ⟨r, h', h1, h2, h3⟩ := gen _ hx
      refine ⟨r, h', h1, fun _ => h2 ?_, hs, h3⟩
      unfold aop at h1 ⊢
      simp only [hop] at h1 ⊢
      split at h1
      · unfold addrK at h1 ⊢
        split at h1
        · simp only at h1
          split at h1
          · grind
          · simp [Act.exec, mapV] at h1
        · simp [Act.exec, mapV] at h1
      · simp [Act.exec, mapV] at h1
    split at hm
    · subst hm
      obtain ⟨r, h', h1, h2, h3, h4⟩ := fin hx (fun _ e => absurd rfl e)
      exact ⟨r, h', h1, fun _ => h2 trivial, h3, h4⟩
    · split at hm
      · rename_i a ha
        subst hm
        have hok : stOK E o h ks := by
          intro _ _
          refine ⟨a, by simp only [stA, hop, ha], ?_⟩
          cases hA : wrapA cks (aop P (some nm) E o) with
          | val v =>
            exfalso
            have h1 : ∀ v, aop P (some nm) E o ≠ .val v := by
              intro v e
              unfold aop at e
              simp only [hop] at e
              grind [addrK]
            cases hB : aop P (some nm) E o with
            | val v' => exact h1 v' hB
            | none => rw [hB] at hA; simp [wrapA] at hA
            | ask α m k => rw [hB] at hA; cases cks <;> simp [wrapA] at hA
          | none => rw [hA] at hx; simp [wrapK, Act.run, M.fail] at hx
          | ask α m k =>
            rw [hA] at hx
            simp only [wrapK, Act.run, M.bind] at hx
            grind [chkK_spec]
        obtain ⟨r, h', h1, h2, h3, h4⟩ := fin (wrapK_spec hx) hok
        exact ⟨r, h', h1, fun _ => h2 trivial, h3, h4⟩
      · subst hm; simp [M.fail] at hx
  all_goals
    subst hm
    obtain ⟨r, h', h1, _, h3⟩ := gen _ hx
    exact ⟨r, h', h1, by simp, noSt (by simp [isSt, hop]), h3⟩
theorem denOp_bwd {R : Type} {C : Ctab} {W : Wr} {nm : Nat} {ops : Array Oper} {E : Env} {L : LEnv} {o : Oper} {K : Env → LEnv → M R} {h h' : AHeap} {r : Res} {q : R × AHeap}
    (hW : inW W o.dst = true) (he : ex P C nm ops E L o h = some (r, h')) (hx : K (E.res o.dst r) (L.res o.dst r) h' = some q) :
    denOp P C W (some nm) [] [] ops E L o K h = some q := by
  have gen : ∀ A : Act, mapV (A.exec h) = some (r, h') → (wrapA [] A).run (fun v => K (E.put o.dst v) (L.del o.dst)) h = some q := by
    intro A hA
    have : wrapA [] A = A := by cases A <;> rfl
    rw [this]
    unfold mapV at hA; split at hA
    · rename_i v h2 hv
      cases hA
      exact run_some.2 ⟨v, _, hv, hx⟩
    · cases hA
  unfold denOp
  rw [hW]
  unfold ex at he
  cases hop : o.op <;> simp only [hop] at he ⊢
  case pick c a b =>
    split at he
    · rename_i ht
      simp only [ht, iteB, if_true, learn_same ht]
      split at he
      · rename_i v hv; cases he; simp only [hv]; exact hx
      · cases he
    · rename_i ht
      simp only [ht, iteB, Bool.false_eq_true, if_false, learn_same ht]
      split at he
      · rename_i v hv; cases he; simp only [hv]; exact hx
      · cases he
    · cases he
  case call c =>
    cases hb : isBuiltin c <;> simp only [hb] at he ⊢
    · split at he
      · rename_i t hds
        simp only [hds]
        split at he
        · rename_i xv vs hcl
          simp only [hcl]
          split at he
          · rename_i ca hca
            split at he
            · rename_i x h2 hm
              cases he
              simp only [hca, M.bind, wrapM, hm]; exact hx
            · cases he
          · cases he
        · cases he
      · rename_i hds
        simp only [hds]
        split at he
        · rename_i f vs hcl
          simp only [hcl]
          split at he
          · rename_i ca hca
            split at he
            · rename_i x h2 hm
              cases he
              simp only [hca, M.bind, wrapM, hm]; exact hx
            · cases he
          · cases he
        · cases he
    · split at he
      · rename_i n cs hl; simp only [hl, byB_eq]; exact gen _ he
      · rename_i hl
        cases hlx : laxA ops o <;> simp only [hlx] at he ⊢
        · simp only [hl]; exact gen _ he
        · cases he
  case buildSlice t l ps =>
    split at he
    · rename_i x hl; cases he; simp only [hl]; exact hx
    · rename_i hl; simp only [hl]; exact gen _ he
  all_goals exact gen _ he

/-! From an order with its looks to a trace, and back. -/
section Traces
variable {R : Type} {C : Ctab} {W : Wr} {nb : Nat} {ops : Array Oper} {K : Env → M R} {q : R × AHeap}
theorem Step.congr {Af Af' : Nat → Option Addr} {Ck Ck' : Nat → List (Option Addr)} {Kk Kk' : Nat → List Nat} {i : Nat} {s s' : St} (h1 : Af i = Af' i) (h2 : Ck i = Ck' i) (h3 : Kk i = Kk' i)
    (hs : Step P C W nb ops Af Ck Kk i s s') : Step P C W nb ops Af' Ck' Kk' i s s' := by
  obtain ⟨o, r, a, b, c, d, e, f, g, k⟩ := hs
  exact ⟨o, r, a, b, fun w => h1 ▸ c w, d, e, f, fun w => h2 ▸ g w, fun w => h3 ▸ k w⟩
theorem denOps_fwd : ∀ (l : List (Nat × List Nat)) (E : Env) (L : LEnv) (A : AEnv) (h : AHeap), (l.map (·.1)).Nodup → denOps P C W (some nb) ops l E L A K h = some q →
    ∃ (Af : Nat → Option Addr) (Ck : Nat → List (Option Addr)) (Kk : Nat → List Nat) (E' : Env) (L' : LEnv) (h' : AHeap), Run (Step P C W nb ops Af Ck Kk) (l.map (·.1)) (E, L, h) (E', L', h') ∧ K E' h' = some q ∧
      ∀ j cs, (j, cs) ∈ l → ∀ k ∈ cs, (Bef (l.map (·.1)) k j → Af k ∈ Ck j) ∧ (k ∉ l.map (·.1) → A k ∈ Ck j) ∧ Kk j = ksOf P ops (some nb) cs
  | [], E, L, A, h, _, hx => ⟨fun _ => none, fun _ => [], fun _ => [], E, L, h, .nil _, hx, by simp⟩
  | (i, c0) :: rest, E, L, A, h, hn, hx => by
    rw [List.map_cons, List.nodup_cons] at hn
    obtain ⟨hni, hn⟩ := hn
    generalize hm : denOps P C W (some nb) ops ((i, c0) :: rest) E L A K = m at hx
    unfold denOps at hm
    -- the rest of the trace, and the step ahead of it
    have fin : ∀ (o : Oper) (r : Res) (A' : AEnv) (h2 : AHeap), ops[i]? = some o → inW W o.dst = true → (∀ k, k ≠ i → A' k = A k) → (want ops E o = some true → readAt E o = A' i) →
        act P C (nb + i) ops E L o h = some (r, h2) → (ckOp ops o = true → sameAt h h2 (c0.map A) = true) → (want ops E o = some true → stOK E o h (ksOf P ops (some nb) c0)) → denOps P C W (some nb) ops rest (E.res o.dst r) (L.res o.dst r) A' K h2 = some q →
        ∃ (Af : Nat → Option Addr) (Ck : Nat → List (Option Addr)) (Kk : Nat → List Nat) (E' : Env) (L' : LEnv) (h' : AHeap), Run (Step P C W nb ops Af Ck Kk) (i :: rest.map (·.1)) (E, L, h) (E', L', h') ∧ K E' h' = some q ∧
          ∀ j cs, (j, cs) ∈ (i, c0) :: rest → ∀ k ∈ cs, (Bef (i :: rest.map (·.1)) k j → Af k ∈ Ck j) ∧ (k ∉ i :: rest.map (·.1) → A k ∈ Ck j) ∧ Kk j = ksOf P ops (some nb) cs := by
      intro o r A' h2 ho hW hA hrd hact hck hst hx2
      obtain ⟨Af, Ck, Kk, E', L', h', hrun, hK, hks⟩ := denOps_fwd rest _ _ _ _ hn hx2
      refine ⟨fun k => if k = i then A' i else Af k, fun k => if k = i then c0.map A else Ck k, fun k => if k = i then ksOf P ops (some nb) c0 else Kk k, E', L', h', .cons ⟨o, r, ho, hW, ?_, hact, rfl, rfl, ?_, ?_⟩ (Run.mono (fun k hk s s' hs => hs.congr ?_ ?_ ?_) hrun), hK, ?_⟩
      · simpa using hrd
      · simpa using hck
      · simpa using hst
      rotate_left
      · rw [if_neg]; rintro rfl; exact hni hk
      · rw [if_neg]; rintro rfl; exact hni hk
      · rw [if_neg]; rintro rfl; exact hni hk
      · intro j cs hj k hk
        rcases List.mem_cons.1 hj with e | hj
        · grind
        · have hjm : j ∈ rest.map (·.1) := List.mem_map.2 ⟨(j, cs), hj, rfl⟩
          have hji : j ≠ i := by rintro rfl; exact hni hjm
          obtain ⟨h1, h2, h2b⟩ := hks j cs hj k hk
          simp only [if_neg hji]
          refine ⟨fun hb => ?_, fun hb => ?_, h2b⟩
          · cases hb with
            | cons _ hb =>
              grind
            | cons_cons _ hb => rw [if_pos rfl]; exact h2 hni
          grind
    split at hm
    · subst hm; simp [M.fail] at hx
    · rename_i o ho
      have run : want ops E o = some true → denOp P C W (some (nb + i)) (c0.map A) (ksOf P ops (some nb) c0) ops E L o (fun E' L' => denOps P C W (some nb) ops rest E' L' (fun j => cond (Nat.beq j i) (readAt E o) (A j)) K) h = some q →
          ∃ (Af : Nat → Option Addr) (Ck : Nat → List (Option Addr)) (Kk : Nat → List Nat) (E' : Env) (L' : LEnv) (h' : AHeap), Run (Step P C W nb ops Af Ck Kk) (i :: rest.map (·.1)) (E, L, h) (E', L', h') ∧ K E' h' = some q ∧
            ∀ j cs, (j, cs) ∈ (i, c0) :: rest → ∀ k ∈ cs, (Bef (i :: rest.map (·.1)) k j → Af k ∈ Ck j) ∧ (k ∉ i :: rest.map (·.1) → A k ∈ Ck j) ∧ Kk j = ksOf P ops (some nb) cs := by
        intro hw hx
        obtain ⟨hW, r, h2, he, hck, hst, hk⟩ := denOp_fwd hx
        refine fin o r _ h2 ho hW ?_ ?_ (by simp only [act, hw]; exact he) hck (fun _ => hst) hk
        · grind [absurd, Nat.eq_of_beq_eq_true]
        · intro _; simp
      have skip : want ops E o = some false → (match inW W o.dst with | true => denOps P C W (some nb) ops rest (E.put o.dst undef) (L.del o.dst) A K | false => M.fail) h = some q →
          ∃ (Af : Nat → Option Addr) (Ck : Nat → List (Option Addr)) (Kk : Nat → List Nat) (E' : Env) (L' : LEnv) (h' : AHeap), Run (Step P C W nb ops Af Ck Kk) (i :: rest.map (·.1)) (E, L, h) (E', L', h') ∧ K E' h' = some q ∧
            ∀ j cs, (j, cs) ∈ (i, c0) :: rest → ∀ k ∈ cs, (Bef (i :: rest.map (·.1)) k j → Af k ∈ Ck j) ∧ (k ∉ i :: rest.map (·.1) → A k ∈ Ck j) ∧ Kk j = ksOf P ops (some nb) cs := by
        intro hw hx
        cases hW : inW W o.dst <;> rw [hW] at hx
        · simp [M.fail] at hx
        · exact fin o (.val undef) A h ho hW (fun _ _ => rfl) (by rw [hw]; simp) (by simp only [act, hw]) (fun _ => sameAt_refl _ _) (fun hw2 => by rw [hw] at hw2; cases hw2) hx
      split at hm
      · rename_i hg
        subst hm
        exact run (by simp only [want, hg]) hx
      · rename_i j w hg
        split at hm
        · rename_i t ht
          split at hm
          · rename_i b hb
            have hwant : want ops E o = some (b == w) := by simp only [want, hg, ht, hb]
            cases w <;> cases b <;> simp only [iteB, Bool.false_eq_true, if_false, if_true, set_same hb] at hm <;> subst hm
            · exact run hwant hx
            · exact skip hwant hx
            · exact skip hwant hx
            · exact run hwant hx
          · rename_i vs hb
            subst hm
            exact skip (by simp only [want, hg, ht, hb]) hx
          · subst hm; simp [M.fail] at hx
        · subst hm; simp [M.fail] at hx
theorem denOps_bwd {Af : Nat → Option Addr} {Ck : Nat → List (Option Addr)} {Kk : Nat → List Nat} : ∀ (l : List Nat) (A : AEnv) (s f : St), Run (Step P C W nb ops Af Ck Kk) l s f → K f.1 f.2.2 = some q →
    denOps P C W (some nb) ops (l.map fun i => (i, [])) s.1 s.2.1 A K s.2.2 = some q
  | [], A, s, f, hr, hK => by cases hr; exact hK
  | i :: l, A, (E, L, h), f, .cons (s1 := (E1, L1, h1)) ⟨o, r, ho, hW, _, hact, e1, e2, _⟩ hr, hK => by
    simp only at e1 e2 hact
    subst e1; subst e2
    have ih := fun A => denOps_bwd l A _ _ hr hK
    simp only [List.map_cons] at ih ⊢
    unfold denOps
    simp only [ho]
    unfold act at hact
    unfold want at hact
    cases hg : o.guard with
    | none =>
      simp only [hg] at hact
      exact denOp_bwd hW hact (ih _)
    | some jw =>
      obtain ⟨j, w⟩ := jw
      simp only [hg] at hact ⊢
      cases ht : (ops[j]?).bind (·.dst) with
      | none => simp [ht] at hact
      | some t =>
        simp only [ht] at hact ⊢
        split at hact
        · rename_i hwt
          split at hwt
          · rename_i b hb
            simp only [hb]
            cases w <;> cases b <;> simp at hwt
            · simp only [iteB, Bool.false_eq_true, if_false, set_same hb]; exact denOp_bwd hW hact (ih _)
            · simp only [iteB, if_true, set_same hb]; exact denOp_bwd hW hact (ih _)
          · simp at hwt
          · cases hwt
        · rename_i hwt
          cases hact
          split at hwt
          · rename_i b hb
            simp only [hb]
            cases w <;> cases b <;> simp at hwt
            · simp only [iteB, if_true, set_same hb, hW]; exact ih _
            · simp only [iteB, Bool.false_eq_true, if_false, set_same hb, hW]; exact ih _
          · rename_i vs hb
            simp only [hb, hW]; exact ih _
          · cases hwt
        · cases hact
end Traces

/-! What an operation depends on. -/
section Congr
variable {E E' : Env} {L L' : LEnv} {ops : Array Oper} {o : Oper} {C : Ctab}
theorem evs_congr : ∀ {xs : List Operand}, (∀ x ∈ xs, E.ev x = E'.ev x) → E.evs xs = E'.evs xs
  | [], _ => rfl
  | x :: xs, h => by
    simp only [Env.evs]
    rw [h x (List.mem_cons_self ..), evs_congr fun y hy => h y (List.mem_cons_of_mem _ hy)]
theorem parts_congr : ∀ {xs : List (Nat × Operand)}, (∀ x ∈ xs.map (·.2), E.ev x = E'.ev x) → partsOf E xs = partsOf E' xs
  | [], _ => rfl
  | (i, x) :: xs, h => by
    simp only [partsOf]
    rw [h x (by simp), parts_congr fun y hy => h y (by simp at hy ⊢; exact .inr hy)]
theorem optV_congr {x : Option Operand} (h : ∀ y, x = some y → E.ev y = E'.ev y) : optV E x = optV E' x := by
  cases x with
  | none => rfl
  | some y => simp only [optV]; rw [h y rfl]
theorem aop_congr {nm : Option Nat} (h : ∀ x ∈ o.op.operands, E.ev x = E'.ev x) : aop P nm E o = aop P nm E' o := by
  unfold aop
  cases hop : o.op <;> simp only [hop] at h ⊢
  case build t ps => grind [parts_congr, Op.operands]
  case buildSlice t l ps => grind [parts_congr, Op.operands]
  case makeFunc f a b =>
    rw [evs_congr (xs := a.toList) fun x hx => h x (by grind [Op.operands]),
      evs_congr (xs := b.toList) fun x hx => h x (by grind [Op.operands])]
  case makeMap t r => grind [optV_congr, Op.operands]
  case call c =>
    rw [evs_congr (xs := c.args.toList) fun x hx => h x (by grind [Op.operands, Call.operands])]
  case slice t x lo hi mx =>
    rw [h x (by simp [Op.operands]), optV_congr (x := lo) fun y hy => h y (by simp [Op.operands, hy]),
      optV_congr (x := hi) fun y hy => h y (by simp [Op.operands, hy]), optV_congr (x := mx) fun y hy => h y (by simp [Op.operands, hy])]
  all_goals simp [Op.operands] at h
  all_goals simp only [h]
theorem operand_reads {x : Operand} {t : Nat} (hx : x ∈ o.op.operands) (e : x = .tmp t) : t ∈ readsOf ops o := by
  unfold readsOf
  refine List.mem_append_left _ (List.mem_filterMap.2 ⟨x, Array.mem_toList_iff.2 hx, ?_⟩)
  subst e; rfl
theorem ev_congr (h : ∀ t ∈ readsOf ops o, E t = E' t) : ∀ x ∈ o.op.operands, E.ev x = E'.ev x := by
  intro x hx
  cases x <;> simp only [Env.ev]
  exact h _ (operand_reads hx rfl)
theorem want_congr (h : ∀ t ∈ readsOf ops o, E t = E' t) : want ops E o = want ops E' o := by
  grind [want, readsOf, List.mem_append_right]
theorem readAt_congr (h : ∀ t ∈ readsOf ops o, E t = E' t) : readAt E o = readAt E' o := by
  have h := ev_congr h
  unfold readAt
  cases hop : o.op <;> simp only [hop, Op.operands] at h ⊢
  all_goals first | rfl | (rw [h _ (by simp)])
theorem lit_congr {c : Call} (hop : o.op = .call c) (h : ∀ t ∈ readsOf ops o, L t = L' t) : litArg L c = litArg L' c := by
  unfold litArg
  split
  · rename_i x t hc ha
    refine h t (operand_reads (x := .tmp t) ?_ rfl)
    rw [hop]
    simp only [Op.operands, Call.operands, Array.mem_append]
    exact .inr (Array.mem_toList_iff.1 (by rw [ha]; simp))
  · rfl
theorem act_congr {nm : Nat} (h : ∀ t ∈ readsOf ops o, E t = E' t) (hL : ∀ t ∈ readsOf ops o, L t = L' t) : act P C nm ops E L o = act P C nm ops E' L' o := by
  funext hp
  unfold act
  rw [want_congr h]
  have he : ex P C nm ops E L o hp = ex P C nm ops E' L' o hp := by
    have ha := aop_congr (P := P) (nm := some nm) (ev_congr h)
    have hv := ev_congr h
    unfold ex
    cases hop : o.op <;> simp only
    case pick c a b =>
      grind [Op.operands]
    case call c =>
      rw [ha, lit_congr hop hL]
      rw [hop] at hv
      have hcw : ∀ A, capW (capA ops o) E c A = capW (capA ops o) E' c A := fun A => by
        unfold capW
        cases hca : c.args.toList with
        | nil => rfl
        | cons s ss => simp only [hv s (by simp only [Op.operands, Call.operands, Array.mem_append]; exact .inr (Array.mem_toList_iff.1 (by rw [hca]; simp)))]
      simp only [hcw]
      have h1 : callee E c = callee E' c := by
        unfold callee
        rw [evs_congr (xs := c.args.toList) fun x hx => hv x (by grind [Op.operands, Call.operands])]
        grind [Op.operands, Call.operands]
      have h3 : ∀ t, dySlot C c = some t → calleeD E t c = calleeD E' t c := by
        intro t ht
        unfold calleeD
        rw [evs_congr (xs := c.args.toList) fun x hx => hv x (by grind [Op.operands, Call.operands])]
        have hcal : c.callee = .value (.tmp t) := by
          grind [dySlot]
        have : E t = E' t := hv (.tmp t) (by simp [Op.operands, Call.operands, hcal])
        rw [this]
      have h4 : (match dySlot C c with
          | some t => (match calleeD E t c with
            | some (x, vs) => (match C.dy t x vs with
              | some ca => (match ca.m hp with | some (x, h') => some (Res.val (ca.pk x), h') | none => none)
              | none => none)
            | none => none)
          | none => (match callee E c with
            | some (f, vs) => (match C.st f vs with
              | some ca => (match ca.m hp with | some (x, h') => some (.val (ca.pk x), h') | none => none)
              | none => none)
            | none => none)) = (match dySlot C c with
          | some t => (match calleeD E' t c with
            | some (x, vs) => (match C.dy t x vs with
              | some ca => (match ca.m hp with | some (x, h') => some (Res.val (ca.pk x), h') | none => none)
              | none => none)
            | none => none)
          | none => (match callee E' c with
            | some (f, vs) => (match C.st f vs with
              | some ca => (match ca.m hp with | some (x, h') => some (.val (ca.pk x), h') | none => none)
              | none => none)
            | none => none)) := by
        grind
      have h2 : ∀ b n cs, appLit P b E c n cs = appLit P b E' c n cs := by
        intro b n cs
        unfold appLit
        split
        · rename_i t t' s u e1 e2
          rw [hv s (by simp only [Op.operands, Call.operands, Array.mem_append]; exact .inr (Array.mem_toList_iff.1 (by rw [e2]; simp)))]
        · rfl
      simp only [h4, h2]
    case buildSlice t l ps =>
      rw [ha]
      have : litOf P ops E o = litOf P ops E' o := by
        unfold litOf
        rw [hop] at hv ⊢
        have hp := parts_congr (xs := ps.toList) fun x hx => hv x (by simpa [Op.operands] using hx)
        cases o.dst
        · rfl
        · simp only [hp]
      rw [this]
    all_goals rw [ha]
  rw [he]
end Congr

/-! What an operation does to the heap. -/
section Classes
variable {E E' : Env} {L L' : LEnv} {ops : Array Oper} {o : Oper} {C : Ctab}
/-- It leaves the heap as it is and does not look at it. -/
def Pm {α : Type} (m : M α) : Prop := ∀ h x h', m h = some (x, h') → h' = h ∧ ∀ h2, m h2 = some (x, h2)
def Pa (A : Act) : Prop := ∀ h x h', A.exec h = some (x, h') → h' = h ∧ ∀ h2, A.exec h2 = some (x, h2)
theorem SameC.none {h h' : AHeap} {b : Addr} (hs : SameC h h' b) (hn : h.get b.block ≠ Option.none) : (∃ c g base e c', h.get b.block = some (.cells c g base e) ∧ h'.get b.block = some (.cells c' g base e) ∧ c'.length = c.length ∧ c'.drop b.off = c.drop b.off) ∨ h'.get b.block = h.get b.block := by
  unfold SameC at hs
  split at hs
  · rename_i c g base e c' g' base' e' h1 h2
    obtain ⟨rfl, rfl, rfl, q1, q2⟩ := hs
    exact .inl ⟨c, _, _, _, c', h1, h2, q1, q2⟩
  · exact .inr hs
theorem SameC.cell {h h' : AHeap} {a b : Addr} (hs : SameC h h' b) (hb : a.block = b.block) (ho : b.off ≤ a.off) : h'.cell a = h.cell a := by
  unfold AHeap.cell
  rw [hb]
  cases hq : h.get b.block with
  | none =>
    unfold SameC at hs; rw [hq] at hs
    simp only at hs
    rw [hs]
  | some o =>
    rcases hs.none (by rw [hq]; simp) with ⟨c, g, base, e, c', h1, h2, h3, h4⟩ | h1
    · rw [h2]
      rw [hq] at h1; cases h1
      simp only
      have : ∀ l : List Value, l[a.off]? = (l.drop b.off)[a.off - b.off]? := fun l => by
        rw [List.getElem?_drop]; congr 1; omega
      rw [this c', this c, h4]
    · rw [h1, hq]
theorem SameC.cells {h h' : AHeap} {b : Addr} (hs : SameC h h' b) {n : Nat} : cellsAt h' (some b) n = cellsAt h (some b) n := by
  unfold cellsAt
  simp only
  cases hq : h.get b.block with
  | none =>
    unfold SameC at hs; rw [hq] at hs
    simp only at hs
    rw [hs]
  | some o =>
    rcases hs.none (by rw [hq]; simp) with ⟨c, g, base, e, c', h1, h2, h3, h4⟩ | h1
    · rw [h2]
      rw [hq] at h1; cases h1
      simp only [h3, h4]
    · rw [h1, hq]
theorem SameC.elem {h h' : AHeap} {b : Addr} (hs : SameC h h' b) {s : Sl} (ha : s.a = some b) {e : TypeId} : elemOk h' s e = elemOk h s e := by
  unfold elemOk
  rw [ha]
  simp only
  cases hq : h.get b.block with
  | none =>
    unfold SameC at hs; rw [hq] at hs
    simp only at hs
    rw [hs]
  | some o =>
    rcases hs.none (by rw [hq]; simp) with ⟨c, g, base, e, c', h1, h2, h3, h4⟩ | h1
    · rw [h2]
      rw [hq] at h1; cases h1
      rfl
    · rw [h1, hq]
/-- It leaves the heap as it is, and looks at one block. -/
def Rm (a : Option Addr) {α : Type} (m : M α) : Prop := ∀ h x h', m h = some (x, h') → h' = h ∧
  ((∀ h2, m h2 = some (x, h2)) ∨ ∃ b, a = some b ∧ h.get b.block ≠ none ∧ ∀ h2, SameC h h2 b → m h2 = some (x, h2))
def Ra (a : Option Addr) (A : Act) : Prop := ∀ h x h', A.exec h = some (x, h') → h' = h ∧
  ((∀ h2, A.exec h2 = some (x, h2)) ∨ ∃ b, a = some b ∧ h.get b.block ≠ none ∧ ∀ h2, SameC h h2 b → A.exec h2 = some (x, h2))
theorem Pa.val {v : Value} : Pa (.val v) := fun h x h' e => by cases e; exact ⟨rfl, fun _ => rfl⟩
theorem Pa.none : Pa .none := fun h x h' e => by cases e
theorem Pa.ask {α : Type} {m : M α} {k : α → Act} (hm : Pm m) (hk : ∀ x, Pa (k x)) : Pa (.ask α m k) := fun h x h' e => by
  simp only [Act.exec] at e
  split at e
  · rename_i y h1 he
    obtain ⟨rfl, h2⟩ := hm _ _ _ he
    obtain ⟨rfl, h3⟩ := hk _ _ _ _ e
    exact ⟨rfl, fun h2' => by simp only [Act.exec, h2 h2']; exact h3 h2'⟩
  · cases e
theorem Ra.of {a : Option Addr} {A : Act} (h : Pa A) : Ra a A := fun h0 x h' e => ⟨(h _ _ _ e).1, .inl (h _ _ _ e).2⟩
theorem Ra.ask {a : Option Addr} {α : Type} {m : M α} {k : α → Act} (hm : Rm a m) (hk : ∀ x, Ra a (k x)) : Ra a (.ask α m k) := fun h x h' e => by
  simp only [Act.exec] at e
  split at e
  · rename_i y h1 he
    obtain ⟨rfl, h2⟩ := hm _ _ _ he
    obtain ⟨rfl, h3⟩ := hk _ _ _ _ e
    refine ⟨rfl, ?_⟩
    grind [Act.exec]
  · cases e
theorem Pm.ckM (b : Bool) : Pm (ckM b) := fun h x h' e => by
  cases b <;> simp only [Ago.ckM] at e
  · cases e
  · cases e; exact ⟨rfl, fun _ => rfl⟩
theorem Pm.nn (p : Option Addr) : Pm (nn p) := fun h x h' e => by
  cases p <;> simp only [Ago.nn] at e
  · cases e
  · cases e; exact ⟨rfl, fun _ => rfl⟩
theorem Pm.eqP (a b : Option Addr) : Pm (eqP a b) := fun h x h' e => by
  obtain ⟨rfl, rfl, x, y, rfl, rfl, he⟩ := eqP_spec e
  exact ⟨rfl, fun h2 => by unfold Ago.eqP; simp only [he]⟩
theorem Pm.sData (p : Option Addr) (n : Nat) : Pm (sData p n) := fun h x h' e => by
  unfold Ago.sData at e ⊢
  grind
theorem Pm.nnF (x : Value) : Pm (nnF x) := fun h y h' e => by
  unfold Ago.nnF at e; split at e
  · cases e; exact ⟨rfl, fun _ => rfl⟩
  · cases e
theorem Pm.isNilI (v : Value) : Pm (isNilI v) := fun h x h' e => by
  unfold Ago.isNilI at e; split at e
  · cases e; exact ⟨rfl, fun _ => rfl⟩
  · cases e; exact ⟨rfl, fun _ => rfl⟩
  · cases e
theorem Pm.catS (x y : ByteArray) : Pm (catS x y) := fun h z h' e => by
  unfold Ago.catS at e ⊢; grind
theorem Pm.idxS (s : ByteArray) (i : Int) : Pm (idxS s i) := fun h z h' e => by
  unfold Ago.idxS at e ⊢; split at e
  · grind
  · cases e
theorem Pm.idxC (l : Leaf) (n : Nat) (cs : List Value) (i : Int) : Pm (idxC l n cs i) := fun h z h' e => by
  unfold Ago.idxC at e ⊢; split at e
  · rename_i hb
    split at e
    · rename_i hc; split at e
      · grind
      · cases e
    · cases e
  · cases e
theorem Pm.idxA (s : Sl) (i : Int) (z : Nat) : Pm (idxA s i z) := fun h x h' e => by
  unfold Ago.idxA at e ⊢; split at e
  · grind
  · cases e
theorem Pm.sliceS (s : ByteArray) (l u : Int) : Pm (sliceS s l u) := fun h z h' e => by
  unfold Ago.sliceS at e ⊢; grind
theorem Pm.sliceA (a : Addr) (n : Nat) (l u : Int) (z : Nat) : Pm (sliceA a n l u z) := fun h x h' e => by
  unfold Ago.sliceA at e ⊢; grind
theorem Pm.fltM (o : Option Nat) : Pm (fltM o) := fun h z h' e => by
  unfold Ago.fltM at e ⊢; split at e
  · cases e; exact ⟨rfl, fun _ => rfl⟩
  · cases e
theorem abinF_pure (op : BinOp) (a b : Nat) : Pa (abinF op a b) := by
  unfold abinF
  grind [Pa.val, Pa.none, Pa.ask, Pm.fltM, fAdd, fSub, fMul, fDiv]
theorem abinI_pure (op : BinOp) (k : IntKind) (a : Int) (k' : IntKind) (b : Int) : Pa (abinI op k a k' b) := by
  unfold abinI
  grind [Pa.val, Pa.none, Pa.ask, Pm.ckM]
theorem abinS_pure (op : BinOp) (a b : ByteArray) : Pa (abinS op a b) := by
  unfold abinS
  grind [Pa.val, Pa.none, Pa.ask, Pm.catS]
theorem abinE_pure (op : BinOp) (b : Bool) : Pa (abinE op b) := by
  unfold abinE; split <;> first | exact Pa.val | exact Pa.none
theorem abin_pure (op : BinOp) (t : TypeId) (x y : Value) : Pa (abin P op t x y) := by
  unfold abin
  split
  · unfold abinNil
    grind [Pa.val, Pa.none, Pa.ask, Pm.isNilI]
  · unfold abin2
    grind [abinI_pure, abinS_pure, abinF_pure, Pa.val, Pa.none, abinE_pure]
theorem aun_pure (op : UnOp) (x : Value) : Pa (aun op x) := by
  unfold aun
  repeat' (first | exact Pa.val | exact Pa.none | split)
theorem addrK_pure {v : Value} {k : Addr → Act} (h : ∀ a, Pa (k a)) : Pa (addrK v k) := by
  unfold addrK
  split
  · exact h _
  · exact Pa.none
theorem Rm.ldL (l : Leaf) (a b : Addr) (hb : a.block = b.block) (ho : b.off ≤ a.off) : Rm (some b) (ldL l a) := fun h x h' e => by
  unfold Ago.ldL at e ⊢
  split at e
  · rename_i v hv
    split at e
    · rename_i y hy
      cases e
      refine ⟨rfl, .inr ⟨b, rfl, ?_, fun h2 e2 => ?_⟩⟩
      · grind [AHeap.cell]
      rw [← SameC.cell e2 hb ho] at hv
      rw [hv]; simp only [hy]
    · cases e
  · cases e
theorem Rm.ldLs (ls : List Leaf) (a : Addr) : Rm (some a) (ldLs ls a) := fun h x h' e => by
  unfold Ago.ldLs at e ⊢
  split at e
  · rename_i vs hv
    split at e
    · rename_i y hy
      cases e
      refine ⟨rfl, .inr ⟨a, rfl, ?_, fun h2 e2 => ?_⟩⟩
      · intro hn
        simp [cellsAt, hn] at hv
      rw [← SameC.cells e2] at hv
      rw [hv]; simp only [hy]
    · cases e
  · cases e
theorem ldAll_ra (a : Addr) : ∀ (ls : List Leaf) (i : Nat) (acc : List Value), Ra (some a) (ldAll a ls i acc)
  | [], i, acc => Ra.of Pa.val
  | l :: ls, i, acc => Ra.ask (Rm.ldL l _ a rfl (Nat.le_add_right _ _)) fun x => ldAll_ra a ls _ _
theorem ldT_ra (t : TypeId) (a : Addr) : Ra (some a) (ldT P t a) := by
  unfold ldT
  repeat' (first | exact Ra.of Pa.none | exact ldAll_ra _ _ _ _ | exact Ra.ask (Rm.ldL _ _ _ rfl (Nat.le_refl _)) fun _ => Ra.of Pa.val | exact Ra.ask (Rm.ldLs _ _) fun _ => Ra.of Pa.val | split)
theorem Rm.sliceL (s : Sl) (lo hi : Int) (e : TypeId) (z : Nat) : Rm s.a (sliceL s lo hi e z) := fun h x h' he => by
  unfold Ago.sliceL at he ⊢
  split at he
  · rename_i hc
    cases he
    refine ⟨rfl, ?_⟩
    obtain ⟨h1, h2, h3, h4⟩ := hc
    unfold elemOk at h4
    split at h4
    · rename_i ha
      refine .inl fun h2' => ?_
      rw [if_pos]
      grind [elemOk]
    · rename_i a ha
      refine .inr ⟨a, ha, ?_, fun h2' e2 => ?_⟩
      · intro hn; rw [hn] at h4; cases h4
      · rw [if_pos]
        have h6 := e2.elem ha (e := e)
        unfold elemOk at h6
        grind [elemOk]
  · cases he
theorem Rm.sliceL3 (s : Sl) (lo hi m : Int) (e : TypeId) (z : Nat) : Rm s.a (sliceL3 s lo hi m e z) := fun h x h' he => by
  unfold Ago.sliceL3 at he ⊢
  split at he
  · rename_i hc
    cases he
    refine ⟨rfl, ?_⟩
    obtain ⟨h1, h2, h3, h0, h5, h4⟩ := hc
    unfold elemOk at h4
    split at h4
    · grind
    · rename_i a ha
      refine .inr ⟨a, ha, ?_, fun h2' e2 => ?_⟩
      · intro hn; rw [hn] at h4; cases h4
      · rw [if_pos]
        have h6 := e2.elem ha (e := e)
        unfold elemOk at h6
        grind [elemOk]
  · cases he
theorem Rm.strOf (s : Sl) : Rm s.a (strOf s) := fun h x h' he => by
  unfold Ago.strOf at he ⊢
  split at he
  · rename_i cs hc
    split at he
    · rename_i l hl
      cases he
      refine ⟨rfl, ?_⟩
      unfold cellsAt at hc
      split at hc
      · rename_i ha
        refine .inl fun h2 => ?_
        have : cellsAt h2 s.a s.len = some cs := by unfold cellsAt; simp only [ha]; exact hc
        simp only [this, hl]
      · rename_i a ha
        refine .inr ⟨a, ha, ?_, fun h2 e2 => ?_⟩
        · intro hn; rw [hn] at hc; cases hc
        · have : cellsAt h2 s.a s.len = some cs := by rw [ha, SameC.cells e2]; unfold cellsAt; exact hc
          simp only [this, hl]
    · cases he
  · cases he
/-- Silent operations, reading ones, and ones that make a block. -/
theorem aop_sil {nm : Option Nat} (hc : cls P ops o = .sil) (hn : ∀ t l ps, o.op ≠ .buildSlice t l ps) : Pa (aop P nm E o) := by
  unfold cls at hc
  unfold aop
  cases hop : o.op <;> simp only [hop] at hc hn ⊢ <;> try (first | cases hc | done)
  case binOp => repeat' (first | exact abin_pure _ _ _ _ | exact Pa.none | exact Pa.ask (Pm.eqP _ _) fun _ => abinE_pure _ _ | split)
  case unOp => grind [aun_pure, Pa.none]
  case nilCheck => grind [Pa.ask, Pm.nn, Pa.val, Pm.nnF, Pa.none]
  case fieldAddr => repeat' (first | exact addrK_pure fun _ => Pa.val | exact Pa.none | split)
  case indexAddr => grind [Pa.ask, Pm.idxA, Pa.val, Pm.ckM, Pa.none]
  case index => grind [Pa.ask, Pm.idxS, Pa.val, Pm.idxC, Pa.none]
  case build => 
    split
    · grind [abuild, Pa.val, Pa.none]
    · exact Pa.none
  case slice t x lo hi mx =>
    split
    · unfold aslice
      grind [Pa.ask, Pm.sliceS, Pa.val, Pa.none, Pm.sliceA]
    · exact Pa.none
  case convert s d x =>
    split
    · unfold aconv
      grind [Pa.val, Pa.none]
    · exact Pa.none
  case buildSlice t l ps => exact absurd rfl (hn t l ps)
  case call c =>
    split
    · rename_i b vs hb _
      rw [hb] at hc
      unfold abuiltin
      split <;> first | exact Pa.none | (simp only at hc; cases hc; done) | (simp only at hc; exact (addCls_sil hc).elim) | skip
      all_goals grind [Pa.val, Pa.none, Pa.ask, Pm.sData]
    · exact Pa.none
  all_goals repeat' (first | exact Pa.val | exact Pa.none | split)
theorem mapV_some {m : Option (Value × AHeap)} {r : Res} {h' : AHeap} (e : mapV m = some (r, h')) : ∃ v, m = some (v, h') ∧ r = .val v := by
  unfold mapV at e; grind
theorem mapV_capW {b : Bool} {c : Call} {A : Act} {r : Res × AHeap} (e : mapV ((capW b E c A).exec h) = some r) : mapV (A.exec h) = some r := by rw [mapV_capA e] at e; exact e
theorem build_none {nm : Nat} {d : Nat} (hd : o.dst = some d) (hu : litUse ops d = true) {t : TypeId} {l : Nat} {ps : Array (Nat × Operand)} (hop : o.op = .buildSlice t l ps) (hl : litOf P ops E o = none) :
    (aop P (some nm) E o).exec h = none := by
  unfold litOf at hl
  unfold aop
  simp only [hop, hd, hu] at hl ⊢
  split at hl
  · rename_i vs hv
    try simp only [hv]
    split at hl
    · cases hl
    · rename_i hc
      unfold litCells at hc
      unfold abuildSlice
      split at hc
      · grind [Act.exec, newB]
      · rfl
  · rename_i hv
    try simp only [hv]
    rfl
theorem act_sil {nm : Nat} (hc : cls P ops o = .sil) {r : Res} (hx : act P C nm ops E L o h = some (r, h')) : h' = h ∧ ∀ h2, act P C nm ops E L o h2 = some (r, h2) := by
  unfold act at hx ⊢
  split at hx
  · have gen : ∀ A : Act, Pa A → mapV (A.exec h) = some (r, h') → h' = h ∧ ∀ h2, mapV (A.exec h2) = some (r, h2) := by
      intro A hA e
      obtain ⟨v, e1, rfl⟩ := mapV_some e
      obtain ⟨e2, e3⟩ := hA _ _ _ e1
      exact ⟨e2, fun h2 => by rw [e3 h2]; rfl⟩
    unfold ex at hx ⊢
    cases hop : o.op <;> simp only [hop] at hx ⊢
    case pick c a b =>
      grind
    case call c =>
      have hl : litArg L c = none := by
        grind [litArg, cls, addCls_sil]
      have hcp : capA ops o = false := by
        unfold cls at hc
        unfold capA
        simp only [hop] at hc ⊢
        split
        · rename_i h1 _; simp only [h1] at hc; exact (addCls_sil hc).elim
        · rfl
      split at hx
      · rename_i hb
        cases hlx : laxA ops o <;> simp only [hl, hlx, hcp, capW] at hx ⊢
        · exact gen _ (aop_sil hc (by simp [hop])) hx
        · cases hx
      · rename_i hb
        unfold isBuiltin at hb
        unfold cls at hc
        simp only [hop] at hc
        grind
    case buildSlice t l ps =>
      unfold cls at hc
      simp only [hop] at hc
      split at hc
      · rename_i d hd
        split at hc
        · rename_i hu
          split at hx
          · grind
          · rename_i hl
            rw [build_none hd hu hop hl] at hx; cases hx
        · cases hc
      · cases hc
    all_goals exact gen _ (aop_sil hc (by simp [hop])) hx
  · cases hx; exact ⟨rfl, fun _ => rfl⟩
  · cases hx
def rdL : Value → Option Addr
  | .pointer p => p
  | _ => none
def rdS' : Value → Option Addr
  | .slice a _ _ => a
  | _ => none
theorem act_ro {nm : Nat} (hc : cls P ops o = .ro) {r : Res} (hx : act P C nm ops E L o h = some (r, h')) : h' = h ∧
    ((∀ h2, act P C nm ops E L o h2 = some (r, h2)) ∨ (want ops E o = some true ∧ ∃ b, readAt E o = some b ∧ h.get b.block ≠ none ∧ ∀ h2, SameC h h2 b → act P C nm ops E L o h2 = some (r, h2))) := by
  unfold act at hx ⊢
  split at hx
  · rename_i hw
    simp only [hw, true_and]
    have gen : ∀ A : Act, Ra (readAt E o) A → mapV (A.exec h) = some (r, h') → h' = h ∧ ((∀ h2, mapV (A.exec h2) = some (r, h2)) ∨
        ∃ b, readAt E o = some b ∧ h.get b.block ≠ none ∧ ∀ h2, SameC h h2 b → mapV (A.exec h2) = some (r, h2)) := by
      intro A hA e
      obtain ⟨v, e1, rfl⟩ := mapV_some e
      obtain ⟨e2, e3⟩ := hA _ _ _ e1
      refine ⟨e2, ?_⟩
      rcases e3 with e3 | ⟨b, h1, h2, e3⟩
      · exact .inl fun h2 => by rw [e3 h2]; rfl
      · exact .inr ⟨b, h1, h2, fun h2 q => by rw [e3 h2 q]; rfl⟩
    unfold ex at hx ⊢
    cases hop : o.op <;> simp only [hop] at hx ⊢ <;> try (unfold cls at hc; simp only [hop] at hc; contradiction)
    case load t x =>
      refine gen _ ?_ hx
      unfold aop
      simp only [hop]
      cases hv : E.ev x with
      | none => exact Ra.of Pa.none
      | some v =>
        have hr : readAt E o = rdL v := by simp only [readAt, hop, hv]; cases v <;> rfl
        rw [hr]
        cases v <;> simp only [addrK] <;> try exact Ra.of Pa.none
        rename_i p
        cases p
        · exact Ra.of Pa.none
        · exact ldT_ra _ _
    case slice t x lo hi mx =>
      refine gen _ ?_ hx
      unfold aop
      unfold cls at hc
      simp only [hop] at hc ⊢
      cases hv : E.ev x with
      | none => exact Ra.of Pa.none
      | some v =>
        have hr : readAt E o = rdS' v := by simp only [readAt, hop, hv]; cases v <;> rfl
        rw [hr]
        split
        · rename_i v l u m he _ _ _
          cases he
          unfold aslice
          split
          · rename_i hu _; simp [hu] at hc
          · repeat' (first | exact Ra.ask (Rm.sliceL ⟨_, _, _⟩ _ _ _ _) fun _ => Ra.of Pa.val | exact Ra.of Pa.none | split)
          · rename_i hu _; simp [hu] at hc
          · repeat' (first | exact Ra.ask (Rm.sliceL3 ⟨_, _, _⟩ _ _ _ _ _) fun _ => Ra.of Pa.val | exact Ra.of Pa.none | split)
          · exact Ra.of Pa.none
        · exact Ra.of Pa.none
    case convert s d x =>
      refine gen _ ?_ hx
      unfold aop
      unfold cls at hc
      simp only [hop] at hc ⊢
      cases hv : E.ev x with
      | none => exact Ra.of Pa.none
      | some v =>
        have hr : readAt E o = rdS' v := by simp only [readAt, hop, hv]; cases v <;> rfl
        rw [hr]
        simp only
        unfold aconv
        split
        · rename_i h1 h2; simp [h1, h2] at hc
        · rename_i h1 h2; simp [h1, h2] at hc
        · exact Ra.of Pa.val
        · exact Ra.of Pa.val
        · exact Ra.of Pa.val
        · exact Ra.of Pa.val
        · rename_i h1 h2; simp [h1, h2] at hc
        · repeat' (first | exact Ra.ask (Rm.strOf ⟨_, _, _⟩) fun _ => Ra.of Pa.val | exact Ra.of Pa.none | split)
        · exact Ra.of Pa.none
    case buildSlice t l ps =>
      unfold cls at hc
      simp only [hop] at hc
      grind
    case call c =>
      unfold cls at hc
      simp only [hop] at hc
      grind [addCls_ro, addCls_mro, addCls_alloc, addCls_mka]
  · grind
  · cases hx
/-- It makes a block under its own name. -/
def Na (nm : Nat) (A : Act) : Prop := ∀ h x h', A.exec h = some (x, h') → ∃ t cs, h.used nm = false ∧ nm < h.next ∧ h.get nm = none ∧ h' = h.putB nm h.next t cs ∧
  ∀ h2 : AHeap, h2.used nm = false → nm < h2.next → h2.get nm = none → A.exec h2 = some (x, h2.putB nm h2.next t cs)
theorem Na.none {nm : Nat} : Na nm .none := fun h x h' e => by cases e
theorem Na.new {nm : Nat} {t : TypeId} {cs : List Value} {k : Nat → Value} : Na nm (.ask Nat (newB (some nm) t cs) fun b => .val (k b)) := fun h x h' e => by
  simp only [Act.exec, newB] at e ⊢
  by_cases hs : cs.all scal = true
  · simp only [hs, if_true] at e ⊢
    split at e
    · rename_i y h1 he
      split at he
      · rename_i hk
        cases he; cases e
        refine ⟨t, cs, hk.1, hk.2.1, Option.isNone_iff_eq_none.1 hk.2.2, rfl, fun h2 a b c => ?_⟩
        simp [a, b, c]
      · cases he
    · cases e
  · simp [hs] at e
theorem Na.mkS {nm : Nat} {t : TypeId} {z : List Value} {l c : Int} {k : Sl → Value} : Na nm (.ask Sl (mkS (some nm) t z l c) fun r => .val (k r)) := fun h x h' e => by
  simp only [Act.exec, Ago.mkS] at e ⊢
  by_cases hb : 0 ≤ l ∧ l ≤ c ∧ c ≤ bigN
  · simp only [hb, and_self, if_true] at e ⊢
    split at e
    · rename_i y h1 he
      split at he
      · rename_i b h2 hnb
        cases he; cases e
        have e0 : (Act.ask Nat (newB (some nm) t (List.replicate c.toNat z).flatten) fun b => .val (.int .i64 b)).exec h = some (.int .i64 b, h') := by simp only [Act.exec, hnb]
        obtain ⟨t', cs', a1, a2, a3, a4, a5⟩ := (Na.new (nm := nm) (k := fun b => .int .i64 b)) h _ _ e0
        refine ⟨t', cs', a1, a2, a3, a4, fun h2 b1 b2 b3 => ?_⟩
        have := a5 h2 b1 b2 b3
        simp only [Act.exec] at this
        grind
      · cases he
    · cases e
  · simp [hb] at e
/-- The maps of the one are maps of the other. -/
def ME (h h2 : AHeap) : Prop := ∀ m x, h.mget m = some x → h2.mget m = some x
theorem ME.of {h h2 : AHeap} (e : h2.mget = h.mget) : ME h h2 := fun m x q => by rw [e]; exact q
/-- It leaves the heap, and looks at the maps alone. -/
def Mm (A : Act) : Prop := ∀ h x h', A.exec h = some (x, h') → h' = h ∧ ∀ h2 : AHeap, ME h h2 → A.exec h2 = some (x, h2)
theorem Mm.of {A : Act} (hA : Pa A) : Mm A := fun h x h' e => ⟨(hA h x h' e).1, fun h2 _ => (hA h x h' e).2 h2⟩
theorem Mm.get {kt : TypeId} {T : Ty} {z : T.den} {m : Option Nat} {k : Value} {g : Bool × T.den → Value} : Mm (.ask (Bool × T.den) (mpGet kt T z m k) fun r => .val (g r)) := fun h x h' e => by
  simp only [Act.exec] at e ⊢
  split at e
  · rename_i y h1 he
    cases e
    have key : h' = h ∧ ∀ h2 : AHeap, ME h h2 → mpGet kt T z m k h2 = some (y, h2) := by
      unfold mpGet at he ⊢
      split at he
      · cases he; exact ⟨rfl, fun _ _ => rfl⟩
      · split at he
        · rename_i hm
          split at he
          · rename_i hv
            split at he
            · rename_i hu
              cases he
              refine ⟨rfl, fun h2 e2 => ?_⟩
              unfold ME at e2; grind [AHeap.ments]
            · cases he
          · rename_i hv
            cases he
            refine ⟨rfl, fun h2 e2 => ?_⟩
            unfold ME at e2; grind [AHeap.ments]
        · cases he
    exact ⟨key.1, fun h2 e2 => by simp only [key.2 h2 e2]⟩
  · cases e
theorem Mm.len {m : Option Nat} {g : Nat → Value} : Mm (.ask Nat (mpLen m) fun r => .val (g r)) := fun h x h' e => by
  simp only [Act.exec] at e ⊢
  split at e
  · rename_i y h1 he
    cases e
    have key : h' = h ∧ ∀ h2 : AHeap, ME h h2 → mpLen m h2 = some (y, h2) := by
      unfold mpLen at he ⊢
      unfold ME
      grind
    exact ⟨key.1, fun h2 e2 => by simp only [key.2 h2 e2]⟩
  · cases e
theorem act_mro {nm : Nat} (hc : cls P ops o = .mro) {r : Res} (hx : act P C nm ops E L o h = some (r, h')) : h' = h ∧ ∀ h2 : AHeap, ME h h2 → act P C nm ops E L o h2 = some (r, h2) := by
  unfold act at hx ⊢
  split at hx
  · have gen : ∀ A : Act, Mm A → mapV (A.exec h) = some (r, h') → h' = h ∧ ∀ h2 : AHeap, ME h h2 → mapV (A.exec h2) = some (r, h2) := by
      intro A hA e
      obtain ⟨v, e1, rfl⟩ := mapV_some e
      obtain ⟨e2, e3⟩ := hA _ _ _ e1
      exact ⟨e2, fun h2 q => by rw [e3 h2 q]; rfl⟩
    unfold ex at hx ⊢
    cases hop : o.op <;> simp only [hop] at hx ⊢ <;> try (unfold cls at hc; simp only [hop] at hc; contradiction)
    case lookup t x i ok =>
      refine gen _ ?_ hx
      unfold aop
      simp only [hop]
      repeat' (first | exact Mm.of Pa.none | exact Mm.get | split)
    case buildSlice t l ps =>
      unfold cls at hc
      grind
    case call c =>
      have hcal : c.callee = .builtin .len := by
        unfold cls at hc
        simp only [hop] at hc
        grind [addCls_mro]
      have hb : isBuiltin c = true := by unfold isBuiltin; rw [hcal]
      have hl : litArg L c = none := by unfold litArg; rw [hcal]
      have hlx : laxA ops o = false := by unfold laxA; simp only [hop, hcal]
      have hcp : capA ops o = false := by unfold capA; simp only [hop, hcal]
      simp only [hb, hl, hlx, hcp, capW] at hx ⊢
      refine gen _ ?_ hx
      have hty : ∃ t r k e, c.argTypes.toList = t :: r ∧ P.underlying t = some (.map k e) := by
        grind [cls]
      obtain ⟨t, tr, k, e, ht, hu⟩ := hty
      unfold aop
      simp only [hop, hcal, ht]
      split
      · rename_i b vs hb2 _
        cases hb2
        unfold abuiltin
        split <;> first | exact Mm.of Pa.none | (simp_all; done) | skip
        all_goals repeat' (first | exact Mm.of Pa.none | exact Mm.of Pa.val | exact Mm.len | split)
      · exact Mm.of Pa.none
    all_goals
      grind [cls, addCls_ro, addCls_mro, addCls_alloc, addCls_mka]
  · cases hx; exact ⟨rfl, fun _ _ => rfl⟩
  · cases hx
theorem act_alloc {nm : Nat} (hc : cls P ops o = .alloc) {r : Res} (hx : act P C nm ops E L o h = some (r, h')) : (h' = h ∧ ∀ h2, act P C nm ops E L o h2 = some (r, h2)) ∨
    ∃ t cs, h.used nm = false ∧ nm < h.next ∧ h.get nm = none ∧ h' = h.putB nm h.next t cs ∧
      ∀ h2 : AHeap, h2.used nm = false → nm < h2.next → h2.get nm = none → act P C nm ops E L o h2 = some (r, h2.putB nm h2.next t cs) := by
  unfold act at hx ⊢
  split at hx
  · refine .inr ?_
    have gen : ∀ A : Act, Na nm A → mapV (A.exec h) = some (r, h') → ∃ t cs, h.used nm = false ∧ nm < h.next ∧ h.get nm = none ∧ h' = h.putB nm h.next t cs ∧
        ∀ h2 : AHeap, h2.used nm = false → nm < h2.next → h2.get nm = none → mapV (A.exec h2) = some (r, h2.putB nm h2.next t cs) := by
      intro A hA e
      obtain ⟨v, e1, rfl⟩ := mapV_some e
      obtain ⟨t, cs, a, b, c, d, e2⟩ := hA _ _ _ e1
      exact ⟨t, cs, a, b, c, d, fun h2 a b c => by rw [e2 h2 a b c]; rfl⟩
    unfold ex at hx ⊢
    cases hop : o.op <;> simp only [hop] at hx ⊢ <;> try (unfold cls at hc; simp only [hop] at hc; contradiction)
    case alloc t =>
      refine gen _ ?_ hx
      unfold aop
      simp only [hop]
      split
      · exact Na.new
      · exact Na.none
    case box t x =>
      refine gen _ ?_ hx
      unfold aop
      simp only [hop]
      split
      · exact Na.new
      · exact Na.none
    case makeSlice t l c =>
      refine gen _ ?_ hx
      unfold aop
      simp only [hop]
      repeat' (first | exact Na.none | exact Na.mkS | split)
    case buildSlice t l ps =>
      have hl : litOf P ops E o = none := by
        unfold cls at hc
        unfold litOf
        simp only [hop] at hc ⊢
        grind
      simp only [hl] at hx ⊢
      refine gen _ ?_ hx
      unfold aop
      simp only [hop]
      split
      · unfold abuildSlice
        repeat' (first | exact Na.none | exact Na.new | split)
      · exact Na.none
    case call c =>
      unfold cls at hc
      simp only [hop] at hc
      repeat' (first | (cases hc; done) | (exact (addCls_ro hc).elim) | (exact (addCls_mro hc).elim) | (exact (addCls_alloc hc).elim) | (exact (addCls_mka hc).elim) | split at hc)
    all_goals
      unfold cls at hc
      simp only [hop] at hc
      grind
  · cases hx; exact .inl ⟨rfl, fun _ => rfl⟩
  · cases hx
/-- What is there stays. -/
def Ka (A : Act) : Prop := ∀ h x h', A.exec h = some (x, h') → ∀ b, h.get b ≠ none → h'.get b = h.get b
theorem Ka.pure {A : Act} (hA : Pa A) : Ka A := fun h x h' e b _ => by rw [(hA h x h' e).1]
theorem app_keeps {s : Sl} {sz : Nat} {e : TypeId} {n : Nat} {new : List Value} {r : Sl} (hx : app true s sz e n new h = some (r, h')) : ∀ b, h.get b ≠ none → h'.get b = h.get b := by
  intro b hb
  unfold app at hx
  split at hx
  · cases hx
  rename_i hn
  have hnx : h.get h.next = none := by simpa using hn
  have hne : Nat.beq b h.next = false := by
    cases hq : Nat.beq b h.next
    · rfl
    · rw [Nat.eq_of_beq_eq_true hq] at hb; exact absurd hnx hb
  have new : ∀ e cs, (h.new e cs).get b = h.get b := fun e cs => by simp [AHeap.new, AHeap.putB, hne]
  grind [app0, idO_eq]
theorem Ka.ask_app {s : Sl} {sz : Nat} {e : TypeId} {n : Nat} {new : List Value} {k : Sl → Value} : Ka (.ask Sl (app true s sz e n new) fun r => .val (k r)) := fun h x h' he => by
  grind [Act.exec, app_keeps]
theorem Ka.ask {α : Type} {m : M α} {k : α → Act} (hm : ∀ h x h', m h = some (x, h') → h' = h) (hk : ∀ x, Ka (k x)) : Ka (.ask α m k) := fun h x h' he => by
  simp only [Act.exec] at he
  split at he
  · rename_i y h1 hm1
    rw [hm _ _ _ hm1] at he
    exact hk _ _ _ _ he
  · cases he
theorem act_add {nm : Nat} (hc : cls P ops o = .add) {r : Res} (hx : act P C nm ops E L o h = some (r, h')) : ∀ b, h.get b ≠ none → h'.get b = h.get b := by
  unfold act at hx
  split at hx
  · have gen : ∀ A : Act, Ka A → mapV (A.exec h) = some (r, h') → ∀ b, h.get b ≠ none → h'.get b = h.get b := by
      intro A hA e
      obtain ⟨v, e1, rfl⟩ := mapV_some e
      exact hA _ _ _ e1
    unfold ex at hx
    cases hop : o.op <;> simp only [hop] at hx <;> try (unfold cls at hc; simp only [hop] at hc; contradiction)
    case call c =>
      have hcal : c.callee = .builtin .append := by
        unfold cls at hc
        simp only [hop] at hc
        grind
      have hlx : laxA ops o = false := by
        grind [cls, addCls_add]
      simp only [hlx, Bool.not_false] at hx
      split at hx
      · split at hx
        · refine gen _ ?_ (mapV_capW hx)
          unfold appLit
          repeat' (first | exact Ka.ask_app | exact Ka.pure Pa.none | split)
        · refine gen _ ?_ (mapV_capW hx)
          unfold aop
          simp only [hop, hcal]
          split
          · rename_i b vs hb _
            cases hb
            unfold abuiltin
            split
            · contradiction
            · contradiction
            · contradiction
            · contradiction
            · contradiction
            · contradiction
            · contradiction
            · have hrd : ∀ (s : Sl) (z : Nat) h x h', rdS s z h = some (x, h') → h' = h := by
                grind [rdS]
              repeat' (first | exact Ka.ask (hrd _ _) fun _ => Ka.ask_app | exact Ka.pure Pa.none | split)
            · repeat' (first | exact Ka.ask_app | exact Ka.pure Pa.none | split)
            · contradiction
            · contradiction
            · exact Ka.pure Pa.none
          · exact Ka.pure Pa.none
      · rename_i hb
        simp [isBuiltin, hcal] at hb
    all_goals
      grind [cls, addCls_ro, addCls_mro, addCls_alloc, addCls_mka]
  · cases hx; exact fun _ _ => rfl
  · cases hx
/-- A heap that has what the other one has, and as many names. -/
def Sm (h h2 : AHeap) : Prop := h2.next = h.next ∧ h2.get h2.next = none ∧ ∀ b, h.get b ≠ none → h2.get b = h.get b
/-- It makes one new block at the end, or none, and looks at what is there. -/
def Kb (A : Act) : Prop := ∀ h x h', A.exec h = some (x, h') → h.get h.next = none ∧ ((h' = h ∧ ∀ h2, Sm h h2 → A.exec h2 = some (x, h2)) ∨ ∃ e cs, h' = h.new e cs ∧ ∀ h2, Sm h h2 → A.exec h2 = some (x, h2.new e cs))
theorem Kb.none : Kb .none := fun h x h' e => by cases e
theorem cells_sm {h2 : AHeap} (S : Sm h h2) {a : Option Addr} {n : Nat} {l : List Value} (e : cellsAt h a n = some l) : cellsAt h2 a n = some l := by
  unfold cellsAt at *
  cases a with
  | none => exact e
  | some a =>
    simp only at e ⊢
    rw [S.2.2 a.block (fun q => by rw [q] at e; cases e)]
    exact e
theorem app_kb {s : Sl} {sz : Nat} {e : TypeId} {n : Nat} {new : List Value} (hc : s.cap ≠ 0) {r : Sl} {h1 : AHeap} (he : app true s sz e n new h = some (r, h1)) :
    h.get h.next = none ∧ ((h1 = h ∧ ∀ h2, Sm h h2 → app true s sz e n new h2 = some (r, h2)) ∨ ∃ e' cs, h1 = h.new e' cs ∧ ∀ h2, Sm h h2 → app true s sz e n new h2 = some (r, h2.new e' cs)) := by
  have hn : h.get h.next = none := by
    unfold app at he
    split at he
    · cases he
    · rename_i q; simpa using q
  refine ⟨hn, ?_⟩
  unfold app app0 at he ⊢
  rw [hn] at he
  have g2 : ∀ {h2 : AHeap}, Sm h h2 → (true && (h2.get h2.next).isSome) = false := fun S => by rw [S.2.1]; rfl
  simp only [Option.isSome_none, Bool.and_false] at he
  by_cases h0 : n = 0
  · rw [if_pos h0] at he
    refine .inl ?_
    cases ha : s.a with
    | none => rw [ha] at he; simp only at he; rw [if_neg (fun q => hc q.2.1)] at he; cases he
    | some a =>
      rw [ha] at he
      simp only at he
      split at he
      · rename_i q
        cases he
        exact ⟨rfl, fun h2 S => by simp only [g2 S]; rw [if_pos h0, if_pos q]⟩
      · cases he
  · rw [if_neg h0] at he
    split at he
    · cases he
    rename_i q
    refine .inr ?_
    cases ha : s.a with
    | none => rw [ha] at he; simp only at he; rw [if_neg (fun q => hc q.2)] at he; cases he
    | some a =>
      rw [ha] at he
      simp only at he
      split at he
      · rename_i old c g base e' h1' h2'
        split at he
        · split at he
          · rename_i q2; simp at q2
          · cases he
        · rename_i q2
          cases he
          refine ⟨e, old ++ new, rfl, fun h2 S => ?_⟩
          have c2 := cells_sm S h1'
          have b2 := S.2.2 a.block (by rw [h2']; simp)
          simp only [g2 S]
          rw [if_neg h0, if_neg q]
          simp only [c2, b2, h2']
          rw [if_neg q2, if_pos hc, S.1]
      · cases he
theorem Kb.apd {s : Sl} {sz : Nat} {e : TypeId} {n : Nat} {new : List Value} {k : Sl → Value} (hc : s.cap ≠ 0) : Kb (.ask Sl (app true s sz e n new) fun r => .val (k r)) := fun h x h' hx => by
  simp only [Act.exec] at hx ⊢
  split at hx
  · rename_i y h1 he
    cases hx
    obtain ⟨hn, ⟨q1, q2⟩ | ⟨e', cs, q1, q2⟩⟩ := app_kb hc he
    · exact ⟨hn, .inl ⟨q1, fun h2 S => by rw [q2 h2 S]⟩⟩
    · exact ⟨hn, .inr ⟨e', cs, q1, fun h2 S => by rw [q2 h2 S]⟩⟩
  · cases hx
theorem Kb.rds {s : Sl} {sz : Nat} {k : List Value → Act} (hk : ∀ l, Kb (k l)) : Kb (.ask (List Value) (rdS s sz) k) := fun h x h' hx => by
  simp only [Act.exec] at hx ⊢
  split at hx
  · rename_i y h1 he
    unfold Go.Ago.rdS at he
    split at he
    · rename_i cs hcs
      cases he
      obtain ⟨hn, ⟨q1, q2⟩ | ⟨e', cs', q1, q2⟩⟩ := hk _ _ _ _ hx
      · exact ⟨hn, .inl ⟨q1, fun h2 S => by simp only [Go.Ago.rdS, cells_sm S hcs]; exact q2 h2 S⟩⟩
      · exact ⟨hn, .inr ⟨e', cs', q1, fun h2 S => by simp only [Go.Ago.rdS, cells_sm S hcs]; exact q2 h2 S⟩⟩
    · cases he
  · cases hx
theorem act_cap {nm : Nat} (hcap : capA ops o = true) (hca : cls P ops o = .add) {r : Res} (hx : act P C nm ops E L o h = some (r, h')) : (h' = h ∧ ∀ h2, act P C nm ops E L o h2 = some (r, h2)) ∨
    (h.get h.next = none ∧ ((h' = h ∧ ∀ h2, Sm h h2 → act P C nm ops E L o h2 = some (r, h2)) ∨ ∃ e cs, h' = h.new e cs ∧ ∀ h2, Sm h h2 → act P C nm ops E L o h2 = some (r, h2.new e cs))) := by
  unfold act at hx ⊢
  split at hx
  · refine .inr ?_
    unfold ex at hx ⊢
    rw [hcap] at hx ⊢
    unfold capA at hcap
    cases hop : o.op <;> simp only [hop] at hx hcap ⊢ <;> try (cases hcap; done)
    case call c =>
      split at hcap
      · rename_i d ds hcal harg
        have hb : isBuiltin c = true := by unfold isBuiltin; rw [hcal]
        have hlx : laxA ops o = false := by
          cases q : laxA ops o with
          | false => rfl
          | true => unfold cls at hca; simp only [hop, hcal, q] at hca; cases hca
        simp only [hb, hlx] at hx ⊢
        have gen : ∀ A : Act, Kb A → mapV (A.exec h) = some (r, h') → h.get h.next = none ∧ ((h' = h ∧ ∀ h2, Sm h h2 → mapV (A.exec h2) = some (r, h2)) ∨ ∃ e cs, h' = h.new e cs ∧ ∀ h2, Sm h h2 → mapV (A.exec h2) = some (r, h2.new e cs)) := by
          intro A hA e
          obtain ⟨v, e1, rfl⟩ := mapV_some e
          obtain ⟨hn, ⟨q1, q2⟩ | ⟨e', cs, q1, q2⟩⟩ := hA _ _ _ e1
          · exact ⟨hn, .inl ⟨q1, fun h2 S => by rw [q2 h2 S]; rfl⟩⟩
          · exact ⟨hn, .inr ⟨e', cs, q1, fun h2 S => by rw [q2 h2 S]; rfl⟩⟩
        have cap : ∀ A : Act, (∀ a n k, E.ev (.tmp d) = some (.slice a n k) → k ≠ 0 → Kb A) → Kb (capW true E c A) := fun A hA => by
          unfold capW
          simp only [harg]
          split
          · rename_i a n k hev
            split
            · exact Kb.none
            · rename_i hk
              exact hA a n k hev fun q => by rw [q] at hk; cases hk
          · exact Kb.none
        split at hx
        · rename_i n cs hl
          refine gen _ (cap _ fun a m k hev hk => ?_) hx
          show Kb (appLit P true E c n cs)
          unfold appLit
          rw [harg]
          split
          · rename_i t t' s u e1 e2
            cases e2
            rw [hev]
            split
            · rename_i q1 q2 q3
              cases q1
              repeat' (first | exact Kb.none | exact Kb.apd hk | split)
            · exact Kb.none
          · exact Kb.none
        · rename_i hl
          refine gen _ (cap _ fun a n k hev hk0 => ?_) hx
          unfold aop
          simp only [hop, hcal]
          split
          · rename_i b vs hb2 hvs
            cases hb2
            have hv0 : ∃ rest, vs = Value.slice a n k :: rest := by
              rw [harg] at hvs
              unfold Env.evs at hvs
              rw [hev] at hvs
              cases hr : E.evs ds with
              | none => rw [hr] at hvs; cases hvs
              | some r => rw [hr] at hvs; cases hvs; exact ⟨_, rfl⟩
            obtain ⟨rest, rfl⟩ := hv0
            show Kb (abuiltin P true _ _ _)
            unfold abuiltin
            split <;> first | exact Kb.none | contradiction | (injections; subst_vars; repeat' (first | exact Kb.none | exact Kb.rds fun _ => Kb.apd hk0 | exact Kb.apd hk0 | split))
          · exact Kb.none
      · cases hcap
  · cases hx; exact .inl ⟨rfl, fun _ => rfl⟩
  · cases hx
theorem sm_putB {k : Nat} {t : TypeId} {cs : List Value} (a2 : k < h.next) (a3 : h.get k = none) (hn : h.get h.next = none) : Sm h (h.putB k h.next t cs) := by
  have q : ∀ j, j ≠ k → Nat.beq j k = false := fun j e => by
    cases e2 : Nat.beq j k
    · rfl
    · exact absurd (Nat.eq_of_beq_eq_true e2) e
  refine ⟨rfl, ?_, fun b hb => ?_⟩
  · simp [AHeap.putB, q h.next (by omega), hn]
  · have hbk : b ≠ k := fun e => hb (e ▸ a3)
    simp [AHeap.putB, q b hbk]
def Km (A : Act) : Prop := ∀ h x h', A.exec h = some (x, h') → h'.mget = h.mget
theorem Km.pure {A : Act} (hA : Pa A) : Km A := fun h x h' e => by rw [(hA h x h' e).1]
theorem app_m {s : Sl} {sz : Nat} {e : TypeId} {n : Nat} {new : List Value} {r : Sl} (hx : app true s sz e n new h = some (r, h')) : h'.mget = h.mget := by
  unfold app at hx
  split at hx
  · cases hx
  unfold app0 at hx
  repeat' (first | (cases hx; done) | (cases hx; rfl) | split at hx | simp only at hx)
theorem Km.ask_app {s : Sl} {sz : Nat} {e : TypeId} {n : Nat} {new : List Value} {k : Sl → Value} : Km (.ask Sl (app true s sz e n new) fun r => .val (k r)) := fun h x h' he => by
  grind [Act.exec, app_m]
theorem Km.ask {α : Type} {m : M α} {k : α → Act} (hm : ∀ h x h', m h = some (x, h') → h' = h) (hk : ∀ x, Km (k x)) : Km (.ask α m k) := fun h x h' he => by
  simp only [Act.exec] at he
  split at he
  · rename_i y h1 hm1
    rw [hm _ _ _ hm1] at he
    exact hk _ _ _ _ he
  · cases he
theorem act_add_m {nm : Nat} (hc : cls P ops o = .add) {r : Res} (hx : act P C nm ops E L o h = some (r, h')) : h'.mget = h.mget := by
  unfold act at hx
  split at hx
  · have gen : ∀ A : Act, Km A → mapV (A.exec h) = some (r, h') → h'.mget = h.mget := by
      intro A hA e
      obtain ⟨v, e1, rfl⟩ := mapV_some e
      exact hA _ _ _ e1
    unfold ex at hx
    cases hop : o.op <;> simp only [hop] at hx <;> try (unfold cls at hc; simp only [hop] at hc; contradiction)
    case call c =>
      have hcal : c.callee = .builtin .append := by
        unfold cls at hc
        simp only [hop] at hc
        grind
      have hlx : laxA ops o = false := by
        grind [cls, addCls_add]
      simp only [hlx, Bool.not_false] at hx
      split at hx
      · split at hx
        · refine gen _ ?_ (mapV_capW hx)
          unfold appLit
          repeat' (first | exact Km.ask_app | exact Km.pure Pa.none | split)
        · refine gen _ ?_ (mapV_capW hx)
          unfold aop
          simp only [hop, hcal]
          split
          · rename_i b vs hb _
            cases hb
            unfold abuiltin
            split
            · contradiction
            · contradiction
            · contradiction
            · contradiction
            · contradiction
            · contradiction
            · contradiction
            · have hrd : ∀ (s : Sl) (z : Nat) h x h', rdS s z h = some (x, h') → h' = h := by
                grind [rdS]
              repeat' (first | exact Km.ask (hrd _ _) fun _ => Km.ask_app | exact Km.pure Pa.none | split)
            · repeat' (first | exact Km.ask_app | exact Km.pure Pa.none | split)
            · contradiction
            · contradiction
            · exact Km.pure Pa.none
          · exact Km.pure Pa.none
      · rename_i hb
        simp [isBuiltin, hcal] at hb
    all_goals
      grind [cls, addCls_ro, addCls_mro, addCls_alloc, addCls_mka]
  · cases hx; rfl
  · cases hx
theorem ckOp_eff (h : ckOp ops o = true) : cls P ops o = .eff := by
  unfold ckOp at h
  unfold cls
  split at h
  · rename_i hop; simp only [hop]
  · rename_i c hop
    simp only [hop]
    rw [Bool.or_eq_true] at h
    rcases h with h | h
    · grind [isBuiltin, absurd]
    · have hc : c.callee = .builtin .append := by
        grind [laxA]
      simp only [hc, h]; rfl
  · cases h
theorem st_eff (h : isSt o = true) : cls P ops o = .eff := by
  grind [isSt, cls]
theorem act_store {nm : Nat} (hs : isSt o = true) {r : Res} (hx : act P C nm ops E L o h = some (r, h')) : (h' = h ∧ want ops E o ≠ some true ∧ ∀ h2, act P C nm ops E L o h2 = some (r, h2)) ∨
    (want ops E o = some true ∧ ∃ a vs c g base e, stA E o = some a ∧ h.get a.block = some (.cells c g base e) ∧ h' = h.upd a.block (splice c a.off vs) g base e ∧
      ∀ h2 : AHeap, h2.get a.block = some (.cells c g base e) → act P C nm ops E L o h2 = some (r, h2.upd a.block (splice c a.off vs) g base e)) := by
  unfold act at hx ⊢
  split at hx
  · rename_i hw
    refine .inr ⟨hw, ?_⟩
    try simp only [hw]
    unfold isSt at hs
    split at hs
    · rename_i t x y hop
      unfold ex at hx ⊢
      simp only [hop] at hx ⊢
      have gen : ∀ A : Act, A = aop P (some nm) E o → mapV (A.exec h) = some (r, h') → ∃ a vs c g base e, stA E o = some a ∧ h.get a.block = some (.cells c g base e) ∧ h' = h.upd a.block (splice c a.off vs) g base e ∧
          ∀ h2 : AHeap, h2.get a.block = some (.cells c g base e) → mapV (A.exec h2) = some (r, h2.upd a.block (splice c a.off vs) g base e) := by
        intro A hA e
        unfold aop at hA
        simp only [hop] at hA
        split at hA
        · rename_i v u n hv hu hn
          unfold addrK at hA
          split at hA
          · rename_i a
            split at hA
            · subst hA
              simp only [Act.exec] at e ⊢
              unfold stN at e
              generalize hg : h.get a.block = og at e
              cases og with
              | none => simp [mapV] at e
              | some blk =>
                cases blk with
                | cells c g base el =>
                  simp only at e
                  by_cases hc : g ≠ 0 ∧ a.off + u.cells.toList.length ≤ c.length ∧ u.cells.toList.all scal = true
                  · rw [if_pos hc] at e
                    simp only [mapV, Option.some.injEq, Prod.mk.injEq] at e
                    obtain ⟨e1, e2⟩ := e
                    refine ⟨a, u.cells.toList, c, g, base, el, by simp only [stA, hop, hv], hg, e2.symm, fun h2 e3 => ?_⟩
                    unfold stN
                    rw [e3]
                    simp only
                    rw [if_pos hc, ← e1]; rfl
                  · rw [if_neg hc] at e; simp [mapV] at e
                | _ => simp [mapV] at e
            · subst hA; simp [Act.exec, mapV] at e
          · subst hA; simp [Act.exec, mapV] at e
        · subst hA; simp [Act.exec, mapV] at e
      exact gen _ rfl hx
    · cases hs
  · grind
  · cases hx
theorem stA_congr (h : ∀ t ∈ readsOf ops o, E t = E' t) : stA E o = stA E' o := by
  have h := ev_congr h
  unfold stA
  cases hop : o.op <;> simp only [hop, Op.operands] at h ⊢
  rw [h _ (by simp)]
theorem stOK_congr {ks : List Nat} (hE : ∀ t ∈ readsOf ops o, E t = E' t) : stOK E o h ks ↔ stOK E' o h ks := by
  unfold stOK; rw [stA_congr hE]
theorem act_mka {nm : Nat} (hc : cls P ops o = .mka) {r : Res} (hx : act P C nm ops E L o h = some (r, h')) : (h' = h ∧ ∀ h2, act P C nm ops E L o h2 = some (r, h2)) ∨
    ∃ kt, h.fresh nm ∧ h' = h.mkm nm kt ∧ ∀ h2 : AHeap, h2.fresh nm → act P C nm ops E L o h2 = some (r, h2.mkm nm kt) := by
  unfold act at hx ⊢
  split at hx
  · refine .inr ?_
    unfold ex at hx ⊢
    cases hop : o.op <;> simp only [hop] at hx ⊢ <;> try (unfold cls at hc; simp only [hop] at hc; contradiction)
    case makeMap t x =>
      have gen : ∀ A : Act, (∀ h x h', A.exec h = some (x, h') → ∃ kt, h.fresh nm ∧ h' = h.mkm nm kt ∧ ∀ h2 : AHeap, h2.fresh nm → A.exec h2 = some (x, h2.mkm nm kt)) → mapV (A.exec h) = some (r, h') →
          ∃ kt, h.fresh nm ∧ h' = h.mkm nm kt ∧ ∀ h2 : AHeap, h2.fresh nm → mapV (A.exec h2) = some (r, h2.mkm nm kt) := by
        intro A hA e
        obtain ⟨v, e1, rfl⟩ := mapV_some e
        obtain ⟨kt, a, c, d⟩ := hA _ _ _ e1
        exact ⟨kt, a, c, fun h2 a => by rw [d h2 a]; rfl⟩
      have one : ∀ (ty : TypeId) h x h', (Act.ask Nat (mpNewAt nm ty) fun m => .val (.map (some m))).exec h = some (x, h') → ∃ kt, h.fresh nm ∧ h' = h.mkm nm kt ∧ ∀ h2 : AHeap, h2.fresh nm → (Act.ask Nat (mpNewAt nm ty) fun m => .val (.map (some m))).exec h2 = some (x, h2.mkm nm kt) := by
        intro ty h x h' e
        simp only [Act.exec, mpNewAt, AHeap.fresh, Option.isNone_iff_eq_none] at e ⊢
        grind
      refine gen _ ?_ hx
      unfold aop
      simp only [hop]
      repeat' (first | exact one _ | (intro h x h' e; simp [Act.exec] at e; done) | split)
    all_goals
      unfold cls at hc
      simp only [hop] at hc
      grind [addCls_ro, addCls_mro, addCls_alloc, addCls_mka]
  · cases hx; exact .inl ⟨rfl, fun _ => rfl⟩
  · cases hx
theorem act_mo {nm : Nat} {mo : FuncId → Bool} (HM : ∀ f vs ca, mo f = true → C.st f vs = some ca → MoM ca.m) (hc : moCall mo o = true) {k : Nat} {kt : TypeId} (h1 : h.fresh k) {r : Res}
    (hx : act P C nm ops E L o (h.mkm k kt) = some (r, h')) : ∃ h3, act P C nm ops E L o h = some (r, h3) ∧ h3.fresh k ∧ h' = h3.mkm k kt := by
  unfold act at hx ⊢
  split at hx
  · unfold moCall at hc
    split at hc
    · rename_i c hop
      split at hc
      · rename_i f hf
        have hb : isBuiltin c = false := by unfold isBuiltin; rw [hf]
        have hd : dySlot C c = none := by unfold dySlot; rw [hf]
        unfold ex at hx ⊢
        simp only [hop, hb, hd] at hx ⊢
        cases hev : E.evs c.args.toList with
        | none =>
          grind [callee]
        | some vs =>
          have : callee E c = some (f, vs) := by unfold callee; rw [hf, hev]; simp [Env.ev]
          simp only [this] at hx ⊢
          split at hx
          · rename_i ca hca
            split at hx
            · rename_i x h4 hm
              cases hx
              obtain ⟨h3, q1, q2, q3⟩ := (HM f vs ca hc hca).1 h k kt x h' h1 hm
              exact ⟨h3, by simp only [q1], q2, q3⟩
            · cases hx
          · cases hx
      · cases hc
    · cases hc
  · cases hx; exact ⟨h, rfl, h1, rfl⟩
  · cases hx
theorem act_keep {nm : Nat} {mo : FuncId → Bool} (HM : ∀ f vs ca, mo f = true → C.st f vs = some ca → MoM ca.m) (hc : moCall mo o = true) {r : Res}
    (hx : act P C nm ops E L o h = some (r, h')) : h'.mget = h.mget := by
  unfold act at hx
  split at hx
  · unfold moCall at hc
    split at hc
    · rename_i c hop
      split at hc
      · rename_i f hf
        have hb : isBuiltin c = false := by unfold isBuiltin; rw [hf]
        have hd : dySlot C c = none := by unfold dySlot; rw [hf]
        unfold ex at hx
        simp only [hop, hb, hd] at hx
        cases hev : E.evs c.args.toList with
        | none =>
          grind [callee]
        | some vs =>
          have : callee E c = some (f, vs) := by unfold callee; rw [hf, hev]; simp [Env.ev]
          simp only [this] at hx
          split at hx
          · rename_i ca hca
            split at hx
            · rename_i x h4 hm
              cases hx
              exact (HM f vs ca hc hca).2 h x _ hm
            · cases hx
          · cases hx
      · cases hc
    · cases hc
  · cases hx; rfl
  · cases hx
/-- A block that no one has touched may be made behind this. -/
def AntiB {α : Type} (k : Nat) (m : M α) : Prop := ∀ (h : AHeap) t cs (x : α) (h2 : AHeap), h.used k = false → k < h.next → h.get k = none → m (h.putB k h.next t cs) = some (x, h2) →
  ∃ h3, m h = some (x, h3) ∧ h3.used k = false ∧ k < h3.next ∧ h3.get k = none ∧ h2 = h3.putB k h3.next t cs
theorem chkB_some {α : Type} {k : Nat} {m : M α} {h : AHeap} {x : α} {h1 : AHeap} (hx : chkB k m h = some (x, h1)) : m h = some (x, h1) ∧ BP k m h x h1 := by
  unfold chkB at hx
  split at hx
  · split at hx
    · rename_i hm _ hb _; cases hx; exact ⟨hm, hb⟩
    · cases hx
  · cases hx
theorem chkB_mk {α : Type} {k : Nat} {m : M α} {h : AHeap} {x : α} {h1 : AHeap} (hm : m h = some (x, h1)) (hb : BP k m h x h1) : chkB k m h = some (x, h1) := by
  unfold chkB
  rw [hm]
  simp only
  split
  · rfl
  · rename_i hn _; exact absurd hb hn
theorem chkB_anti {α : Type} (k : Nat) (m : M α) : AntiB k (chkB k m) := fun h t cs x h2 h1 h3 h4 hx => by
  obtain ⟨hm, hb⟩ := chkB_some hx
  obtain ⟨h5, q1, q2, q3, q4, q5⟩ := hb h t cs h1 h3 h4 rfl
  refine ⟨h5, chkB_mk q1 ?_, q2, q3, q4, q5⟩
  intro h0 t' cs' _ _ _ e
  rw [e] at h1
  simp [AHeap.putB, Nat.beq_refl] at h1
theorem act_b {nm : Nat} {f : FuncId} (hc : sCall o = some f) {k : Nat} (HB : ∀ vs ca, C.st f vs = some ca → AntiB k ca.m) {t : TypeId} {cs : List Value} (h1 : h.used k = false) (h2 : k < h.next) (h3 : h.get k = none) {r : Res}
    (hx : act P C nm ops E L o (h.putB k h.next t cs) = some (r, h')) : ∃ h3, act P C nm ops E L o h = some (r, h3) ∧ h3.used k = false ∧ k < h3.next ∧ h3.get k = none ∧ h' = h3.putB k h3.next t cs := by
  unfold act at hx ⊢
  split at hx
  · unfold sCall at hc
    split at hc
    · rename_i c hop
      split at hc
      · rename_i g hf
        cases hc
        have hb : isBuiltin c = false := by unfold isBuiltin; rw [hf]
        have hd : dySlot C c = none := by unfold dySlot; rw [hf]
        unfold ex at hx ⊢
        simp only [hop, hb, hd] at hx ⊢
        cases hev : E.evs c.args.toList with
        | none =>
          grind [callee]
        | some vs =>
          have : callee E c = some (f, vs) := by unfold callee; rw [hf, hev]; simp [Env.ev]
          simp only [this] at hx ⊢
          split at hx
          · rename_i ca hca
            split at hx
            · rename_i x h4 hm
              cases hx
              obtain ⟨h5, q1, q2, q3, q4, q5⟩ := HB vs ca hca h t cs x h' h1 h2 h3 hm
              exact ⟨h5, by simp only [q1], q2, q3, q4, q5⟩
            · cases hx
          · cases hx
      · cases hc
    · cases hc
  · cases hx; exact ⟨h, rfl, h1, h2, h3, rfl⟩
  · cases hx
theorem sCall_st {p : Oper} {f : FuncId} (h : sCall p = some f) : isSt p = false := by
  grind [sCall, isSt]
theorem mkm_get {k : Nat} {kt : TypeId} : (h.mkm k kt).get = h.get := rfl
theorem putB_mkm' {h : AHeap} {k k' nx : Nat} (hk : k ≠ k') {kt t : TypeId} {cs : List Value} : (h.mkm k kt).putB k' nx t cs = (h.putB k' nx t cs).mkm k kt := by
  unfold AHeap.putB AHeap.mkm AHeap.mset
  simp only [AHeap.mk.injEq, true_and, and_true]
  funext j
  cases q1 : Nat.beq j k <;> cases q2 : Nat.beq j k' <;> simp
theorem fresh_putB {h : AHeap} {k k' : Nat} {t : TypeId} {cs : List Value} (hf : h.fresh k) (hk : k ≠ k') : (h.putB k' h.next t cs).fresh k := by
  have : Nat.beq k k' = false := by cases e : Nat.beq k k' <;> grind [Nat.eq_of_beq_eq_true]
  obtain ⟨a, b, c, d⟩ := hf
  exact ⟨by simp [AHeap.putB, this, a], b, c, by simp [AHeap.putB, this, d]⟩
theorem fresh_of_putB {h : AHeap} {k k' : Nat} {t : TypeId} {cs : List Value} (hf : (h.putB k' h.next t cs).fresh k) (hk : k ≠ k') : h.fresh k := by
  have : Nat.beq k k' = false := by cases e : Nat.beq k k' <;> grind [Nat.eq_of_beq_eq_true]
  obtain ⟨a, b, c, d⟩ := hf
  exact ⟨by simpa [AHeap.putB, this] using a, b, c, by simpa [AHeap.putB, this] using d⟩
end Classes

/-! Two steps that change places. -/
section Swap
variable {C : Ctab} {W : Wr} {nb : Nat} {ops : Array Oper} {Af : Nat → Option Addr} {Ck : Nat → List (Option Addr)} {Kk : Nat → List Nat}
theorem memN_iff {l : List Nat} {i : Nat} : memN l i = true ↔ i ∈ l := by
  grind [memN, List.any_eq_true, Nat.eq_of_beq_eq_true, Nat.beq_refl]
theorem res_other {E : Env} {L : LEnv} {d : Option Nat} {r : Res} {t : Nat} (h : d ≠ some t) : E.res d r t = E t ∧ L.res d r t = L t := by
  cases d with
  | none => cases r <;> exact ⟨rfl, rfl⟩
  | some i =>
    have : Nat.beq t i = false := by
      cases hb : Nat.beq t i
      · rfl
      simp_all
    cases r <;> simp [Env.res, LEnv.res, Env.put, Env.set, Env.del, LEnv.put, LEnv.del, this]
theorem res_comm {E : Env} {L : LEnv} {d e : Option Nat} {r u : Res} (h : ∀ i, d = some i → e ≠ some i) :
    (E.res d r).res e u = (E.res e u).res d r ∧ (L.res d r).res e u = (L.res e u).res d r := by
  constructor <;> funext t
  · by_cases hd : d = some t
    · have he := h t hd
      rw [(res_other (E := E.res d r) (L := L) (r := u) he).1]
      subst hd; cases r <;> simp [Env.res, Env.put, Env.set, Env.del]
    · rw [(res_other (E := E.res e u) (L := L) (r := r) hd).1]
      by_cases he : e = some t
      · subst he; cases u <;> simp [Env.res, Env.put, Env.set, Env.del]
      · rw [(res_other (E := E.res d r) (L := L) (r := u) he).1, (res_other (E := E) (L := L) (r := r) hd).1, (res_other (E := E) (L := L) (r := u) he).1]
  · by_cases hd : d = some t
    · have he := h t hd
      rw [(res_other (E := E) (L := L.res d r) (r := u) he).2]
      subst hd; cases r <;> simp [LEnv.res, LEnv.put, LEnv.del]
    · rw [(res_other (E := E) (L := L.res e u) (r := r) hd).2]
      by_cases he : e = some t
      · subst he; cases u <;> simp [LEnv.res, LEnv.put, LEnv.del]
      · rw [(res_other (E := E) (L := L.res d r) (r := u) he).2, (res_other (E := E) (L := L) (r := r) hd).2, (res_other (E := E) (L := L) (r := u) he).2]
theorem putB_comm {h : AHeap} {k1 k2 : Nat} (hk : k1 ≠ k2) {t1 t2 : TypeId} {c1 c2 : List Value} :
    (h.putB k1 h.next t1 c1).putB k2 h.next t2 c2 = (h.putB k2 h.next t2 c2).putB k1 h.next t1 c1 := by
  have hb : ∀ j, Nat.beq j k1 = true → Nat.beq j k2 = false := fun j e => by
    cases e2 : Nat.beq j k2
    · rfl
    · exact absurd ((Nat.eq_of_beq_eq_true e).symm.trans (Nat.eq_of_beq_eq_true e2)) hk
  unfold AHeap.putB
  simp only [AHeap.mk.injEq, idO_eq, true_and, and_true]
  refine ⟨?_, ?_, ?_⟩ <;> funext j
  · cases e1 : Nat.beq j k1
    · rfl
    · simp [hb j e1]
  · cases e1 : Nat.beq j (k1 + 1)
    · simp
    · have : Nat.beq j (k2 + 1) = false := by
        cases e2 : Nat.beq j (k2 + 1)
        · rfl
        · have h1 := Nat.eq_of_beq_eq_true e1; have h2 := Nat.eq_of_beq_eq_true e2; omega
      simp [this]
  · cases e1 : Nat.beq j k1
    · rfl
    · simp [hb j e1]
theorem new_putB {h : AHeap} {k : Nat} (hk : k ≠ h.next) {t1 t2 : TypeId} {c1 c2 : List Value} : (h.putB k h.next t1 c1).new t2 c2 = (h.new t2 c2).putB k (h.new t2 c2).next t1 c1 := by
  have hb : ∀ j a b, a ≠ b → Nat.beq j a = true → Nat.beq j b = false := fun j a b hab e => by
    cases e2 : Nat.beq j b
    · rfl
    · exact absurd ((Nat.eq_of_beq_eq_true e).symm.trans (Nat.eq_of_beq_eq_true e2)) hab
  unfold AHeap.new AHeap.putB
  simp only [AHeap.mk.injEq, idO_eq, true_and, and_true]
  refine ⟨?_, ?_, ?_⟩ <;> funext j
  · cases e1 : Nat.beq j k
    · rfl
    · simp [hb j k h.next hk e1]
  · cases e1 : Nat.beq j (k + 1)
    · rfl
    · simp [hb j (k + 1) (h.next + 1) (by omega) e1]
  · cases e1 : Nat.beq j k
    · rfl
    · simp [hb j k h.next hk e1]
theorem core {mo : FuncId → Bool} (HM : ∀ f vs ca, mo f = true → C.st f vs = some ca → MoM ca.m) {i j : Nat} {o p : Oper} {ck : Bool} (HB : ck = true → isAlc (cls P ops o) = true → ∀ f, sCall p = some f → ∀ vs ca, C.st f vs = some ca → AntiB (nb + i) ca.m) {E : Env} {L : LEnv} {h h1 h2 : AHeap} {r u : Res} (hij : i ≠ j)
    (hsw : (match cls P ops o, cls P ops p with
      | .sil, _ | _, .sil | .ro, .ro | .ro, .alloc | .ro, .add | .alloc, .alloc => true
      | .ro, .mro | .mro, .ro | .mro, .mro | .mro, .alloc | .mro, .add | .alloc, .mro | .add, .mro => true
      | .ro, .eff => ck && ckOp ops p
      | .alloc, .eff => ck && (isSt p || (sCall p).isSome)
      | .ro, .mka | .mka, .ro | .mka, .alloc | .alloc, .mka | .mro, .mka => true
      | .mka, .eff | .mro, .eff => moCall mo p
      | .add, .alloc => capA ops o
      | _, _ => false) = true) (hkk : ck = true → isAlc (cls P ops o) = true → nb + i ∈ Kk j) (si : want ops E o = some true → stOK E o h (Kk i)) (sj : want ops E p = some true → stOK E p h1 (Kk j)) (hck : ck = true → Af i ∈ Ck j) (hrd : want ops E o = some true → readAt E o = Af i)
    (hi : act P C (nb + i) ops E L o h = some (r, h1)) (ci : ckOp ops o = true → sameAt h h1 (Ck i) = true)
    (hj : act P C (nb + j) ops E L p h1 = some (u, h2)) (cj : ckOp ops p = true → sameAt h1 h2 (Ck j) = true) :
    ∃ h3, act P C (nb + j) ops E L p h = some (u, h3) ∧ act P C (nb + i) ops E L o h3 = some (r, h2) ∧
      (ckOp ops p = true → sameAt h h3 (Ck j) = true) ∧ (ckOp ops o = true → sameAt h3 h2 (Ck i) = true) ∧
      (want ops E p = some true → stOK E p h (Kk j)) ∧ (want ops E o = some true → stOK E o h3 (Kk i)) := by
  have noSt : ∀ {q : Oper} {hh : AHeap} {ks : List Nat}, cls P ops q ≠ .eff → want ops E q = some true → stOK E q hh ks := fun hq _ hs => absurd (st_eff hs) hq
  -- the first one does not look, or the second one does not
  have first : h1 = h → cls P ops o ≠ .eff → (∀ h2, act P C (nb + i) ops E L o h2 = some (r, h2)) → ∃ h3, act P C (nb + j) ops E L p h = some (u, h3) ∧ act P C (nb + i) ops E L o h3 = some (r, h2) ∧
      (ckOp ops p = true → sameAt h h3 (Ck j) = true) ∧ (ckOp ops o = true → sameAt h3 h2 (Ck i) = true) ∧
      (want ops E p = some true → stOK E p h (Kk j)) ∧ (want ops E o = some true → stOK E o h3 (Kk i)) := by
    grind [sameAt_refl]
  have second : h2 = h1 → cls P ops p ≠ .eff → act P C (nb + j) ops E L p h = some (u, h) → ∃ h3, act P C (nb + j) ops E L p h = some (u, h3) ∧ act P C (nb + i) ops E L o h3 = some (r, h2) ∧
      (ckOp ops p = true → sameAt h h3 (Ck j) = true) ∧ (ckOp ops o = true → sameAt h3 h2 (Ck i) = true) ∧
      (want ops E p = some true → stOK E p h (Kk j)) ∧ (want ops E o = some true → stOK E o h3 (Kk i)) := by
    grind [sameAt_refl]
  have noCk : ∀ {q : Oper}, cls P ops q ≠ .eff → ∀ {X : Prop}, ckOp ops q = true → X := fun hq X hc => absurd (ckOp_eff hc) hq
  cases ho : cls P ops o
  case sil => grind [act_sil]
  case add =>
    cases hp : cls P ops p <;> rw [ho, hp] at hsw
    case sil => grind [act_sil]
    case mro => grind [act_mro, act_add_m, ME.of]
    case alloc =>
      rcases act_alloc hp hj with ⟨e1, e3⟩ | ⟨t, cs, a1, a2, a3, rfl, a4⟩
      · exact second e1 (by rw [hp]; simp) (e3 _)
      rcases act_cap hsw ho hi with ⟨rfl, q⟩ | ⟨hn, ⟨rfl, q⟩ | ⟨e, ds, rfl, q⟩⟩
      · exact first rfl (by rw [ho]; simp) q
      · exact ⟨_, hj, q _ (sm_putB a2 a3 hn), noCk (by rw [hp]; simp), noCk (by rw [ho]; simp), noSt (by rw [hp]; simp), noSt (by rw [ho]; simp)⟩
      · have hne : Nat.beq (nb + j) h.next = false := by
          cases e2 : Nat.beq (nb + j) h.next
          · rfl
          · simp [AHeap.new, AHeap.putB, e2] at a1
        have hnx : nb + j ≠ h.next := fun e3 => by rw [e3, Nat.beq_refl] at hne; cases hne
        have b1 : h.used (nb + j) = false := by simpa [AHeap.new, AHeap.putB, hne] using a1
        have b2 : nb + j < h.next := by have : nb + j < h.next + 1 := a2; omega
        have b3 : h.get (nb + j) = none := by simpa [AHeap.new, AHeap.putB, hne] using a3
        refine ⟨_, a4 h b1 b2 b3, ?_, noCk (by rw [hp]; simp), noCk (by rw [ho]; simp), noSt (by rw [hp]; simp), noSt (by rw [ho]; simp)⟩
        rw [q _ (sm_putB b2 b3 hn)]
        congr 2
        exact new_putB hnx
    all_goals cases hsw
  case mro =>
    obtain ⟨rfl, e2⟩ := act_mro ho hi
    cases hp : cls P ops p <;> rw [ho, hp] at hsw
    case sil => grind [act_sil]
    case ro => obtain ⟨rfl, _⟩ := act_ro hp hj; exact second rfl (by rw [hp]; simp) hj
    case mro => obtain ⟨rfl, _⟩ := act_mro hp hj; exact second rfl (by rw [hp]; simp) hj
    case alloc =>
      rcases act_alloc hp hj with ⟨e1, e3⟩ | ⟨t, cs, a1, a2, a3, rfl, a4⟩
      · exact second e1 (by rw [hp]; simp) (e3 _)
      · exact ⟨_, hj, e2 _ (ME.of rfl), noCk (by rw [hp]; simp), noCk (by rw [ho]; simp), noSt (by rw [hp]; simp), noSt (by rw [ho]; simp)⟩
    case add => exact ⟨_, hj, e2 _ (ME.of (act_add_m hp hj)), noCk (by rw [hp]; simp), noCk (by rw [ho]; simp), noSt (by rw [hp]; simp), noSt (by rw [ho]; simp)⟩
    case eff => exact ⟨_, hj, e2 _ (ME.of (act_keep HM hsw hj)), cj, noCk (by rw [ho]; simp), sj, noSt (by rw [ho]; simp)⟩
    case mka =>
      rcases act_mka hp hj with ⟨e1, e3⟩ | ⟨kt, a1, rfl, a4⟩
      · exact second e1 (by rw [hp]; simp) (e3 _)
      · refine ⟨_, hj, e2 _ fun m x hm => ?_, noCk (by rw [hp]; simp), noCk (by rw [ho]; simp), noSt (by rw [hp]; simp), noSt (by rw [ho]; simp)⟩
        have hn : Nat.beq m (nb + j) = false := by
          cases q : Nat.beq m (nb + j)
          · rfl
          · rw [Nat.eq_of_beq_eq_true q, a1.2.2.1] at hm; cases hm
        simp [AHeap.mkm, AHeap.mset, hn, hm]
    all_goals cases hsw
  case eff =>
    cases hp : cls P ops p <;> rw [ho, hp] at hsw
    case sil => grind [act_sil]
    all_goals cases hsw
  case ro =>
    obtain ⟨rfl, e2⟩ := act_ro ho hi
    rcases e2 with e2 | ⟨hw, b, hb, hn, e2⟩
    · exact first rfl (by rw [ho]; simp) e2
    · cases hp : cls P ops p
      case sil => grind [act_sil]
      case ro => obtain ⟨rfl, _⟩ := act_ro hp hj; exact second rfl (by rw [hp]; simp) hj
      case mro => obtain ⟨rfl, _⟩ := act_mro hp hj; exact second rfl (by rw [hp]; simp) hj
      case alloc =>
        rcases act_alloc hp hj with ⟨e1, e3⟩ | ⟨t, cs, a1, a2, a3, rfl, a4⟩
        · exact second e1 (by rw [hp]; simp) (e3 _)
        · refine ⟨_, hj, e2 _ (SameC.of ?_), noCk (by rw [hp]; simp), noCk (by rw [ho]; simp), noSt (by rw [hp]; simp), noSt (by rw [ho]; simp)⟩
          have : Nat.beq b.block (nb + j) = false := by
            cases e : Nat.beq b.block (nb + j)
            · rfl
            · rw [Nat.eq_of_beq_eq_true e] at hn; exact absurd a3 hn
          simp [AHeap.putB, this]
      case add => exact ⟨_, hj, e2 _ (SameC.of (act_add hp hj _ hn)), noCk (by rw [hp]; simp), noCk (by rw [ho]; simp), noSt (by rw [hp]; simp), noSt (by rw [ho]; simp)⟩
      case mka =>
        rcases act_mka hp hj with ⟨e1, e3⟩ | ⟨kt, a1, rfl, a4⟩
        · exact second e1 (by rw [hp]; simp) (e3 _)
        · exact ⟨_, hj, e2 _ (SameC.of rfl), noCk (by rw [hp]; simp), noCk (by rw [ho]; simp), noSt (by rw [hp]; simp), noSt (by rw [ho]; simp)⟩
      case eff =>
        rw [ho, hp] at hsw
        simp only [Bool.and_eq_true] at hsw
        have hm := hck hsw.1
        rw [← hrd hw, hb] at hm
        exact ⟨_, hj, e2 _ (sameAt_mem (cj hsw.2) hm), cj, noCk (by rw [ho]; simp), sj, noSt (by rw [ho]; simp)⟩
  case mka =>
    cases hp : cls P ops p <;> rw [ho, hp] at hsw
    case sil => grind [act_sil]
    case ro =>
      obtain ⟨rfl, e2⟩ := act_ro hp hj
      rcases act_mka ho hi with ⟨e1, e3⟩ | ⟨kt, a1, rfl, a4⟩
      · exact first e1 (by rw [ho]; simp) e3
      rcases e2 with e2 | ⟨hw, b, hb, hn, e2⟩
      · exact second rfl (by rw [hp]; simp) (e2 _)
      · exact second rfl (by rw [hp]; simp) (e2 _ (SameC.of rfl))
    case eff =>
      rcases act_mka ho hi with ⟨e1, e3⟩ | ⟨kt, a1, rfl, a4⟩
      · exact first e1 (by rw [ho]; simp) e3
      obtain ⟨h3, q1, q2, rfl⟩ := act_mo HM hsw a1 hj
      refine ⟨h3, q1, a4 h3 q2, fun hcp => ?_, noCk (by rw [ho]; simp), fun _ hs => ?_, noSt (by rw [ho]; simp)⟩
      · have hsm := cj hcp
        refine sameAt_mk fun x hx b hb => ?_
        subst hb
        exact (sameAt_mem hsm hx).cast rfl rfl
      grind [moCall, isSt]
    case alloc =>
      rcases act_mka ho hi with ⟨e1, e3⟩ | ⟨kt, a1, rfl, a4⟩
      · exact first e1 (by rw [ho]; simp) e3
      rcases act_alloc hp hj with ⟨e1, e3⟩ | ⟨t, cs, b1, b2, b3, rfl, b4⟩
      · exact second e1 (by rw [hp]; simp) (e3 _)
      have hne : Nat.beq (nb + j) (nb + i) = false := by
        grind [Nat.eq_of_beq_eq_true]
      have hne' : Nat.beq (nb + i) (nb + j) = false := by
        grind [Nat.eq_of_beq_eq_true]
      have c1 : h.used (nb + j) = false := by simpa [AHeap.mkm, hne] using b1
      refine ⟨_, b4 h c1 b2 b3, ?_, noCk (by rw [hp]; simp), noCk (by rw [ho]; simp), noSt (by rw [hp]; simp), noSt (by rw [ho]; simp)⟩
      rw [a4 _ (fresh_putB a1 (by omega)), putB_mkm' (by omega)]
      rfl
    all_goals cases hsw
  case alloc =>
    cases hp : cls P ops p
    case sil => grind [act_sil]
    case mka =>
      rcases act_alloc ho hi with ⟨e1, e3⟩ | ⟨t, cs, b1, b2, b3, rfl, b4⟩
      · exact first e1 (by rw [ho]; simp) e3
      rcases act_mka hp hj with ⟨e1, e3⟩ | ⟨kt, a1, rfl, a4⟩
      · exact second e1 (by rw [hp]; simp) (e3 _)
      have hne : Nat.beq (nb + j) (nb + i) = false := by
        grind [Nat.eq_of_beq_eq_true]
      have hne' : Nat.beq (nb + i) (nb + j) = false := by
        grind [Nat.eq_of_beq_eq_true]
      refine ⟨_, a4 h (fresh_of_putB a1 (by omega)), ?_, noCk (by rw [hp]; simp), noCk (by rw [ho]; simp), noSt (by rw [hp]; simp), noSt (by rw [ho]; simp)⟩
      rw [b4 (h.mkm (nb + j) kt) (by simp [AHeap.mkm, hne', b1]) b2 b3, putB_mkm' (by omega)]
      rfl
    case mro =>
      obtain ⟨e1, e2⟩ := act_mro hp hj
      rcases act_alloc ho hi with ⟨rfl, _⟩ | ⟨t, cs, a1, a2, a3, rfl, a4⟩
      · exact second e1 (by rw [hp]; simp) (e2 _ (ME.of rfl))
      · exact second e1 (by rw [hp]; simp) (e2 _ (ME.of rfl))
    case alloc =>
      rcases act_alloc ho hi with ⟨e1, e2⟩ | ⟨t, cs, a1, a2, a3, rfl, a4⟩
      · exact first e1 (by rw [ho]; simp) e2
      rcases act_alloc hp hj with ⟨e1, e2⟩ | ⟨t', cs', b1, b2, b3, rfl, b4⟩
      · exact second e1 (by rw [hp]; simp) (e2 _)
      have hne : Nat.beq (nb + j) (nb + i) = false := by
        grind [Nat.eq_of_beq_eq_true]
      have hne' : Nat.beq (nb + i) (nb + j) = false := by
        grind [Nat.eq_of_beq_eq_true]
      simp only [AHeap.putB, hne, cond_false, idO_eq] at b1 b2 b3
      refine ⟨_, b4 h b1 b2 b3, ?_, noCk (by rw [hp]; simp), noCk (by rw [ho]; simp), noSt (by rw [hp]; simp), noSt (by rw [ho]; simp)⟩
      have := a4 (h.putB (nb + j) h.next t' cs') (by simp [AHeap.putB, hne', a1]) a2 (by simp [AHeap.putB, hne', a3])
      rw [this]
      congr 2
      exact (putB_comm (by omega)).symm
    case eff =>
      rw [ho, hp] at hsw
      simp only [Bool.and_eq_true] at hsw
      obtain ⟨hc1, hst⟩ := hsw
      rcases act_alloc ho hi with ⟨e1, e2⟩ | ⟨t, cs, a1, a2, a3, rfl, a4⟩
      · exact first e1 (by rw [ho]; simp) e2
      have hk := hkk hc1 (by rw [ho]; rfl)
      cases hsc : sCall p with
      | some f =>
        obtain ⟨h3, q1, q2, q3, q4, rfl⟩ := act_b hsc (HB hc1 (by rw [ho]; rfl) f hsc) a1 a2 a3 hj
        refine ⟨h3, q1, a4 h3 q2 q3 q4, fun hcp => ?_, noCk (by rw [ho]; simp), fun _ hs => ?_, noSt (by rw [ho]; simp)⟩
        · have hsm := cj hcp
          refine sameAt_mk fun x hx b hb => ?_
          subst hb
          have h5 := sameAt_mem hsm hx
          cases q5 : Nat.beq b.block (nb + i)
          · exact h5.cast (by simp [AHeap.putB, q5]) (by simp [AHeap.putB, q5])
          · refine SameC.of ?_
            rw [Nat.eq_of_beq_eq_true q5, q4, a3]
        · rw [sCall_st hsc] at hs; cases hs
      | none =>
      rw [hsc] at hst
      simp only [Option.isSome_none, Bool.or_false] at hst
      rcases act_store hst hj with ⟨e1, e2, e3⟩ | ⟨hw, a, vs, c, g, base, e, b1, b2, rfl, b4⟩
      · grind [sameAt_refl, absurd]
      · have hne : Kk j ≠ [] := List.ne_nil_of_mem hk
        obtain ⟨a', c1, c2⟩ := sj hw hst hne
        rw [b1] at c1; cases c1
        have c2' := c2
        unfold okK at c2
        rw [b2] at c2
        have c3 := List.all_eq_true.1 c2 _ hk
        simp only [Bool.and_eq_true, Bool.not_eq_true'] at c3
        obtain ⟨d1, d2⟩ := c3
        have hga : (h.putB (nb + i) h.next t cs).get a.block = h.get a.block := by simp [AHeap.putB, d1]
        have b2' : h.get a.block = some (.cells c g base e) := by rw [← hga]; exact b2
        have hka : Nat.beq (nb + i) a.block = false := by
          cases hb : Nat.beq (nb + i) a.block
          · rfl
          grind [Nat.eq_of_beq_eq_true, Nat.beq_refl]
        have hkg : Nat.beq (nb + i + 1) g = false := by
          grind [Nat.eq_of_beq_eq_true, Nat.beq_refl]
        have hnone : (h.upd a.block (splice c a.off vs) g base e).get (nb + i) = none := by simp [AHeap.upd, hka, a3]
        have hcomm : (h.upd a.block (splice c a.off vs) g base e).putB (nb + i) h.next t cs = (h.putB (nb + i) h.next t cs).upd a.block (splice c a.off vs) g base e := by
          unfold AHeap.putB AHeap.upd
          simp only [AHeap.mk.injEq, true_and, and_true]
          funext q
          cases q1 : Nat.beq q (nb + i)
          · cases q2 : Nat.beq q a.block <;> simp [q1]
          grind [Nat.eq_of_beq_eq_true]
        refine ⟨_, b4 h b2', ?_, fun hcp => ?_, noCk (by rw [ho]; simp), fun _ _ _ => ⟨a, b1, ?_⟩, noSt (by rw [ho]; simp)⟩
        · have := a4 (h.upd a.block (splice c a.off vs) g base e) a1 a2 hnone
          rw [this]
          congr 2
        · have hsm := cj hcp
          refine sameAt_mk fun x hx b hb => ?_
          subst hb
          have h5 := sameAt_mem hsm hx
          cases q1 : Nat.beq b.block (nb + i)
          · exact h5.cast (by simp [AHeap.putB, q1]) (by simp [AHeap.upd, AHeap.putB, q1])
          · refine SameC.of ?_
            rw [Nat.eq_of_beq_eq_true q1, hnone, a3]
        grind [okK]
    all_goals
      rw [ho, hp] at hsw; cases hsw
theorem swap_ok {mo : FuncId → Bool} (HM : ∀ f vs ca, mo f = true → C.st f vs = some ca → MoM ca.m) {i j : Nat} {o p : Oper} {ck : Bool} (HB : ck = true → isAlc (cls P ops o) = true → ∀ f, sCall p = some f → ∀ vs ca, C.st f vs = some ca → AntiB (nb + i) ca.m) {s s1 s2 : St} (ho : ops[i]? = some o) (hp : ops[j]? = some p) (hij : i ≠ j) (hsw : swaps P mo ops o p ck = true) (hck : ck = true → Af i ∈ Ck j) (hkk : ck = true → isAlc (cls P ops o) = true → nb + i ∈ Kk j)
    (h1 : Step P C W nb ops Af Ck Kk i s s1) (h2 : Step P C W nb ops Af Ck Kk j s1 s2) : ∃ s1', Step P C W nb ops Af Ck Kk j s s1' ∧ Step P C W nb ops Af Ck Kk i s1' s2 := by
  obtain ⟨E, L, h⟩ := s
  obtain ⟨E1, L1, h1'⟩ := s1
  obtain ⟨E2, L2, h2'⟩ := s2
  obtain ⟨o', r, ho', hWi, hri, hai, e1, e2, hci, hsi⟩ := h1
  obtain ⟨p', u, hp', hWj, hrj, haj, e3, e4, hcj, hsj⟩ := h2
  rw [ho] at ho'; cases ho'
  rw [hp] at hp'; cases hp'
  simp only at *
  subst e1; subst e2; subst e3; subst e4
  unfold swaps at hsw
  rw [Bool.and_eq_true] at hsw
  obtain ⟨hap, hsw⟩ := hsw
  unfold apart at hap
  simp only [Bool.and_eq_true] at hap
  obtain ⟨⟨q1, q2⟩, q3⟩ := hap
  have d1 : ∀ t ∈ readsOf ops p, o.dst ≠ some t := by
    grind [Bool.not_eq_true', memN_iff]
  have d2 : ∀ t ∈ readsOf ops o, p.dst ≠ some t := by
    grind [Bool.not_eq_true', memN_iff]
  have d3 : ∀ t, o.dst = some t → p.dst ≠ some t := by
    intro t e1 e2
    rw [e1, e2] at q3; simp at q3
  have cE : ∀ t ∈ readsOf ops p, E.res o.dst r t = E t := fun t ht => (res_other (L := L) (d1 t ht)).1
  have cL : ∀ t ∈ readsOf ops p, L.res o.dst r t = L t := fun t ht => (res_other (E := E) (d1 t ht)).2
  have cE' : ∀ t ∈ readsOf ops o, E.res p.dst u t = E t := fun t ht => (res_other (L := L) (d2 t ht)).1
  have cL' : ∀ t ∈ readsOf ops o, L.res p.dst u t = L t := fun t ht => (res_other (E := E) (d2 t ht)).2
  rw [act_congr cE cL] at haj
  obtain ⟨h3, g1, g2, g3, g4, g5, g6⟩ := core HM HB hij hsw hkk hsi (fun hw => (stOK_congr cE).1 (hsj (by rw [want_congr cE]; exact hw))) hck hri hai hci haj hcj
  refine ⟨(E.res p.dst u, L.res p.dst u, h3), ⟨p, u, hp, hWj, ?_, g1, rfl, rfl, g3, g5⟩, ⟨o, r, ho, hWi, ?_, ?_, ?_, ?_, g4, fun hw => (stOK_congr cE').2 (g6 (by rw [← want_congr cE']; exact hw))⟩⟩
  · intro hw
    rw [← readAt_congr cE]; exact hrj (by rw [want_congr cE]; exact hw)
  · intro hw
    rw [readAt_congr cE']; exact hri (by rw [← want_congr cE']; exact hw)
  · simp only; rw [act_congr cE' cL']; exact g2
  · exact (res_comm (L := L) d3).1
  · exact (res_comm (E := E) d3).2
end Swap

/-! Any order that may be drawn. -/
theorem bindsAny_eq (e : Edge) : bindsAny e = Region.binds .any e := by
  unfold bindsAny Region.binds; split <;> simp_all
theorem preds_spec {ops : Array Oper} {σ : List Nat} (hn : σ.Nodup) (hr : ∀ i o e, ops[i]? = some o → e ∈ o.after.toList → bindsAny e = true → Bef σ e.on i) :
    ∀ (rest : List Oper) (acc : List (List Nat)), (∀ n o, rest[n]? = some o → ops[acc.length + n]? = some o) → (∀ j i, i ∈ acc.getD j [] → Bef σ i j) →
      ∀ j i, i ∈ (rest.foldl (fun acc o => acc ++ [(o.after.toList.filter bindsAny).flatMap fun e => e.on :: acc.getD e.on []]) acc).getD j [] → Bef σ i j
  | [], acc, _, ha, j, i, hi => ha j i hi
  | o :: rest, acc, hs, ha, j, i, hi => by
    refine preds_spec hn hr rest _ ?_ ?_ j i hi
    · intro n o' ho'
      have := hs (n + 1) o' (by simpa using ho')
      grind
    · intro j i hi
      have ho := hs 0 o rfl
      simp only [Nat.add_zero] at ho
      rcases Nat.lt_trichotomy j acc.length with hj | hj | hj
      · grind
      · subst hj
        simp only [List.getD_eq_getElem?_getD, List.getElem?_append, Nat.lt_irrefl, if_false, Nat.sub_self, List.getElem?_cons_zero, Option.getD_some, List.mem_flatMap, List.mem_filter] at hi
        obtain ⟨e, ⟨he, hb⟩, hi⟩ := hi
        have h1 := hr _ o e ho he hb
        rcases List.mem_cons.1 hi with rfl | hi
        · exact h1
        · exact bef_trans hn (ha e.on i (by rw [List.getD_eq_getElem?_getD]; exact hi)) h1
      grind
theorem pairs_spec {mo : FuncId → Bool} {ops : Array Oper} {pr : List (List Nat)} : ∀ {l : List (Nat × List Nat)}, pairsOK P mo ops pr l = true → ∀ i j, Bef (l.map (·.1)) i j →
    ∃ cj, (j, cj) ∈ l ∧ (i ∈ pr.getD j [] ∨ ∃ o p, ops[i]? = some o ∧ ops[j]? = some p ∧ swaps P mo ops o p (memN cj i) = true)
  | [], _, _, _, hb => by cases hb
  | (a, c) :: l, hp, i, j, hb => by
    unfold pairsOK at hp
    rw [Bool.and_eq_true, List.all_eq_true] at hp
    obtain ⟨h1, h2⟩ := hp
    cases hb with
    | cons _ hb =>
      obtain ⟨cj, h3, h4⟩ := pairs_spec h2 i j hb
      exact ⟨cj, List.mem_cons_of_mem _ h3, h4⟩
    | cons_cons _ hb =>
      have : j ∈ l.map (·.1) := hb.subset (by simp)
      obtain ⟨⟨j', cj⟩, hm, e⟩ := List.mem_map.1 this
      simp only at e; subst e
      refine ⟨cj, List.mem_cons_of_mem _ hm, ?_⟩
      have h3 := h1 _ hm
      simp only [Bool.or_eq_true] at h3
      grind [memN_iff]
theorem denOps_any {R : Type} {C : Ctab} {W : Wr} {nb : Nat} {ops : Array Oper} {l : List (Nat × List Nat)} {E : Env} {K : Env → M R} {h : AHeap} {r : R × AHeap} (HM : ∀ f vs ca, C.mo f = true → C.st f vs = some ca → MoM ca.m)
    (HB : ∀ (j : Nat) cs (i : Nat) o p f, (j, cs) ∈ l → i ∈ cs → ops[i]? = some o → isAlc (cls P ops o) = true → ops[j]? = some p → sCall p = some f → ∀ vs ca, C.st f vs = some ca → AntiB (nb + i) ca.m) (hok : drawOK P C.mo ops l = true) (t : Nat)
    (hx : denOps P C W (some nb) ops l E LEnv.emp (fun _ => none) K h = some r) :
    denOps P C W (some nb) ops ((Region.schedule (P.follows .mixedOrders) ops t).map fun i => (i, [])) E LEnv.emp (fun _ => none) K h = some r := by
  unfold drawOK at hok
  simp only [Bool.and_eq_true] at hok
  obtain ⟨⟨⟨hmx, hpm⟩, hed⟩, hpr⟩ := hok
  rw [Region.schedule, hmx, Bool.true_or, if_pos rfl]
  have hpm := List.isPerm_iff.1 hpm
  have hlt : ∀ i o e, ops[i]? = some o → e ∈ o.after.toList → Region.binds .any e = true → e.on < i := by
    intro i o e ho he hb
    rw [List.all_eq_true] at hed
    have h1 := hed (o, i) (by
      rw [List.mem_zipIdx_iff_getElem?]; simpa using ho)
    simp only [List.all_eq_true] at h1
    have h2 := h1 e he
    rw [bindsAny_eq, hb] at h2
    simp_all
  obtain ⟨s1, s2, s3⟩ := linearise_spec hlt t
  generalize Region.linearise .any ops t = σ at s1 s2 s3
  have hnd : (l.map (·.1)).Nodup := (hpm.nodup_iff).2 List.nodup_range
  obtain ⟨Af, Ck, Kk, E', L', h', hrun, hK, hks⟩ := denOps_fwd l E LEnv.emp (fun _ => none) h hnd hx
  have hp := preds_spec (ops := ops) s1 (fun i o e a b c => s3 i o e a b (by rw [← bindsAny_eq]; exact c)) ops.toList [] (by simp) (by simp)
  have hany := Run.any σ (l.map (·.1)) (hpm.trans s2.symm) (fun i j hij hji s s1' s2' q1 q2 => by
    obtain ⟨cj, hm, hc⟩ := pairs_spec hpr i j hij
    rcases hc with hc | ⟨o, p, ho, hp', hsw⟩
    · exact absurd hji fun hji => bef_asymm s1 (hp j i hc) hji
    · refine swap_ok HM (fun hck hal f hf => HB j cj i o p f hm (memN_iff.1 hck) ho hal hp' hf) ho hp' ?_ hsw ?_ ?_ q1 q2
      · rintro rfl
        exact bef_asymm hnd hij hij
      · grind [memN_iff]
      · intro hck hal
        have hmem := memN_iff.1 hck
        rw [(hks j cj hm i hmem).2.2]
        unfold ksOf
        grind) hrun
  exact denOps_bwd σ _ (E, LEnv.emp, h) (E', L', h') hany hK
end Go.Ago
