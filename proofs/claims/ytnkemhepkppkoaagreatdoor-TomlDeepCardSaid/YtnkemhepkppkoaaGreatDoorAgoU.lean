/-
A region that draws its order, and whose calls may end in a panic. No theorem about the program stands here.
-/
import Derived.Test.YtnkemhepkppkoaaGreatDoorAgoT
set_option linter.all false
namespace Go.Ago
open Go
variable {P : Program} {h h' h1 : AHeap} {C : Ctab}

/-- The table where such a call does not end in a panic. -/
def Ctab.ok (C : Ctab) : Ctab := { C with
  st := fun f vs => match C.st f vs with
    | some ca => some ca
    | none => (match C.sp f vs with
      | some ca => some ⟨ca.α, fun h => match ca.m h with | some (.inl x, h') => some (x, h') | _ => none, ca.pk⟩
      | none => none)
  mo := C.mo'
  sp := fun _ _ => none
  isP := fun _ => false }
def mark {α : Type} : α ⊕ Value → Value
  | .inl _ => .tuple #[]
  | .inr v => .tuple #[v]
/-- The table where a panic gives a mark. -/
def Ctab.mk' (C : Ctab) : Ctab := { C with
  st := fun f vs => match C.st f vs with
    | some ca => some ca
    | none => (match C.sp f vs with
      | some ca => some ⟨ca.α ⊕ Value, ca.m, mark⟩
      | none => none)
  mo := C.mo' }
theorem denOp_up {R : Type} {C' : Ctab} (h1 : ∀ f vs ca, C.st f vs = some ca → C'.st f vs = some ca) (h2 : C'.dy = C.dy) (h3 : C'.isDy = C.isDy) {W : Wr} {nm : Option Nat} {cks : List (Option Addr)} {ks : List Nat} {ops : Array Oper} {E : Env} {L : LEnv} {o : Oper} {K : Env → LEnv → M R} {r : R × AHeap}
    (hx : denOp P C W nm cks ks ops E L o K h = some r) : denOp P C' W nm cks ks ops E L o K h = some r := by
  have hd : ∀ c, dySlot C' c = dySlot C c := fun c => by unfold dySlot; rw [h3]
  generalize hm : denOp P C W nm cks ks ops E L o K = m at hx
  unfold denOp at hm ⊢
  cases hW : inW W o.dst
  · rw [hW] at hm; subst hm; simp [M.fail] at hx
  rw [hW] at hm
  cases hop : o.op <;> simp only [hop] at hm ⊢ <;> try (subst hm; exact hx)
  case call c =>
    simp only [hd, h2]
    cases hb : isBuiltin c <;> simp only [hb] at hm ⊢
    · cases hs : dySlot C c with
      | some t => rw [hs] at hm; subst hm; exact hx
      | none =>
        rw [hs] at hm
        simp only at hm ⊢
        cases hc : callee E c with
        | none => rw [hc] at hm; subst hm; simp [M.fail] at hx
        | some q =>
          obtain ⟨f, vs⟩ := q
          rw [hc] at hm
          simp only at hm ⊢
          cases hst : C.st f vs with
          | none => rw [hst] at hm; subst hm; simp [M.fail] at hx
          | some ca => rw [hst] at hm; rw [h1 _ _ _ hst]; subst hm; exact hx
    · subst hm; exact hx
theorem ok_st (f : FuncId) (vs : List Value) (ca : CallAct) (h : C.st f vs = some ca) : C.ok.st f vs = some ca := by simp only [Ctab.ok, h]
theorem mk_st (f : FuncId) (vs : List Value) (ca : CallAct) (h : C.st f vs = some ca) : C.mk'.st f vs = some ca := by simp only [Ctab.mk', h]
/-- What a call is that may end in a panic. -/
theorem panCall_spec {E : Env} {o : Oper} {ca : PAct} (hp : panCall C E o = some ca) : isPanCall C o = true ∧ ∃ c f vs, o.op = .call c ∧ c.callee = .value (.func f) ∧ C.isP f = true ∧ callee E c = some (f, vs) ∧ C.sp f vs = some ca := by
  unfold panCall at hp
  cases hi : isPanCall C o with
  | false => rw [hi] at hp; cases hp
  | true =>
    rw [hi] at hp
    refine ⟨rfl, ?_⟩
    unfold isPanCall at hi
    cases hop : o.op <;> simp only [hop] at hi hp <;> try (cases hi; done)
    rename_i c
    split at hi
    · rename_i f hf
      cases hcal : callee E c with
      | none => rw [hcal] at hp; cases hp
      | some q =>
        obtain ⟨g, vs⟩ := q
        rw [hcal] at hp
        have : g = f := by
          unfold callee at hcal
          rw [hf] at hcal
          cases he : E.evs c.args.toList with
          | none => rw [he] at hcal; cases hcal
          | some ws => rw [he] at hcal; simp [Env.ev] at hcal; exact hcal.1.symm
        grind
    · cases hi
theorem static_call {c : Call} {f : FuncId} (hf : c.callee = .value (.func f)) : isBuiltin c = false ∧ dySlot C c = none := by
  unfold isBuiltin dySlot; rw [hf]; exact ⟨rfl, rfl⟩
/-- One operation: as if there were no panics, or with one. -/
theorem denOpD_cases {R : Type} (hdis : ∀ f vs, C.isP f = true → C.st f vs = none) {W : Wr} {nm : Option Nat} {cks : List (Option Addr)} {ks : List Nat} {ops : Array Oper} {E : Env} {L : LEnv} {o : Oper} {pan : Value → M R} {K : Env → LEnv → M R} {r : R × AHeap}
    (hx : denOpD P C W nm cks ks ops E L o pan K h = some r) :
    denOp P C W nm cks ks ops E L o K h = some r ∨ (isPanCall C o = true ∧ denOp P C.ok W nm cks ks ops E L o K h = some r) ∨
    (isPanCall C o = true ∧ ∀ Kp : Env → LEnv → M R, (∀ E' L' h' v, (∀ d, o.dst = some d → E' d = some (.tuple #[v])) → pan v h' = some r → Kp E' L' h' = some r) → denOp P C.mk' W nm cks ks ops E L o Kp h = some r) := by
  generalize hm : denOpD P C W nm cks ks ops E L o pan K = m at hx
  unfold denOpD at hm
  cases hp : panCall C E o with
  | none => rw [hp] at hm; subst hm; exact .inl hx
  | some ca =>
    rw [hp] at hm
    obtain ⟨hi, c, f, vs, hop, hf, hisp, hcal, hsp⟩ := panCall_spec hp
    have hst := hdis f vs hisp
    have hok : C.ok.st f vs = some ⟨ca.α, fun h => match ca.m h with | some (.inl x, h') => some (x, h') | _ => none, ca.pk⟩ := by simp only [Ctab.ok, hst, hsp]
    have hmk : C.mk'.st f vs = some ⟨ca.α ⊕ Value, ca.m, mark⟩ := by simp only [Ctab.mk', hst, hsp]
    obtain ⟨hb, hds⟩ := static_call (C := C) hf
    have hds1 : dySlot C.ok c = none := (static_call hf).2
    have hds2 : dySlot C.mk' c = none := (static_call hf).2
    cases hW : inW W o.dst with
    | false => rw [hW] at hm; subst hm; simp [M.fail] at hx
    | true =>
      rw [hW] at hm
      subst hm
      simp only [M.bind] at hx
      split at hx
      · rename_i y h2 hy
        obtain ⟨hy1, hy2⟩ := wrapM_spec hy
        cases y with
        | inl x =>
          refine .inr (.inl ⟨hi, ?_⟩)
          unfold denOp
          simp only [hW, hop, hb, hds1, hcal, hok, M.bind]
          have : wrapM cks (fun h => match ca.m h with | some (.inl x, h') => some (x, h') | _ => none) h = some (x, h2) := by
            unfold wrapM
            cases cks with
            | nil => simp only [hy1]
            | cons a as =>
              grind [sameAt, chk]
          rw [this]
          exact hx
        | inr v =>
          refine .inr (.inr ⟨hi, fun Kp hKp => ?_⟩)
          unfold denOp
          simp only [hW, hop, hb, hds2, hcal, hmk, M.bind, hy]
          refine hKp _ _ _ v (fun d hd => ?_) hx
          rw [hd]
          show Env.set E d _ d = _
          simp [Env.set, mark]
      · cases hx
/-- What is looked at behind a mark. -/
def atMark {R : Type} (pan : Value → M R) (d : Option Nat) : Env → M R := fun E => match d with
  | some d => (match E d with
    | some (.tuple cs) => (match cs.toList with | [v] => pan v | _ => M.fail)
    | _ => M.fail)
  | none => M.fail
theorem atMark_of {R : Type} {pan : Value → M R} {d : Nat} {E : Env} {v : Value} {r : R × AHeap} (he : E d = some (.tuple #[v])) (hx : pan v h = some r) : atMark pan (some d) E h = some r := by
  simp only [atMark, he]; exact hx
theorem of_atMark {R : Type} {pan : Value → M R} {d : Option Nat} {E : Env} {r : R × AHeap} (hx : atMark pan d E h = some r) : ∃ d0 v, d = some d0 ∧ E d0 = some (.tuple #[v]) ∧ pan v h = some r := by
  cases d with
  | none => simp [atMark, M.fail] at hx
  | some d =>
    unfold atMark at hx
    cases he : E d with
    | none => simp [he, M.fail] at hx
    | some cv =>
      simp only [he] at hx
      cases cv <;> try (simp [M.fail] at hx; done)
      rename_i cs
      simp only at hx
      cases hc : cs.toList with
      | nil => simp [hc, M.fail] at hx
      | cons v vs =>
        cases vs with
        | nil =>
          simp only [hc] at hx
          refine ⟨d, v, rfl, ?_, hx⟩
          have : cs = #[v] := Array.ext' (by simpa using hc)
          rw [he, this]
        | cons u us => simp [hc, M.fail] at hx
/-- What stands behind an operation may be exchanged. -/
theorem denOp_cont {R : Type} {W : Wr} {nm : Option Nat} {cks : List (Option Addr)} {ks : List Nat} {ops : Array Oper} {E : Env} {L : LEnv} {o : Oper} {K : Env → LEnv → M R} {r : R × AHeap}
    (hx : denOp P C W nm cks ks ops E L o K h = some r) : ∃ E' L' h', K E' L' h' = some r ∧ ∀ (R2 : Type) (K2 : Env → LEnv → M R2) (r2 : R2 × AHeap), K2 E' L' h' = some r2 → denOp P C W nm cks ks ops E L o K2 h = some r2 := by
  have run : ∀ A : Act, A.run (fun v => K (E.put o.dst v) (L.del o.dst)) h = some r → ∃ E' L' h', K E' L' h' = some r ∧ ∀ (R2 : Type) (K2 : Env → LEnv → M R2) (r2 : R2 × AHeap), K2 E' L' h' = some r2 → A.run (fun v => K2 (E.put o.dst v) (L.del o.dst)) h = some r2 := by
    grind [run_some]
  unfold denOp at hx ⊢
  cases hW : inW W o.dst
  · rw [hW] at hx; simp [M.fail] at hx
  rw [hW] at hx
  cases hop : o.op <;> simp only [hop] at hx ⊢ <;> try (exact run _ hx)
  case pick c a b =>
    cases hc : E.ev c with
    | none => rw [hc] at hx; simp [M.fail] at hx
    | some cv =>
      rw [hc] at hx
      cases cv <;> simp only at hx ⊢ <;> try (simp [M.fail] at hx; done)
      rename_i t
      cases t
      · simp only [iteB, Bool.false_eq_true, if_false] at hx ⊢
        cases hv : (E.learn c false).ev b with
        | none => rw [hv] at hx; simp [M.fail] at hx
        | some v => rw [hv] at hx; exact ⟨_, _, h, hx, fun R2 K2 r2 q => q⟩
      · simp only [iteB, if_true] at hx ⊢
        cases hv : (E.learn c true).ev a with
        | none => rw [hv] at hx; simp [M.fail] at hx
        | some v => rw [hv] at hx; exact ⟨_, _, h, hx, fun R2 K2 r2 q => q⟩
  case call c =>
    have bind : ∀ (ca : CallAct), (M.bind (wrapM cks ca.m) fun x => K (E.put o.dst (ca.pk x)) (L.del o.dst)) h = some r → ∃ E' L' h', K E' L' h' = some r ∧ ∀ (R2 : Type) (K2 : Env → LEnv → M R2) (r2 : R2 × AHeap), K2 E' L' h' = some r2 →
        (M.bind (wrapM cks ca.m) fun x => K2 (E.put o.dst (ca.pk x)) (L.del o.dst)) h = some r2 := by
      grind [M.bind]
    cases hb : isBuiltin c <;> simp only [hb] at hx ⊢
    · cases hs : dySlot C c with
      | some t =>
        rw [hs] at hx
        simp only at hx ⊢
        cases hc : calleeD E t c with
        | none => rw [hc] at hx; simp [M.fail] at hx
        | some q =>
          obtain ⟨x, vs⟩ := q
          rw [hc] at hx
          simp only at hx ⊢
          cases hd : C.dy t x vs with
          | none => rw [hd] at hx; simp [M.fail] at hx
          | some ca => rw [hd] at hx; exact bind ca hx
      | none =>
        rw [hs] at hx
        simp only at hx ⊢
        cases hc : callee E c with
        | none => rw [hc] at hx; simp [M.fail] at hx
        | some q =>
          obtain ⟨f, vs⟩ := q
          rw [hc] at hx
          simp only at hx ⊢
          cases hd : C.st f vs with
          | none => rw [hd] at hx; simp [M.fail] at hx
          | some ca => rw [hd] at hx; exact bind ca hx
    · cases hl : litArg L c with
      | none =>
        rw [hl] at hx
        simp only at hx ⊢
        cases hlx : laxA ops o <;> rw [hlx] at hx
        · exact run _ hx
        · simp [M.fail] at hx
      | some q => obtain ⟨n, cs⟩ := q; rw [hl] at hx; exact run _ hx
  case store t x v =>
    cases ks with
    | nil => exact run _ hx
    | cons k ks =>
      simp only at hx ⊢
      cases hv : E.ev x with
      | none => rw [hv] at hx; simp [M.fail] at hx
      | some xv =>
        rw [hv] at hx
        cases xv <;> try (simp [M.fail] at hx; done)
        rename_i pa
        cases pa with
        | none => simp [M.fail] at hx
        | some a => exact run _ hx
  case buildSlice t n ps =>
    cases hl : litOf P ops E o with
    | none => rw [hl] at hx; exact run _ hx
    | some q => rw [hl] at hx; exact ⟨_, _, h, hx, fun R2 K2 r2 q => q⟩
def isPanI (C : Ctab) (ops : Array Oper) (i : Nat) : Bool := match ops[i]? with | some o => isPanCall C o | none => false
/-- A region in an order of its own: as if there were no panics, or a first part that ends with one. -/
theorem denOpsD_cases {R : Type} (hdis : ∀ f vs, C.isP f = true → C.st f vs = none) {W : Wr} {nb : Option Nat} {ops : Array Oper} {pan : Value → M R} {K : Env → M R} {r : R × AHeap} (hdst : ∀ (i : Nat) o, ops[i]? = some o → isPanCall C o = true → o.dst.isSome = true) :
    ∀ (l : List (Nat × List Nat)) (E : Env) (L : LEnv) (A : AEnv) (h : AHeap), l.Pairwise (fun a b => isPanI C ops a.1 = true → isPanI C ops b.1 = false) → denOpsD P C W nb ops pan l E L A K h = some r →
      denOps P C.ok W nb ops l E L A K h = some r ∨
      ∃ l1 i c l2 o, l = l1 ++ (i, c) :: l2 ∧ ops[i]? = some o ∧ isPanCall C o = true ∧ denOps P C.mk' W nb ops (l1 ++ [(i, c)]) E L A (atMark pan o.dst) h = some r
  | [], E, L, A, h, _, hx => .inl hx
  | (i, c) :: l, E, L, A, h, hpw, hx => by
    have ih := denOpsD_cases hdis (W := W) (nb := nb) (pan := pan) (K := K) (r := r) hdst l
    obtain ⟨hp1, hp2⟩ := List.pairwise_cons.1 hpw
    have byRun : ∀ (o : Oper) (E1 : Env) (A' : AEnv), ops[i]? = some o → (∀ (X : Ctab) (t : List (Nat × List Nat)) (K' : Env → M R), denOps P X W nb ops ((i, c) :: t) E L A K' = denOp P X W (nb.map (· + i)) (c.map A) (ksOf P ops nb c) ops E1 L o fun E' L' => denOps P X W nb ops t E' L' A' K') →
        denOpD P C W (nb.map (· + i)) (c.map A) (ksOf P ops nb c) ops E1 L o pan (fun E' L' => denOpsD P C W nb ops pan l E' L' A' K) h = some r →
        denOps P C.ok W nb ops ((i, c) :: l) E L A K h = some r ∨
        ∃ l1 i1 c1 l2 o, (i, c) :: l = l1 ++ (i1, c1) :: l2 ∧ ops[i1]? = some o ∧ isPanCall C o = true ∧ denOps P C.mk' W nb ops (l1 ++ [(i1, c1)]) E L A (atMark pan o.dst) h = some r := by
      intro o E1 A' ho heq hx
      rcases denOpD_cases hdis hx with q | ⟨hi, q⟩ | ⟨hi, q⟩
      · obtain ⟨E', L', h', q1, q2⟩ := denOp_cont q
        rcases ih E' L' A' h' hp2 q1 with hl | ⟨l1, i1, c1, l2, o1, e1, e2, e3, e4⟩
        · exact .inl (by rw [heq]; exact denOp_up ok_st rfl rfl (q2 _ _ _ hl))
        · exact .inr ⟨(i, c) :: l1, i1, c1, l2, o1, by rw [e1]; rfl, e2, e3, by rw [List.cons_append, heq]; exact denOp_up mk_st rfl rfl (q2 _ _ _ e4)⟩
      · obtain ⟨E', L', h', q1, q2⟩ := denOp_cont q
        rcases ih E' L' A' h' hp2 q1 with hl | ⟨l1, i1, c1, l2, o1, e1, e2, e3, e4⟩
        · exact .inl (by rw [heq]; exact q2 _ _ _ hl)
        · have := hp1 (i1, c1) (by rw [e1]; simp) (by simp only [isPanI, ho, hi])
          simp only [isPanI, e2, e3] at this
          cases this
      · refine .inr ⟨[], i, c, l, o, rfl, ho, hi, ?_⟩
        rw [List.nil_append, heq]
        refine q _ fun E' L' h' v hv hpv => ?_
        have hd := hdst i o ho hi
        cases hod : o.dst with
        | none => rw [hod] at hd; cases hd
        | some d => exact atMark_of (hv d hod) hpv
    have bySkip : ∀ (E2 : Env) (L2 : LEnv), (∀ (X : Ctab) (t : List (Nat × List Nat)) (K' : Env → M R), denOps P X W nb ops ((i, c) :: t) E L A K' = denOps P X W nb ops t E2 L2 A K') →
        denOpsD P C W nb ops pan l E2 L2 A K h = some r →
        denOps P C.ok W nb ops ((i, c) :: l) E L A K h = some r ∨
        ∃ l1 i1 c1 l2 o, (i, c) :: l = l1 ++ (i1, c1) :: l2 ∧ ops[i1]? = some o ∧ isPanCall C o = true ∧ denOps P C.mk' W nb ops (l1 ++ [(i1, c1)]) E L A (atMark pan o.dst) h = some r := by
      intro E2 L2 heq hx
      rcases ih E2 L2 A h hp2 hx with hl | ⟨l1, i1, c1, l2, o1, e1, e2, e3, e4⟩
      · exact .inl (by rw [heq]; exact hl)
      · exact .inr ⟨(i, c) :: l1, i1, c1, l2, o1, by rw [e1]; rfl, e2, e3, by rw [List.cons_append, heq]; exact e4⟩
    generalize hm : denOpsD P C W nb ops pan ((i, c) :: l) E L A K = m at hx
    unfold denOpsD at hm
    cases ho : ops[i]? with
    | none => rw [ho] at hm; subst hm; simp [M.fail] at hx
    | some o =>
      rw [ho] at hm
      simp only at hm
      cases hg : o.guard with
      | none =>
        rw [hg] at hm
        subst hm
        exact byRun o E _ ho (fun X t K' => by rw [denOps]; simp only [ho, hg]) hx
      | some jw =>
        obtain ⟨j, w⟩ := jw
        rw [hg] at hm
        simp only at hm
        cases ht : (ops[j]?).bind (·.dst) with
        | none => rw [ht] at hm; subst hm; simp [M.fail] at hx
        | some t0 =>
          rw [ht] at hm
          simp only at hm
          cases hE : E t0 with
          | none => rw [hE] at hm; subst hm; simp [M.fail] at hx
          | some v =>
            rw [hE] at hm
            cases v <;> simp only at hm <;> try (subst hm; simp [M.fail] at hx; done)
            · rename_i b
              cases w <;> cases b <;> simp only [iteB, Bool.false_eq_true, if_false, if_true] at hm
              · subst hm
                exact byRun o _ _ ho (fun X t K' => by rw [denOps]; simp only [ho, hg, ht, hE, iteB, Bool.false_eq_true, if_false]) hx
              · cases hW : inW W o.dst with
                | false => rw [hW] at hm; subst hm; simp [M.fail] at hx
                | true =>
                  rw [hW] at hm; subst hm
                  exact bySkip _ _ (fun X t K' => by rw [denOps]; simp only [ho, hg, ht, hE, iteB, if_true, hW]) hx
              · cases hW : inW W o.dst with
                | false => rw [hW] at hm; subst hm; simp [M.fail] at hx
                | true =>
                  rw [hW] at hm; subst hm
                  exact bySkip _ _ (fun X t K' => by rw [denOps]; simp only [ho, hg, ht, hE, iteB, Bool.false_eq_true, if_false, hW]) hx
              · subst hm
                exact byRun o _ _ ho (fun X t K' => by rw [denOps]; simp only [ho, hg, ht, hE, iteB, if_true]) hx
            · cases hW : inW W o.dst with
              | false => rw [hW] at hm; subst hm; simp [M.fail] at hx
              | true =>
                rw [hW] at hm; subst hm
                exact bySkip _ _ (fun X t K' => by rw [denOps]; simp only [ho, hg, ht, hE, hW]) hx

/-! Neutral operations. -/
theorem neutral_panArg {ops : Array Oper} {o : Oper} (hn : neutral (cls P ops o) = true) : panArg o = none := by
  unfold panArg
  cases hop : o.op <;> simp only <;> try rfl
  · rename_i c
    split
    · rename_i x hc ha
      exfalso
      unfold cls at hn
      simp only [hop, hc] at hn
      cases hn
    · rfl
  · exfalso
    unfold cls at hn
    simp only [hop] at hn
    cases hn
theorem neutral_call {ops : Array Oper} {o : Oper} (hn : neutral (cls P ops o) = true) {c : Call} (hop : o.op = .call c) : isBuiltin c = true := by
  unfold cls at hn
  simp only [hop] at hn
  unfold isBuiltin
  cases hc : c.callee <;> simp only [hc] at hn ⊢ <;> first | rfl | cases hn
theorem panCall_eff {ops : Array Oper} {o : Oper} (hi : isPanCall C o = true) : cls P ops o = .eff := by
  unfold isPanCall at hi
  cases hop : o.op <;> simp only [hop] at hi <;> try (cases hi; done)
  grind [cls]
theorem ex_neutral {ops : Array Oper} {o : Oper} (hn : neutral (cls P ops o) = true) {nm : Nat} {E : Env} {L : LEnv} : ex P C.mk' nm ops E L o h = ex P C nm ops E L o h := by
  unfold ex
  cases hop : o.op <;> simp only
  rename_i c
  simp only [neutral_call hn hop]
theorem act_neutral {ops : Array Oper} {o : Oper} (hn : neutral (cls P ops o) = true) {nm : Nat} {E : Env} {L : LEnv} {r : Res} (hx : act P C nm ops E L o h = some (r, h')) : h' = h := by
  cases hc : cls P ops o <;> rw [hc] at hn <;> try (cases hn; done)
  · exact (act_sil hc hx).1
  · exact (act_ro hc hx).1
  · exact (act_mro hc hx).1
theorem Run.split {S : Type} {St : Nat → S → S → Prop} : ∀ (a : List Nat) {b : List Nat} {s f : S}, Run St (a ++ b) s f → ∃ m, Run St a s m ∧ Run St b m f
  | [], b, s, f, hr => ⟨s, .nil s, hr⟩
  | x :: a, b, s, f, .cons h1 h2 =>
    let ⟨m, q1, q2⟩ := Run.split a h2
    ⟨m, .cons h1 q1, q2⟩
section
variable {R : Type} {W : Wr} {nb : Nat} {ops : Array Oper} {Af : Nat → Option Addr} {Ck : Nat → List (Option Addr)} {Kk : Nat → List Nat}
/-- Neutral steps leave the heap, and a slot that none of them writes. -/
theorem run_neutral {d : Nat} : ∀ {l : List Nat} {s f : St}, (∀ j ∈ l, ∃ p, ops[j]? = some p ∧ neutral (cls P ops p) = true) → (∀ j ∈ l, ∀ p, ops[j]? = some p → p.dst ≠ some d) → Run (Step P C W nb ops Af Ck Kk) l s f → f.2.2 = s.2.2 ∧ f.1 d = s.1 d
  | [], s, f, _, _, hr => by cases hr; exact ⟨rfl, rfl⟩
  | j :: l, s, f, h1, h2, .cons (s1 := s1) ⟨o, r, ho, hW, _, hact, e1, e2, _⟩ hr => by
    obtain ⟨q1, q2⟩ := run_neutral (fun j hj => h1 j (List.mem_cons_of_mem _ hj)) (fun j hj => h2 j (List.mem_cons_of_mem _ hj)) hr
    obtain ⟨p, hp, hn⟩ := h1 j (List.mem_cons_self ..)
    rw [ho] at hp; cases hp
    refine ⟨q1.trans (act_neutral hn hact), q2.trans ?_⟩
    rw [e1]
    exact (res_other (L := s.2.1) (h2 j (List.mem_cons_self ..) o ho)).1
/-- From neutral steps, and a call that ends in a panic, back to the order. -/
theorem bwdP {pan : Value → M R} {K : Env → M R} {q : R × AHeap} {rest : List Nat} : ∀ (l : List Nat) (s m : St), (∀ j ∈ l, ∃ p, ops[j]? = some p ∧ neutral (cls P ops p) = true) → Run (Step P C.mk' W nb ops Af Ck Kk) l s m → denOpsP P C W (some nb) ops pan rest m.1 m.2.1 K m.2.2 = some q →
    denOpsP P C W (some nb) ops pan (l ++ rest) s.1 s.2.1 K s.2.2 = some q
  | [], s, m, _, hr, hx => by cases hr; exact hx
  | i :: l, (E, L, h), m, h1, .cons (s1 := (E1, L1, h2)) ⟨o, r, ho, hW, _, hact, e1, e2, _⟩ hr, hx => by
    obtain ⟨p, hp, hn⟩ := h1 i (List.mem_cons_self ..)
    simp only at e1 e2 hact
    rw [ho] at hp; cases hp
    subst e1; subst e2
    have ih := bwdP (pan := pan) (K := K) (q := q) (rest := rest) l _ _ (fun j hj => h1 j (List.mem_cons_of_mem _ hj)) hr hx
    have hpc : ∀ E', panCall C E' o = none := fun E' => by
      unfold panCall
      cases hi : isPanCall C o with
      | false => rfl
      | true => rw [panCall_eff (P := P) (ops := ops) hi] at hn; cases hn
    have one : ∀ {E1 : Env} {r : Res} {h2 : AHeap}, ex P C (nb + i) ops E1 L o h = some (r, h2) → denOpsP P C W (some nb) ops pan (l ++ rest) (E1.res o.dst r) (L.res o.dst r) K h2 = some q →
        denOpP P C W ((some nb).map (· + i)) ops E1 L o pan (fun E' L' => denOpsP P C W (some nb) ops pan (l ++ rest) E' L' K) h = some q := by
      intro E1 r h2 he hk
      unfold denOpP
      simp only [neutral_panArg hn, hpc]
      exact denOp_bwd hW he hk
    rw [List.cons_append]
    unfold denOpsP
    simp only [ho]
    unfold act at hact
    unfold want at hact
    cases hg : o.guard with
    | none =>
      grind [ex_neutral]
    | some jw =>
      obtain ⟨j, w⟩ := jw
      simp only [hg] at hact ⊢
      cases ht : (ops[j]?).bind (·.dst) with
      | none => simp [ht] at hact
      | some t =>
        simp only [ht] at hact ⊢
        split at hact
        · rename_i hwt
          rw [ex_neutral hn] at hact
          split at hwt
          · rename_i b hb
            simp only [hb]
            cases w <;> cases b <;> simp at hwt
            · simp only [iteB, Bool.false_eq_true, if_false, set_same hb]; exact one hact ih
            · simp only [iteB, if_true, set_same hb]; exact one hact ih
          · simp at hwt
          · cases hwt
        · rename_i hwt
          cases hact
          split at hwt
          · rename_i b hb
            simp only [hb]
            cases w <;> cases b <;> simp at hwt
            · simp only [iteB, if_true, set_same hb, hW]; exact ih
            · simp only [iteB, Bool.false_eq_true, if_false, set_same hb, hW]; exact ih
          · rename_i vs hb
            simp only [hb, hW]; exact ih
          · cases hwt
        · cases hact
end
theorem panCall_panArg {o : Oper} (hi : isPanCall C o = true) : panArg o = none := by
  unfold isPanCall at hi
  unfold panArg
  grind
/-- The step of a call that ends in a panic. -/
theorem pan_step {R : Type} {W : Wr} {nb : Nat} {ops : Array Oper} {Af : Nat → Option Addr} {Ck : Nat → List (Option Addr)} {Kk : Nat → List Nat} (hdis : ∀ f vs, C.isP f = true → C.st f vs = none) {o : Oper} {i : Nat} (ho : ops[i]? = some o) (hi : isPanCall C o = true) {m m1 : St}
    (hs : Step P C.mk' W nb ops Af Ck Kk i m m1) {d : Nat} {v : Value} (hd : o.dst = some d) (he : m1.1 d = some (.tuple #[v])) {pan : Value → M R} {K : Env → M R} {q : R × AHeap} {rest : List Nat} (hp : pan v m1.2.2 = some q) :
    denOpsP P C W (some nb) ops pan (i :: rest) m.1 m.2.1 K m.2.2 = some q := by
  obtain ⟨E, L, h⟩ := m
  obtain ⟨o', r, ho', hW, _, hact, e1, _, _⟩ := hs
  rw [ho] at ho'; cases ho'
  simp only at e1 hact ⊢
  have hr : r = .val (.tuple #[v]) := by
    rw [e1, hd] at he
    cases r with
    | val u => simp [Env.res, Env.put, Env.set] at he; rw [he]
    | lit x => simp [Env.res, Env.del] at he
  subst hr
  have hex : ∀ {h2 : AHeap}, ex P C.mk' (nb + i) ops E L o h = some (.val (.tuple #[v]), h2) → ∃ ca, panCall C E o = some ca ∧ ca.m h = some (.inr v, h2) := by
    intro h2 hx
    have hi2 := hi
    unfold isPanCall at hi2
    unfold ex at hx
    cases hop : o.op <;> simp only [hop] at hi2 hx <;> try (cases hi2; done)
    rename_i c
    split at hi2
    · rename_i f hf
      obtain ⟨hb, hds⟩ := static_call (C := C.mk') hf
      simp only [hb, hds] at hx
      cases hcal : callee E c with
      | none => simp only [hcal] at hx; cases hx
      | some fv =>
        obtain ⟨g, vs⟩ := fv
        have hg : g = f := by
          unfold callee at hcal
          rw [hf] at hcal
          cases hev : E.evs c.args.toList with
          | none => rw [hev] at hcal; cases hcal
          | some ws => rw [hev] at hcal; simp [Env.ev] at hcal; exact hcal.1.symm
        subst hg
        simp only [hcal] at hx
        have hst := hdis g vs hi2
        cases hsp : C.sp g vs with
        | none =>
          grind [Ctab.mk']
        | some ca =>
          have : C.mk'.st g vs = some ⟨ca.α ⊕ Value, ca.m, mark⟩ := by simp only [Ctab.mk', hst, hsp]
          grind [panCall, mark, Option.some.injEq, Prod.mk.injEq, Res.val.injEq, Value.tuple.injEq]
    · cases hi2
  have one : ex P C.mk' (nb + i) ops E L o h = some (.val (.tuple #[v]), m1.2.2) → denOpP P C W ((some nb).map (· + i)) ops E L o pan (fun E' L' => denOpsP P C W (some nb) ops pan rest E' L' K) h = some q := by
    intro hx
    obtain ⟨ca, hc, hm⟩ := hex hx
    unfold denOpP
    simp only [panCall_panArg hi, hc, hW, M.bind, hm]
    exact hp
  have hun : undef ≠ .tuple #[v] := by
    intro e
    simp [undef] at e
  unfold denOpsP
  simp only [ho]
  unfold act at hact
  unfold want at hact
  cases hg : o.guard with
  | none =>
    simp only [hg] at hact
    exact one hact
  | some jw =>
    obtain ⟨j, w⟩ := jw
    simp only [hg] at hact ⊢
    cases ht : (ops[j]?).bind (·.dst) with
    | none => simp [ht] at hact
    | some t =>
      simp only [ht] at hact ⊢
      split at hact
      · rename_i hwt
        split at hwt
        · rename_i b hb
          simp only [hb]
          cases w <;> cases b <;> simp at hwt
          · simp only [iteB, Bool.false_eq_true, if_false, set_same hb]; exact one hact
          · simp only [iteB, if_true, set_same hb]; exact one hact
        · simp at hwt
        · cases hwt
      · grind
      · cases hact
theorem panOK_spec {ops : Array Oper} {pr : List (List Nat)} : ∀ (l1 : List Nat) (i : Nat) (l2 pre : List Nat), panOK P C ops pr pre (l1 ++ i :: l2) = true → isPanI C ops i = true →
    (∀ j ∈ l2, i ∈ pr.getD j []) ∧ (∀ j, j ∈ pre ∨ j ∈ l1 → ∃ p, ops[j]? = some p ∧ neutral (cls P ops p) = true)
  | [], i, l2, pre, h, hi => by
    rw [List.nil_append, panOK, Bool.and_eq_true] at h
    have h := h.1
    unfold isPanI at hi
    cases ho : ops[i]? with
    | none => rw [ho] at hi; cases hi
    | some o =>
      rw [ho] at h hi
      simp only at h hi
      rw [hi, Bool.not_true, Bool.false_or, Bool.and_eq_true, List.all_eq_true, List.all_eq_true] at h
      refine ⟨fun j hj => memN_iff.1 (h.1 j hj), fun j hj => ?_⟩
      grind
  | a :: l1, i, l2, pre, h, hi => by
    rw [List.cons_append, panOK, Bool.and_eq_true] at h
    obtain ⟨q1, q2⟩ := panOK_spec l1 i l2 (a :: pre) h.2 hi
    grind
theorem pairsOK_pre {mo : FuncId → Bool} {ops : Array Oper} {pr : List (List Nat)} : ∀ {a b : List (Nat × List Nat)}, pairsOK P mo ops pr (a ++ b) = true → pairsOK P mo ops pr a = true
  | [], b, h => rfl
  | (i, c) :: a, b, h => by
    rw [List.cons_append, pairsOK, Bool.and_eq_true, List.all_append, Bool.and_eq_true] at h
    rw [pairsOK, Bool.and_eq_true]
    exact ⟨h.1.1, pairsOK_pre h.2⟩
theorem apart_dst {ops : Array Oper} {o p : Oper} (h : apart ops o p = true) {d : Nat} (hd : p.dst = some d) : o.dst ≠ some d := by
  intro e
  unfold apart at h
  simp_all
/-- Whatever order is drawn: as if there were no panics, or to the panic. -/
theorem denOpsD_any {R : Type} {W : Wr} {nb : Nat} {ops : Array Oper} {l : List (Nat × List Nat)} {E : Env} {pan : Value → M R} {K : Env → M R} {r : R × AHeap} (HM : ∀ f vs ca, C.mo f = true → C.st f vs = some ca → MoM ca.m)
    (HB : ∀ (j : Nat) cs (i : Nat) o p f, (j, cs) ∈ l → i ∈ cs → ops[i]? = some o → isAlc (cls P ops o) = true → ops[j]? = some p → sCall p = some f → C.isP f = false ∧ ∀ vs ca, C.st f vs = some ca → AntiB (nb + i) ca.m)
    (hdis : ∀ f vs, C.isP f = true → C.st f vs = none) (hsp : ∀ f vs ca, C.sp f vs = some ca → C.isP f = true) (hok : drawOK P C.mo' ops l = true) (hpo : panOK P C ops (predsOf ops.toList) [] (l.map (·.1)) = true)
    (hdst : ∀ (i : Nat) o, ops[i]? = some o → isPanCall C o = true → o.dst.isSome = true) (t : Nat)
    (hx : denOpsD P C W (some nb) ops pan l E LEnv.emp (fun _ => none) K h = some r) :
    denOps P C.ok W (some nb) ops ((Region.schedule (P.follows .mixedOrders) ops t).map fun i => (i, [])) E LEnv.emp (fun _ => none) K h = some r ∨
    denOpsP P C W (some nb) ops pan (Region.schedule (P.follows .mixedOrders) ops t) E LEnv.emp K h = some r := by
  have hmo : ∀ {f vs ca}, C.mo' f = true → C.sp f vs = some ca → False := fun {f vs ca} h1 h2 => by
    grind [Ctab.mo']
  have hmo1 : ∀ {f}, C.mo' f = true → C.mo f = true := fun {f} h1 => by
    unfold Ctab.mo' at h1
    rw [Bool.and_eq_true] at h1; exact h1.1
  have HMok : ∀ f vs ca, C.ok.mo f = true → C.ok.st f vs = some ca → MoM ca.m := fun f vs ca h1 h2 => by
    have h1 : C.mo' f = true := h1
    grind [ok_st, Ctab.ok]
  have HMmk : ∀ f vs ca, C.mo' f = true → C.mk'.st f vs = some ca → MoM ca.m := fun f vs ca h1 h2 => by
    grind [mk_st, Ctab.mk']
  have HBok : ∀ (j : Nat) cs (i : Nat) o p f, (j, cs) ∈ l → i ∈ cs → ops[i]? = some o → isAlc (cls P ops o) = true → ops[j]? = some p → sCall p = some f → ∀ vs ca, C.ok.st f vs = some ca → AntiB (nb + i) ca.m :=
    fun j cs i o p f a1 a2 a3 a4 a5 a6 vs ca h2 => by
      obtain ⟨hp, hB⟩ := HB j cs i o p f a1 a2 a3 a4 a5 a6
      cases hst : C.st f vs with
      | some ca' => rw [ok_st _ _ _ hst] at h2; cases h2; exact hB vs _ hst
      | none =>
        grind [Ctab.ok]
  have HBmk : ∀ (j : Nat) cs (i : Nat) o p f, (j, cs) ∈ l → i ∈ cs → ops[i]? = some o → isAlc (cls P ops o) = true → ops[j]? = some p → sCall p = some f → ∀ vs ca, C.mk'.st f vs = some ca → AntiB (nb + i) ca.m :=
    fun j cs i o p f a1 a2 a3 a4 a5 a6 vs ca h2 => by
      obtain ⟨hp, hB⟩ := HB j cs i o p f a1 a2 a3 a4 a5 a6
      cases hst : C.st f vs with
      | some ca' => rw [mk_st _ _ _ hst] at h2; cases h2; exact hB vs _ hst
      | none =>
        simp only [Ctab.mk', hst] at h2
        cases hs : C.sp f vs with
        | none => rw [hs] at h2; cases h2
        | some ca' => rw [hsp _ _ _ hs] at hp; cases hp
  have hpw : l.Pairwise (fun a b => isPanI C ops a.1 = true → isPanI C ops b.1 = false) := by
    rw [List.pairwise_iff_getElem]
    intro i j hi hj hij ha
    cases hb : isPanI C ops l[j].1 with
    | false => rfl
    | true =>
      exfalso
      have e : l.map (·.1) = (l.map (·.1)).take j ++ l[j].1 :: (l.map (·.1)).drop (j + 1) := by
        grind [List.take_append_drop, List.drop_eq_getElem_cons]
      rw [e] at hpo
      obtain ⟨_, q⟩ := panOK_spec _ _ _ _ hpo hb
      have hm : l[i].1 ∈ (l.map (·.1)).take j := by
        rw [List.mem_take_iff_getElem]
        exact ⟨i, by simp; omega, by simp⟩
      obtain ⟨p, hp, hn⟩ := q _ (.inr hm)
      unfold isPanI at ha
      rw [hp] at ha
      rw [panCall_eff ha] at hn; cases hn
  rcases denOpsD_cases hdis hdst l E LEnv.emp (fun _ => none) h hpw hx with hl | ⟨l1, i, c, l2, o, rfl, ho, hi, hr⟩
  · exact .inl (denOps_any HMok HBok hok t hl)
  right
  unfold drawOK at hok
  simp only [Bool.and_eq_true] at hok
  obtain ⟨⟨⟨hmx, hpm⟩, hed⟩, hpr⟩ := hok
  rw [Region.schedule, hmx, Bool.true_or, if_pos rfl]
  have hpm := List.isPerm_iff.1 hpm
  have hlt : ∀ i o e, ops[i]? = some o → e ∈ o.after.toList → Region.binds .any e = true → e.on < i := by
    intro i o e ho he hb
    rw [List.all_eq_true] at hed
    have h1 := hed (o, i) (by
      rw [List.mem_zipIdx_iff_getElem?]; simpa using ho)
    simp only [List.all_eq_true] at h1
    have h2 := h1 e he
    rw [bindsAny_eq, hb] at h2
    have h3 : Nat.blt e.on i = true := by simpa using h2
    exact Nat.le_of_ble_eq_true h3
  obtain ⟨s1, s2, s3⟩ := linearise_spec hlt t
  generalize Region.linearise .any ops t = σ at s1 s2 s3
  have hnd : ((l1 ++ (i, c) :: l2).map (·.1)).Nodup := (hpm.nodup_iff).2 List.nodup_range
  have hmap : (l1 ++ (i, c) :: l2).map (·.1) = l1.map (·.1) ++ i :: l2.map (·.1) := by simp
  rw [hmap] at hnd hpm hpo
  have hpre : ((l1 ++ [(i, c)]).map (·.1)) = l1.map (·.1) ++ [i] := by simp
  have hnd1 : (l1.map (·.1) ++ [i]).Nodup := by
    refine hnd.sublist ?_
    exact List.Sublist.append_left (List.Sublist.cons_cons _ (List.nil_sublist _)) _
  have hip : isPanI C ops i = true := by unfold isPanI; rw [ho]; exact hi
  obtain ⟨p1, p2⟩ := panOK_spec _ _ _ _ hpo hip
  have hp := preds_spec (ops := ops) s1 (fun i o e a b c => s3 i o e a b (by rw [← bindsAny_eq]; exact c)) ops.toList [] (by simp) (by simp)
  have hmem : ∀ x, x ∈ σ ↔ x ∈ l1.map (·.1) ++ i :: l2.map (·.1) := fun x => (s2.mem_iff).trans (hpm.mem_iff).symm
  obtain ⟨S, T, rfl⟩ := List.append_of_mem ((hmem i).2 (by simp))
  have hS : ∀ x ∈ S, x ∈ l1.map (·.1) := by
    intro x hxS
    have h1 := (hmem x).1 (List.mem_append_left _ hxS)
    rcases List.mem_append.1 h1 with h1 | h1
    · exact h1
    · exfalso
      have hb : Bef (S ++ i :: T) x i := (List.Sublist.append (List.singleton_sublist.2 hxS) (List.singleton_sublist.2 (List.mem_cons_self ..)) : List.Sublist ([x] ++ [i]) _)
      rcases List.mem_cons.1 h1 with rfl | h1
      · exact bef_asymm s1 hb hb
      · exact bef_asymm s1 hb (hp x i (p1 x h1))
  let T' := T.filter fun x => decide (x ∈ l1.map (·.1))
  have hT' : List.Sublist T' T := List.filter_sublist
  have hsub : List.Sublist (S ++ i :: T') (S ++ i :: T) := List.Sublist.append_left (List.Sublist.cons_cons _ hT') _
  have hperm : (l1.map (·.1) ++ [i]).Perm (S ++ i :: T') := by
    refine (List.perm_ext_iff_of_nodup hnd1 (s1.sublist hsub)).2 fun x => ?_
    constructor
    · intro hxm
      rcases List.mem_append.1 hxm with h1 | h1
      · have h2 := (hmem x).2 (List.mem_append_left _ h1)
        rcases List.mem_append.1 h2 with h2 | h2
        · exact List.mem_append_left _ h2
        · refine List.mem_append_right _ ?_
          rcases List.mem_cons.1 h2 with rfl | h2
          · exact List.mem_cons_self ..
          · exact List.mem_cons_of_mem _ (List.mem_filter.2 ⟨h2, by simpa using h1⟩)
      · rw [List.mem_singleton] at h1; subst h1; simp
    · intro hxm
      rcases List.mem_append.1 hxm with h1 | h1
      · exact List.mem_append_left _ (hS x h1)
      · rcases List.mem_cons.1 h1 with rfl | h1
        · simp
        grind
  have hnd2 : ((l1 ++ [(i, c)]).map (·.1)).Nodup := by rw [hpre]; exact hnd1
  obtain ⟨Af, Ck, Kk, E', L', h', hrun, hK, hks⟩ := denOps_fwd (l1 ++ [(i, c)]) E LEnv.emp (fun _ => none) h hnd2 hr
  have hprs : pairsOK P C.mo' ops (predsOf ops.toList) (l1 ++ [(i, c)]) = true := pairsOK_pre (b := l2) (by simpa using hpr)
  have hany := Run.any (S ++ i :: T') ((l1 ++ [(i, c)]).map (·.1)) (by rw [hpre]; exact hperm) (fun a b hab hba s s1' s2' q1 q2 => by
    obtain ⟨cj, hm, hc⟩ := pairs_spec hprs a b hab
    rcases hc with hc | ⟨oa, ob, hoa, hob, hsw⟩
    · exact absurd (hba.trans hsub) fun hba => bef_asymm s1 (hp b a hc) hba
    · refine swap_ok (C := C.mk') HMmk (fun hck hal f hf => HBmk b cj a oa ob f (List.mem_append_left _ hm |> fun x => by simpa using x) (memN_iff.1 hck) hoa hal hob hf) hoa hob ?_ hsw ?_ ?_ q1 q2
      · rintro rfl
        exact bef_asymm hnd2 hab hab
      · intro hck
        exact (hks b cj hm a (memN_iff.1 hck)).1 hab
      · intro hck hal
        have hmem := memN_iff.1 hck
        rw [(hks b cj hm a hmem).2.2]
        unfold ksOf
        refine List.mem_map.2 ⟨a, List.mem_filter.2 ⟨hmem, ?_⟩, rfl⟩
        rw [hoa]; exact hal) hrun
  obtain ⟨m, r1, r2⟩ := Run.split S hany
  cases r2 with
  | cons r2 r3 =>
    rename_i m1
    obtain ⟨d0, v, e1, e2, e3⟩ := of_atMark hK
    have hTn : ∀ j ∈ T', ∃ p, ops[j]? = some p ∧ neutral (cls P ops p) = true := fun j hj => p2 j (.inr (by simpa using (List.mem_filter.1 hj).2))
    have hTd : ∀ j ∈ T', ∀ p, ops[j]? = some p → p.dst ≠ some d0 := by
      intro j hj p hjp
      have hjl : j ∈ l1.map (·.1) := by simpa using (List.mem_filter.1 hj).2
      have hab : Bef ((l1 ++ [(i, c)]).map (·.1)) j i := by
        rw [hpre]
        exact (List.Sublist.append (List.singleton_sublist.2 hjl) (List.Sublist.refl _) : List.Sublist ([j] ++ [i]) _)
      obtain ⟨cj, hm, hc⟩ := pairs_spec hprs j i hab
      rcases hc with hc | ⟨oa, ob, hoa, hob, hsw⟩
      · exfalso
        have hb : Bef (S ++ i :: T) i j := by
          have : List.Sublist (i :: [j]) (i :: T) := List.Sublist.cons_cons _ (List.singleton_sublist.2 (hT'.subset hj))
          exact this.trans (List.sublist_append_right _ _)
        exact bef_asymm s1 (hp i j hc) hb
      · rw [hjp] at hoa; cases hoa
        rw [ho] at hob; cases hob
        unfold swaps at hsw
        rw [Bool.and_eq_true] at hsw
        exact apart_dst hsw.1 e1
    obtain ⟨n1, n2⟩ := run_neutral (C := C.mk') (d := d0) hTn hTd r3
    have hend : denOpsP P C W (some nb) ops pan (i :: T) m.1 m.2.1 K m.2.2 = some r := by
      refine pan_step (v := v) hdis ho hi r2 e1 ?_ ?_
      · rw [← n2]; exact e2
      · rw [← n1]; exact e3
    exact bwdP S _ m (fun j hj => p2 j (.inr (hS j hj))) r1 hend
theorem chk_HB {nb : Nat} {ops : Array Oper} {l : List (Nat × List Nat)} (hb : bOK P C ops l = true) : ∀ (j : Nat) cs (i : Nat) o p f, (j, cs) ∈ l → i ∈ cs → ops[i]? = some o → isAlc (cls P ops o) = true → ops[j]? = some p → sCall p = some f →
    (C.chk P nb ops l).isP f = false ∧ ∀ vs ca, (C.chk P nb ops l).st f vs = some ca → AntiB (nb + i) ca.m := by
  intro j cs i o p f a1 a2 a3 a4 a5 a6
  unfold bOK at hb
  have h1 := List.all_eq_true.1 hb _ a1
  simp only [a5, a6] at h1
  have h2 := List.all_eq_true.1 h1 _ a2
  have h3 : isAlcAt P ops i = true := by unfold isAlcAt; rw [a3]; exact a4
  rw [h3] at h2
  simp only [Bool.not_true, Bool.false_or, Bool.and_eq_true, Bool.not_eq_true'] at h2
  refine ⟨h2.1, fun vs ca hca => ?_⟩
  grind [Ctab.chk, Nat.eq_of_beq_eq_true, chkB_anti]
theorem panOK_chk {nb : Nat} {ops os : Array Oper} {l0 : List (Nat × List Nat)} {pr : List (List Nat)} : ∀ (l pre : List Nat), panOK P (C.chk P nb os l0) ops pr pre l = panOK P C ops pr pre l
  | [], _ => rfl
  | i :: l, pre => by
    unfold panOK
    rw [panOK_chk l (i :: pre)]
    rfl
theorem CtabOK.noPan (H : CtabOK P C) : CtabOK P C.ok := by
  refine ⟨fun f vs ca h1 => ?_, H.dy, fun f vs ca h1 h2 => ?_, fun f vs ca h => (by cases h), fun f vs ca h => (by cases h), fun f vs h => (by cases h)⟩
  · cases hst : C.st f vs with
    | some ca' => rw [ok_st _ _ _ hst] at h1; cases h1; exact H.st f vs _ hst
    | none =>
      simp only [Ctab.ok, hst] at h1
      cases hs : C.sp f vs with
      | none => rw [hs] at h1; cases h1
      | some ca' =>
        rw [hs] at h1
        simp only [Option.some.injEq] at h1
        subst h1
        obtain ⟨q1, q2, _⟩ := H.sp f vs ca' hs
        refine CallOK.of q1 fun F h x h1 hx => q2 F h x h1 ?_
        grind
  · have h1 : C.mo' f = true := h1
    unfold Ctab.mo' at h1
    rw [Bool.and_eq_true] at h1
    cases hst : C.st f vs with
    | some ca' => rw [ok_st _ _ _ hst] at h2; cases h2; exact H.mo f vs _ h1.1 hst
    | none =>
      simp only [Ctab.ok, hst] at h2
      cases hs : C.sp f vs with
      | none => rw [hs] at h2; cases h2
      | some ca' =>
        have := H.isP f vs ca' hs
        rw [this] at h1
        simp at h1
end Go.Ago
